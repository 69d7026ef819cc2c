import PyProof.Rows.All
import Wide.All
import OpenK.AllK
import Wide.FinOn
import Lean
import PySem.Challenge.RW_et5011_01
open PySem PySem.W PyProof.Rows
set_option Elab.async false
set_option linter.unusedVariables false
namespace Mine
set_option maxRecDepth 100000 in
set_option maxHeartbeats 8000000 in
open_top hd for PySem.Challenge.rw_et5011_01
end Mine
open PySem.Spec PySem.Calls
set_option maxRecDepth 100000
namespace Mine
noncomputable abbrev PP : Program := PySem.Challenge.rw_et5011_01.row.prog
noncomputable abbrev VV : Program := Mine.hd.view_39
noncomputable abbrev loose : List Str := looseW Mine.hd.view_39 [Str.ofString "filter_points", Str.ofString "_law_more"]
abbrev Loc := Str → Option Value
abbrev Led := List (Addr × Obj)
def upd (m : Loc) (x : Str) (v : Value) : Loc := fun y => if y = x then some v else m y

/-- the surroundings of a frame -/
structure Cfg where
  w : World
  mean : ExcName → Option Value
  mg : Str → Option Value
  mb : Str → Option Value
  A : Around
  A₀ : Around
  base : Heap
  h₀ : Heap
  fenv : Env
  outer : List Env
  L : Addr
  s₀ : Shared

structure Cfg.Ok (c : Cfg) : Prop where
  B : Below c.A₀ c.base c.outer c.h₀
  X : (hd.heap_39 c.w.params).In c.h₀
  T : Top VV loose c.mean c.mg c.mb c.h₀
  hA : c.A.frames = some (c.fenv :: c.outer)
  hf : c.fenv.frame = some c.L
  hke : c.fenv.scope.kind = .function
  hh : c.A.handled = none

def Keys (n : Led) : Prop := (n.map (·.1)).Nodup

structure St (c : Cfg) (m : Loc) (n : Led) (s : Shared) : Prop where
  ok : c.Ok
  F : Fr c.h₀ c.L s.heap m
  N : News c.h₀ c.L s.heap n
  nd : Keys n
  gens : s.gens = c.s₀.gens
  drawn : s.drawn = c.s₀.drawn
  os : s.os = c.s₀.os

theorem St.to {c : Cfg} {m m' : Loc} {n n' : Led} {s : Shared} {h' : Heap} {tk : Nat} (S : St c m n s) (F : Fr c.h₀ c.L h' m') (N : News c.h₀ c.L h' n') (nd : Keys n') : St c m' n' { s with heap := h', toks := tk } :=
  ⟨S.ok, F, N, nd, S.gens, S.drawn, S.os⟩
theorem St.tok {c : Cfg} {m : Loc} {n : Led} {s : Shared} {tk : Nat} (S : St c m n s) : St c m n { s with toks := tk } := S.to S.F S.N S.nd
theorem St.sub {c : Cfg} {m : Loc} {n n' : Led} {s : Shared} (S : St c m n s) (h : ∀ p ∈ n', p ∈ n) (nd : Keys n') : St c m n' s :=
  ⟨S.ok, S.F, fun p hp => S.N p (h p hp), nd, S.gens, S.drawn, S.os⟩
theorem St.X {c : Cfg} {m : Loc} {n : Led} {s : Shared} (S : St c m n s) : (hd.heap_39 c.w.params).In c.h₀ := S.ok.X
theorem St.fresh {c : Cfg} {m : Loc} {n : Led} {s : Shared} (S : St c m n s) : ∀ p ∈ n, p.1 < s.heap.objs.size := fun p hp => Heap.lt_size (S.N p hp).1
theorem keys_cons {n : Led} {x : Addr} {o : Obj} (nd : Keys n) (h : ∀ p ∈ n, p.1 < x) : Keys ((x, o) :: n) := by
  unfold Keys
  rw [List.map_cons, List.nodup_cons]
  refine ⟨fun hm => ?_, nd⟩
  obtain ⟨p, hp, e⟩ := List.mem_map.mp hm
  exact Nat.ne_of_lt (h p hp) e

/-- t runs from (m, n) without an exception and ends in Q -/
def Run {α : Type} (c : Cfg) (m : Loc) (n : Led) (t : Sem α) (Q : α → Loc → Led → Prop) : Prop :=
  ∀ s, St c m n s → wpAny (model PP c.w) c.A t (fun v s' => ∃ m' n', St c m' n' s' ∧ Q v m' n') (fun _ _ => False) s

section
variable {α β : Type} {c : Cfg} {m : Loc} {n : Led} {env : Env}
theorem Run.mono {t : Sem α} {Q Q' : α → Loc → Led → Prop} (h : Run c m n t Q) (k : ∀ v m' n', Q v m' n' → Q' v m' n') : Run c m n t Q' := fun s S =>
  wpAny_mono (h s S) (fun _ _ ⟨m', n', S', q⟩ => ⟨m', n', S', k _ _ _ q⟩) fun _ _ e => e
/-- what is known of the ledger while it runs -/
theorem Run.nd {t : Sem α} {Q : α → Loc → Led → Prop} (h : Keys n → Run c m n t Q) : Run c m n t Q := fun s S => h S.nd s S
theorem Run.ok {t : Sem α} {Q : α → Loc → Led → Prop} (h : c.Ok → Run c m n t Q) : Run c m n t Q := fun s S => h S.ok s S
theorem Run.keys {t : Sem α} {Q Q' : α → Loc → Led → Prop} (h : Run c m n t Q) (k : ∀ v m' n', Keys n' → Q v m' n' → Q' v m' n') : Run c m n t Q' := fun s S =>
  wpAny_mono (h s S) (fun _ _ ⟨m', n', S', q⟩ => ⟨m', n', S', k _ _ _ S'.nd q⟩) fun _ _ e => e
theorem Run.pure {a : α} {Q : α → Loc → Led → Prop} (h : Q a m n) : Run c m n (Pure.pure a) Q := fun _ S => wpAny_pure ⟨m, n, S, h⟩
theorem Run.bind {t : Sem α} {k : α → Sem β} {Q : β → Loc → Led → Prop} (h : Run c m n t (fun v m' n' => Run c m' n' (k v) Q)) : Run c m n (t >>= k) Q := fun s S =>
  wpAny_bind (wpAny_mono (h s S) (fun _ s' ⟨_, _, S', q⟩ => q s' S') fun _ _ e => e)
/-- forget entries of the ledger -/
theorem Run.weaken {n₁ : Led} {t : Sem α} {Q : α → Loc → Led → Prop} (h : Run c m n₁ t Q) (hs : ∀ p ∈ n₁, p ∈ n) (nd : Keys n₁) : Run c m n t Q := fun s S => h s (S.sub hs nd)
theorem Run.forget {t : Sem α} {Q Q' : α → Loc → Led → Prop} (h : Run c m n t Q) (k : ∀ v m' n', Keys n' → Q v m' n' → ∃ n'', (∀ p ∈ n'', p ∈ n') ∧ Keys n'' ∧ Q' v m' n'') : Run c m n t Q' := fun s S =>
  wpAny_mono (h s S) (fun _ _ ⟨m', n', S', q⟩ => let ⟨n'', h1, h2, h3⟩ := k _ _ _ S'.nd q; ⟨m', n'', S'.sub h1 h2, h3⟩) fun _ _ e => e

-- statements
theorem run_nil {Q : Flow → Loc → Led → Prop} (h : Q .next m n) : Run c m n (execs [] env) Q := fun _ S => wpAny_execs_nil ⟨m, n, S, h⟩
def Then (c : Cfg) (rest : List Stmt) (env : Env) (Q : Flow → Loc → Led → Prop) (f : Flow) (m : Loc) (n : Led) : Prop := match f with
  | .next => Run c m n (execs rest env) Q
  | f => Q f m n
theorem run_cons {st : Stmt} {rest : List Stmt} {Q : Flow → Loc → Led → Prop} (h : Run c m n (exec st env) (Then c rest env Q)) : Run c m n (execs (st :: rest) env) Q := fun s S =>
  wpAny_execs_cons (wpAny_mono (h s S) (fun f s' ⟨m', n', S', q⟩ => by cases f <;> first | exact q s' S' | exact ⟨m', n', S', q⟩) fun _ _ e => e)
theorem then_next {rest : List Stmt} {Q : Flow → Loc → Led → Prop} (h : Run c m n (execs rest env) Q) : Then c rest env Q .next m n := h
theorem then_ret {rest : List Stmt} {Q : Flow → Loc → Led → Prop} {v : Value} (h : Q (.ret v) m n) : Then c rest env Q (.ret v) m n := h
theorem then_brk {rest : List Stmt} {Q : Flow → Loc → Led → Prop} (h : Q .brk m n) : Then c rest env Q .brk m n := h
theorem then_cont {rest : List Stmt} {Q : Flow → Loc → Led → Prop} (h : Q .cont m n) : Then c rest env Q .cont m n := h

theorem run_ret {e : Expr} {pos : Pos} {Q : Flow → Loc → Led → Prop} (h : Run c m n (eval e env) (fun v => Q (.ret v))) : Run c m n (exec (.Return (some e) pos) env) Q := fun s S =>
  wpAny_Return_some (h s S)
theorem run_ret0 {pos : Pos} {Q : Flow → Loc → Led → Prop} (h : Q (.ret .none) m n) : Run c m n (exec (.Return none pos) env) Q := fun _ S => wpAny_Return_none ⟨m, n, S, h⟩
theorem run_brk {pos : Pos} {Q : Flow → Loc → Led → Prop} (h : Q .brk m n) : Run c m n (exec (.Break pos) env) Q := fun _ S => wpAny_Break ⟨m, n, S, h⟩
theorem run_cont {pos : Pos} {Q : Flow → Loc → Led → Prop} (h : Q .cont m n) : Run c m n (exec (.Continue pos) env) Q := fun _ S => wpAny_Continue ⟨m, n, S, h⟩
theorem run_if {test : Expr} {body orelse : List Stmt} {pos : Pos} {Q : Flow → Loc → Led → Prop}
    (h : Run c m n (isTrue test env (eval test env)) (fun b m' n' => if b then Run c m' n' (execs body env) Q else Run c m' n' (execs orelse env) Q)) : Run c m n (exec (.If test body orelse pos) env) Q := fun s S =>
  wpAny_If (wpAny_mono (h s S) (fun b s' ⟨m', n', S', q⟩ => by cases b <;> simp only [Bool.false_eq_true, if_false, if_true] at q ⊢ <;> exact q s' S') fun _ _ e => e)

-- locals
theorem fr_upd {h : Heap} {x : Str} {v : Value} (F : Fr c.h₀ c.L h (fun y => if y = x then some v else m y)) : Fr c.h₀ c.L h (upd m x v) := F
theorem run_store {x : Str} {v : Value} {Q : Unit → Loc → Led → Prop} (h : Q () (upd m x v) n) (hl : env.locals = c.L := by rfl) (hk : env.scope.kind = .function := by rfl) (hx : env.kindOf x = some .local := by rfl) :
    Run c m n (storeName env x v) Q := fun s S =>
  wpAny_storeName_local hx (hl ▸ S.F.ns) (fun h' hn hs => ⟨upd m x v, n, S.to (S.F.set (hl ▸ hn) (hl ▸ hs)) (S.N.set (hl ▸ hs)) S.nd, h⟩)
    (by show (env.scope.kind == .class || (env.scope.kind == .module && env.locals != env.globals)) = false; rw [hk]; rfl)
theorem run_local {x : Str} {pos : Pos} {v : Value} {Q : Value → Loc → Led → Prop} (hv : m x = some v) (h : Q v m n) (hl : env.locals = c.L := by rfl) (hk : env.scope.kind = .function := by rfl) (hx : env.kindOf x = some .local := by rfl)
    (hd : (x == ("__debug__" : Str)) = false := by decide) : Run c m n (eval (.Name x pos) env) Q := fun _ S =>
  wpAny_Name (wpAny_loadName_local hk hx (hl ▸ S.F.ns) hv ⟨m, n, S, h⟩) hd
theorem run_glob {x : Str} {pos : Pos} {v : Value} {Q : Value → Loc → Led → Prop} (e : ∀ P, nsIn (hd.heap_39 P) mainGlobals x = some (some v)) (h : Q v m n) (hg : env.globals = mainGlobals := by rfl) (hk : env.scope.kind = .function := by rfl)
    (hx : env.kindOf x = some .globalImplicit := by rfl) (hd : (x == ("__debug__" : Str)) = false := by decide) : Run c m n (eval (.Name x pos) env) Q := fun _ S =>
  Name_function_global hk hx (loadGlobal_global (hg ▸ S.ok.T.g.keeps S.F.keep) (mg_of S.X S.ok.T.g (e _)) ⟨m, n, S, h⟩) hd
theorem run_blt {x : Str} {pos : Pos} {v : Value} {Q : Value → Loc → Led → Prop} (e : ∀ P, nsIn (hd.heap_39 P) mainGlobals x = some none) (hv : bootBuiltins x = some v) (hn : x ≠ "__name__") (h : Q v m n)
    (hg : env.globals = mainGlobals := by rfl) (hgb : env.builtins = builtinsNs := by rfl) (hk : env.scope.kind = .function := by rfl)
    (hx : env.kindOf x = some .globalImplicit := by rfl) (hd : (x == ("__debug__" : Str)) = false := by decide) : Run c m n (eval (.Name x pos) env) Q := fun _ S =>
  Name_function_global hk hx (loadGlobal_builtin (hg ▸ S.ok.T.g.keeps S.F.keep) (mg_none_of S.X S.ok.T.g (e _)) (hgb ▸ S.ok.T.b.keeps S.F.keep) ((S.ok.T.builtins x hn).trans hv) ⟨m, n, S, h⟩) hd
theorem run_assign {x : Str} {pos' : Pos} {value : Expr} {pos : Pos} {Q : Flow → Loc → Led → Prop} (h : Run c m n (eval value env) (fun v m' n' => Q .next (upd m' x v) n'))
    (hl : env.locals = c.L := by rfl) (hk : env.scope.kind = .function := by rfl) (hx : env.kindOf x = some .local := by rfl) (hs : swapsWith value (some (.Name x pos')) pos.line env = Pure.pure false := by rfl) :
    Run c m n (exec (.Assign [.Name x pos'] value pos) env) Q := fun s S =>
  wpAny_Assign_Name (wpAny_mono (h s S) (fun v s' ⟨m', n', S', q⟩ => run_store (Q := fun _ m'' n'' => Q .next m'' n'') q hl hk hx s' S') fun _ _ e => e) hs
theorem run_aug {x : Str} {pos' : Pos} {op : Operator} {value : Expr} {pos : Pos} {old : Value} {Q : Flow → Loc → Led → Prop} (hv : m x = some old) (h : Run c m n (eval value env) (fun v m' n' => Run c m' n' (inplaceOp op old v) (fun r m'' n'' => Q .next (upd m'' x r) n'')))
    (hl : env.locals = c.L := by rfl) (hk : env.scope.kind = .function := by rfl) (hx : env.kindOf x = some .local := by rfl) :
    Run c m n (exec (.AugAssign (.Name x pos') op value pos) env) Q := fun s S =>
  wpAny_AugAssign_Name (wpAny_loadName_local hk hx (hl ▸ S.F.ns) hv (wpAny_mono (h s S) (fun _ s' ⟨_, _, S', q⟩ => wpAny_mono (q s' S') (fun _ s'' ⟨_, _, S'', q'⟩ =>
    run_store (Q := fun _ m'' n'' => Q .next m'' n'') q' hl hk hx s'' S'') fun _ _ e => e) fun _ _ e => e))

-- expressions
theorem run_int {i : Int} {k : Nat} {pos : Pos} {Q : Value → Loc → Led → Prop} (h : ∀ t, Q (.int i t) m n) : Run c m n (eval (.Constant (.int i) k pos) env) Q := fun _ S => wpAny_Constant_int ⟨m, n, S.tok, h _⟩
theorem run_bool {b : Bool} {k : Nat} {pos : Pos} {Q : Value → Loc → Led → Prop} (h : Q (.bool b) m n) : Run c m n (eval (.Constant (.bool b) k pos) env) Q := fun _ S => wpAny_Constant_bool ⟨m, n, S, h⟩
theorem run_none {k : Nat} {pos : Pos} {Q : Value → Loc → Led → Prop} (h : Q .none m n) : Run c m n (eval (.Constant .none k pos) env) Q := fun _ S => wpAny_Constant_none ⟨m, n, S, h⟩
theorem run_bin {l r : Expr} {op : Operator} {pos : Pos} {Q : Value → Loc → Led → Prop} (h : Run c m n (eval l env) (fun a m₁ n₁ => Run c m₁ n₁ (eval r env) (fun b m₂ n₂ => Run c m₂ n₂ (binaryOp op a b) Q))) :
    Run c m n (eval (.BinOp l op r pos) env) Q := fun s S =>
  wpAny_BinOp (wpAny_mono (h s S) (fun _ s' ⟨_, _, S', q⟩ => wpAny_mono (q s' S') (fun _ s'' ⟨_, _, S'', q'⟩ => q' s'' S'') fun _ _ e => e) fun _ _ e => e)
theorem behind_of {op : CmpOp} {r : Expr} (h : (op == .In || op == .NotIn) = false) : behindInMarks op r = false := by
  unfold behindInMarks
  cases r <;> simp [h]
theorem run_cmp {l r : Expr} {op : CmpOp} {pos : Pos} {Q : Value → Loc → Led → Prop} (h : Run c m n (eval l env) (fun a m₁ n₁ => Run c m₁ n₁ (eval r env) (fun b m₂ n₂ => Run c m₂ n₂ (compareOp op a b) Q)))
    (hop : (op == .In || op == .NotIn) = false := by rfl) : Run c m n (eval (.Compare l [op] [r] pos) env) Q := fun s S =>
  wpAny_Compare1 (wpAny_mono (h s S) (fun _ s' ⟨_, _, S', q⟩ => wpAny_mono (q s' S') (fun _ s'' ⟨_, _, S'', q'⟩ => q' s'' S'') fun _ _ e => e) fun _ _ e => e) (behind_of hop)
theorem run_un {x : Expr} {op : UnaryOp} {pos : Pos} {Q : Value → Loc → Led → Prop} (h : Run c m n (eval x env) (fun a m₁ n₁ => Run c m₁ n₁ (unaryOp op a) Q)) : Run c m n (eval (.UnaryOp op x pos) env) Q := fun s S =>
  PySem.wpAny_UnaryOp (wpAny_mono (h s S) (fun _ s' ⟨_, _, S', q⟩ => q s' S') fun _ _ e => e)
theorem run_ifexp {test body orelse : Expr} {pos : Pos} {Q : Value → Loc → Led → Prop}
    (h : Run c m n (isTrue test env (eval test env)) (fun b m' n' => if b then Run c m' n' (eval body env) Q else Run c m' n' (eval orelse env) Q)) : Run c m n (eval (.IfExp test body orelse pos) env) Q := fun s S =>
  PySem.wpAny_IfExp (wpAny_mono (h s S) (fun b s' ⟨m', n', S', q⟩ => by cases b <;> simp only [Bool.false_eq_true, if_false, if_true] at q ⊢ <;> exact q s' S') fun _ _ e => e)
theorem run_and {e₁ e₂ : Expr} {rest : List Expr} {pos : Pos} {Q : Value → Loc → Led → Prop}
    (h : Run c m n (eval e₁ env) (fun v m₁ n₁ => Run c m₁ n₁ (truthy v) (fun b m₂ n₂ => if b then Run c m₂ n₂ (eval (.BoolOp .And (e₂ :: rest) pos) env) Q else Q v m₂ n₂))) :
    Run c m n (eval (.BoolOp .And (e₁ :: e₂ :: rest) pos) env) Q := fun s S =>
  BoolOp_and (wpAny_mono (h s S) (fun _ s' ⟨_, _, S', q⟩ => wpAny_mono (q s' S') (fun b s'' ⟨m₂, n₂, S'', q'⟩ => by cases b <;> simp only [Bool.false_eq_true, if_false, if_true] at q' ⊢ <;> first | exact q' s'' S'' | exact ⟨m₂, n₂, S'', q'⟩) fun _ _ e => e) fun _ _ e => e)
theorem run_or {e₁ e₂ : Expr} {rest : List Expr} {pos : Pos} {Q : Value → Loc → Led → Prop}
    (h : Run c m n (eval e₁ env) (fun v m₁ n₁ => Run c m₁ n₁ (truthy v) (fun b m₂ n₂ => if b then Q v m₂ n₂ else Run c m₂ n₂ (eval (.BoolOp .Or (e₂ :: rest) pos) env) Q))) :
    Run c m n (eval (.BoolOp .Or (e₁ :: e₂ :: rest) pos) env) Q := fun s S =>
  BoolOp_or (wpAny_mono (h s S) (fun _ s' ⟨_, _, S', q⟩ => wpAny_mono (q s' S') (fun b s'' ⟨m₂, n₂, S'', q'⟩ => by cases b <;> simp only [Bool.false_eq_true, if_false, if_true] at q' ⊢ <;> first | exact q' s'' S'' | exact ⟨m₂, n₂, S'', q'⟩) fun _ _ e => e) fun _ _ e => e)
theorem run_one {e₁ : Expr} {op : BoolOp} {pos : Pos} {Q : Value → Loc → Led → Prop} (h : Run c m n (eval e₁ env) Q) : Run c m n (eval (.BoolOp op [e₁] pos) env) Q := fun s S => BoolOp_one (h s S)

theorem truth_bool {b : Bool} {Q : Bool → Loc → Led → Prop} (h : Q b m n) : Run c m n (truthy (.bool b)) Q := fun _ S => wpAny_truthy_bool ⟨m, n, S, h⟩
theorem truth_none {Q : Bool → Loc → Led → Prop} (h : Q false m n) : Run c m n (truthy .none) Q := fun _ S => truthy_none ⟨m, n, S, h⟩
theorem is_not {x : Expr} {pos : Pos} {whole : Sem Value} {Q : Bool → Loc → Led → Prop} (h : Run c m n (isTrue x env (eval x env)) (fun b => Q (!b))) : Run c m n (isTrue (.UnaryOp .Not x pos) env whole) Q := fun s S =>
  isTrue_not (h s S)
theorem is_and {x : Expr} {rest : List Expr} {pos : Pos} {whole : Sem Value} {Q : Bool → Loc → Led → Prop}
    (h : Run c m n (isTrue x env (eval x env)) (fun b m' n' => if b then Run c m' n' (isTrue (.BoolOp .And rest pos) env whole) Q else Q false m' n')) : Run c m n (isTrue (.BoolOp .And (x :: rest) pos) env whole) Q := fun s S =>
  isTrue_and (wpAny_mono (h s S) (fun b s' ⟨m', n', S', q⟩ => by cases b <;> simp only [Bool.false_eq_true, if_false, if_true] at q ⊢ <;> first | exact q s' S' | exact ⟨m', n', S', q⟩) fun _ _ e => e)
theorem is_or {x : Expr} {rest : List Expr} {pos : Pos} {whole : Sem Value} {Q : Bool → Loc → Led → Prop}
    (h : Run c m n (isTrue x env (eval x env)) (fun b m' n' => if b then Q true m' n' else Run c m' n' (isTrue (.BoolOp .Or rest pos) env whole) Q)) : Run c m n (isTrue (.BoolOp .Or (x :: rest) pos) env whole) Q := fun s S =>
  isTrue_or (wpAny_mono (h s S) (fun b s' ⟨m', n', S', q⟩ => by cases b <;> simp only [Bool.false_eq_true, if_false, if_true] at q ⊢ <;> first | exact q s' S' | exact ⟨m', n', S', q⟩) fun _ _ e => e)
theorem is_and0 {pos : Pos} {whole : Sem Value} {Q : Bool → Loc → Led → Prop} (h : Q true m n) : Run c m n (isTrue (.BoolOp .And [] pos) env whole) Q := fun _ S => isTrue_and_nil ⟨m, n, S, h⟩
theorem is_or0 {pos : Pos} {whole : Sem Value} {Q : Bool → Loc → Led → Prop} (h : Q false m n) : Run c m n (isTrue (.BoolOp .Or [] pos) env whole) Q := fun _ S => isTrue_or_nil ⟨m, n, S, h⟩
theorem is_cmp {l r : Expr} {op : CmpOp} {pos : Pos} {whole : Sem Value} {Q : Bool → Loc → Led → Prop} (h : Run c m n (eval l env) (fun a m₁ n₁ => Run c m₁ n₁ (eval r env) (fun b m₂ n₂ => Run c m₂ n₂ (compareOp op a b) (fun v m₃ n₃ => Run c m₃ n₃ (truthy v) Q))))
    (hop : (op == .In || op == .NotIn) = false := by rfl) : Run c m n (isTrue (.Compare l [op] [r] pos) env whole) Q := fun s S =>
  wpAny_isTrue_Compare1 (wpAny_mono (h s S) (fun _ s' ⟨_, _, S', q⟩ => wpAny_mono (q s' S') (fun _ s'' ⟨_, _, S'', q'⟩ => wpAny_mono (q' s'' S'') (fun _ s₃ ⟨_, _, S₃, q₃⟩ => q₃ s₃ S₃) fun _ _ e => e) fun _ _ e => e) fun _ _ e => e) (behind_of hop)
theorem is_plain {e : Expr} {whole : Sem Value} {Q : Bool → Loc → Led → Prop} (h : Run c m n whole (fun v m₁ n₁ => Run c m₁ n₁ (truthy v) Q))
    (he : isTrue e env whole = (do let v ← whole; standAt e.pos; holding [v] (truthy v)) := by rfl) : Run c m n (isTrue e env whole) Q := fun s S =>
  isTrue_plain (wpAny_mono (h s S) (fun _ s' ⟨_, _, S', q⟩ => q s' S') fun _ _ e => e) he
end
end Mine
namespace Mine
/-- coordinates are no wider than this -/
def BB : Nat := 2 ^ 21 + 64
def Sml (a : Int) : Prop := a.natAbs < 2 ^ BB
def Sm1 (a : Int) : Prop := a.natAbs < 2 ^ (BB + 1)
theorem Sml.sub {a b : Int} (h1 : Sml a) (h2 : Sml b) : Sm1 (a - b) := by
  unfold Sml Sm1 at *; rw [Nat.pow_succ]; generalize 2 ^ BB = B at *; omega
theorem Sml.add {a b : Int} (h1 : Sml a) (h2 : Sml b) : Sm1 (a + b) := by
  unfold Sml Sm1 at *; rw [Nat.pow_succ]; generalize 2 ^ BB = B at *; omega
theorem bits_le {a : Int} {k : Nat} (h : a.natAbs < 2 ^ k) : Builtin.Int.intBits a ≤ k := by
  unfold Builtin.Int.intBits
  split
  · exact Nat.zero_le _
  · rename_i h0
    have : a.natAbs ≠ 0 := by simpa using h0
    exact (Nat.log2_lt this).mpr h
theorem Sm1.mul {a b : Int} (h1 : Sm1 a) (h2 : Sm1 b) : IntMulOk a b := by
  have e1 := bits_le h1
  have e2 := bits_le h2
  unfold IntMulOk Builtin.Int.intTooBig
  have e3 : bitsLine = 134217728 := by decide
  have e4 : BB = 2097216 := by decide
  rw [e4] at e1 e2
  rw [e3]
  simp only [Bool.and_eq_true, decide_eq_true_eq, not_and]
  intro _ h
  omega

section
variable {α : Type} {c : Cfg} {m : Loc} {n : Led} {env : Env}
/-- t gives a value of P and turns neither the locals nor the ledger -/
def Ev (c : Cfg) (m : Loc) (n : Led) (t : Sem α) (P : α → Prop) : Prop := Run c m n t (fun v m' n' => m' = m ∧ n' = n ∧ P v)
abbrev EvI (c : Cfg) (m : Loc) (n : Led) (env : Env) (e : Expr) (i : Int) : Prop := Ev c m n (eval e env) (fun v => ∃ t, v = .int i t)
abbrev EvV (c : Cfg) (m : Loc) (n : Led) (env : Env) (e : Expr) (v : Value) : Prop := Ev c m n (eval e env) (fun v' => v' = v)
abbrev EvB (c : Cfg) (m : Loc) (n : Led) (env : Env) (e : Expr) (b : Bool) : Prop := EvV c m n env e (.bool b)
abbrev TrB (c : Cfg) (m : Loc) (n : Led) (env : Env) (e : Expr) (b : Bool) : Prop := Ev c m n (isTrue e env (eval e env)) (fun b' => b' = b)
theorem Ev.use {t : Sem α} {P : α → Prop} {Q : α → Loc → Led → Prop} (h : Ev c m n t P) (k : ∀ v, P v → Q v m n) : Run c m n t Q := Run.mono h fun v m' n' ⟨e1, e2, p⟩ => by subst e1; subst e2; exact k v p
theorem Ev.ret {t : Sem α} {P : α → Prop} (h : Run c m n t (fun v m' n' => m' = m ∧ n' = n ∧ P v)) : Ev c m n t P := h
theorem useI {e : Expr} {i : Int} {Q : Value → Loc → Led → Prop} (h : EvI c m n env e i) (k : ∀ t, Q (.int i t) m n) : Run c m n (eval e env) Q := h.use fun v ⟨t, e⟩ => e ▸ k t
theorem useV {e : Expr} {v : Value} {Q : Value → Loc → Led → Prop} (h : EvV c m n env e v) (k : Q v m n) : Run c m n (eval e env) Q := h.use fun v' e => e ▸ k
theorem useT {e : Expr} {b : Bool} {Q : Bool → Loc → Led → Prop} (h : TrB c m n env e b) (k : Q b m n) : Run c m n (isTrue e env (eval e env)) Q := h.use fun v' e => e ▸ k

-- primitives upon ints
section
variable {a b : Int} {t u : Tok}
theorem run_add {Q : Value → Loc → Led → Prop} (h : ∀ t', Q (.int (a + b) t') m n) : Run c m n (binaryOp .Add (.int a t) (.int b u)) Q := fun _ S => PyProof.Rows.add_int ⟨m, n, S.tok, h _⟩
theorem run_sub {Q : Value → Loc → Led → Prop} (h : ∀ t', Q (.int (a - b) t') m n) : Run c m n (binaryOp .Sub (.int a t) (.int b u)) Q := fun _ S => PyProof.Rows.sub_int ⟨m, n, S.tok, h _⟩
theorem run_mul {Q : Value → Loc → Led → Prop} (hm : IntMulOk a b) (h : ∀ t', Q (.int (a * b) t') m n) : Run c m n (binaryOp .Mult (.int a t) (.int b u)) Q := fun _ S => PyProof.Rows.mul_int ⟨m, n, S.tok, h _⟩ hm
theorem run_mod {Q : Value → Loc → Led → Prop} (hb : b ≠ 0) (h : ∀ t', Q (.int (a.fmod b) t') m n) : Run c m n (binaryOp .Mod (.int a t) (.int b u)) Q := fun _ S => mod_int' hb ⟨m, n, S.tok, h _⟩
theorem run_div {Q : Value → Loc → Led → Prop} (hb : b ≠ 0) (hp : Builtin.divisionGoesByPylong a b = false) (h : ∀ t', Q (.int (a.fdiv b) t') m n) : Run c m n (binaryOp .FloorDiv (.int a t) (.int b u)) Q := fun _ S => floordiv_int hb ⟨m, n, S.tok, h _⟩ (.inl hp)
theorem run_iadd {Q : Value → Loc → Led → Prop} (h : ∀ t', Q (.int (a + b) t') m n) : Run c m n (inplaceOp .Add (.int a t) (.int b u)) Q := fun _ S => PyProof.Rows.iadd_int ⟨m, n, S.tok, h _⟩
theorem run_isub {Q : Value → Loc → Led → Prop} (h : ∀ t', Q (.int (a - b) t') m n) : Run c m n (inplaceOp .Sub (.int a t) (.int b u)) Q := fun _ S => PyProof.Rows.isub_int ⟨m, n, S.tok, h _⟩
theorem run_neg {Q : Value → Loc → Led → Prop} (h : ∀ t', Q (.int (-a) t') m n) : Run c m n (unaryOp .USub (.int a t)) Q := fun _ S => PyProof.Rows.neg_int ⟨m, n, S.tok, h _⟩
theorem run_lt {Q : Value → Loc → Led → Prop} (h : Q (.bool (decide (a < b))) m n) : Run c m n (compareOp .Lt (.int a t) (.int b u)) Q := fun _ S => PyProof.Rows.lt_int ⟨m, n, S, h⟩
theorem run_gt {Q : Value → Loc → Led → Prop} (h : Q (.bool (decide (b < a))) m n) : Run c m n (compareOp .Gt (.int a t) (.int b u)) Q := fun _ S => PyProof.Rows.gt_int ⟨m, n, S, h⟩
theorem run_le {Q : Value → Loc → Led → Prop} (h : Q (.bool (decide (a ≤ b))) m n) : Run c m n (compareOp .LtE (.int a t) (.int b u)) Q := fun _ S => PyProof.Rows.le_int ⟨m, n, S, h⟩
theorem run_ge {Q : Value → Loc → Led → Prop} (h : Q (.bool (decide (b ≤ a))) m n) : Run c m n (compareOp .GtE (.int a t) (.int b u)) Q := fun _ S => PyProof.Rows.ge_int ⟨m, n, S, h⟩
theorem run_eq {Q : Value → Loc → Led → Prop} (h : Q (.bool (decide (a = b))) m n) : Run c m n (compareOp .Eq (.int a t) (.int b u)) Q := fun _ S => PyProof.Rows.eq_int ⟨m, n, S, by rw [show (a == b) = decide (a = b) from rfl]; exact h⟩
theorem run_ne {Q : Value → Loc → Led → Prop} (h : Q (.bool (!decide (a = b))) m n) : Run c m n (compareOp .NotEq (.int a t) (.int b u)) Q := fun _ S => PyProof.Rows.ne_int ⟨m, n, S, by rw [show (a != b) = !decide (a = b) from rfl]; exact h⟩
theorem run_isb {x y : Bool} {Q : Value → Loc → Led → Prop} (h : Q (.bool (x == y)) m n) : Run c m n (compareOp .Is (.bool x) (.bool y)) Q := fun _ S => is_bool ⟨m, n, S, h⟩
theorem run_isnotb {x y : Bool} {Q : Value → Loc → Led → Prop} (h : Q (.bool (x != y)) m n) : Run c m n (compareOp .IsNot (.bool x) (.bool y)) Q := fun _ S => isnot_bool ⟨m, n, S, h⟩
theorem run_isnone {v : Value} {Q : Value → Loc → Led → Prop} (h : Q (.bool (v == .none)) m n) : Run c m n (compareOp .Is v .none) Q := fun _ S => is_none ⟨m, n, S, h⟩
theorem truth_int {Q : Bool → Loc → Led → Prop} (h : Q (a != 0) m n) : Run c m n (truthy (.int a t)) Q := fun _ S => truthy_int ⟨m, n, S, h⟩
end
theorem run_isref {x y : Addr} {ox oy : Obj} {Q : Value → Loc → Led → Prop} (hx : (x, ox) ∈ n) (hy : (y, oy) ∈ n) (hb : ox.cls ≠ .type "tuple") (h : Q (.bool (decide (x = y))) m n) : Run c m n (compareOp .Is (.ref x) (.ref y)) Q := fun s S => by
  by_cases e : x = y
  · subst e; exact wpAny_is_ref_self ⟨m, n, S, by simpa using h⟩
  · exact wpAny_is_ref_other e (S.N _ hx).1 (S.N _ hy).1 hb ⟨m, n, S, by simpa [e] using h⟩
theorem run_isnotref {x y : Addr} {ox oy : Obj} {Q : Value → Loc → Led → Prop} (hx : (x, ox) ∈ n) (hy : (y, oy) ∈ n) (hb : ox.cls ≠ .type "tuple") (h : Q (.bool (!decide (x = y))) m n) : Run c m n (compareOp .IsNot (.ref x) (.ref y)) Q := fun s S => by
  by_cases e : x = y
  · subst e; exact wpAny_isNot_ref_self ⟨m, n, S, by simpa using h⟩
  · exact wpAny_isNot_ref_other e (S.N _ hx).1 (S.N _ hy).1 hb ⟨m, n, S, by simpa [e] using h⟩

-- pure expressions
theorem ev_local {x : Str} {pos : Pos} {v : Value} (hv : m x = some v) (hl : env.locals = c.L := by rfl) (hk : env.scope.kind = .function := by rfl) (hx : env.kindOf x = some .local := by rfl)
    (hd : (x == ("__debug__" : Str)) = false := by decide) : EvV c m n env (.Name x pos) v := run_local hv ⟨rfl, rfl, rfl⟩ hl hk hx hd
theorem ev_localI {x : Str} {pos : Pos} {i : Int} {t : Tok} (hv : m x = some (.int i t)) (hl : env.locals = c.L := by rfl) (hk : env.scope.kind = .function := by rfl) (hx : env.kindOf x = some .local := by rfl)
    (hd : (x == ("__debug__" : Str)) = false := by decide) : EvI c m n env (.Name x pos) i := run_local hv ⟨rfl, rfl, t, rfl⟩ hl hk hx hd
theorem ev_int {i : Int} {k : Nat} {pos : Pos} : EvI c m n env (.Constant (.int i) k pos) i := run_int fun t => ⟨rfl, rfl, t, rfl⟩
theorem ev_bool {b : Bool} {k : Nat} {pos : Pos} : EvB c m n env (.Constant (.bool b) k pos) b := run_bool ⟨rfl, rfl, rfl⟩
theorem ev_none {k : Nat} {pos : Pos} : EvV c m n env (.Constant .none k pos) .none := run_none ⟨rfl, rfl, rfl⟩
theorem Ev.then {β : Type} {t : Sem α} {P : α → Prop} {t' : α → Sem β} {Q : β → Loc → Led → Prop} (h : Ev c m n t P) (k : ∀ v, P v → Run c m n (t' v) Q) : Run c m n t (fun v m' n' => Run c m' n' (t' v) Q) := h.use k
section
variable {l r : Expr} {a b : Int} {pos : Pos}
theorem ev_add (h1 : EvI c m n env l a) (h2 : EvI c m n env r b) : EvI c m n env (.BinOp l .Add r pos) (a + b) := run_bin (useI h1 fun _ => useI h2 fun _ => run_add fun t => ⟨rfl, rfl, t, rfl⟩)
theorem ev_sub (h1 : EvI c m n env l a) (h2 : EvI c m n env r b) : EvI c m n env (.BinOp l .Sub r pos) (a - b) := run_bin (useI h1 fun _ => useI h2 fun _ => run_sub fun t => ⟨rfl, rfl, t, rfl⟩)
theorem ev_mul (h1 : EvI c m n env l a) (h2 : EvI c m n env r b) (hm : IntMulOk a b) : EvI c m n env (.BinOp l .Mult r pos) (a * b) := run_bin (useI h1 fun _ => useI h2 fun _ => run_mul hm fun t => ⟨rfl, rfl, t, rfl⟩)
theorem ev_mod (h1 : EvI c m n env l a) (h2 : EvI c m n env r b) (hb : b ≠ 0) : EvI c m n env (.BinOp l .Mod r pos) (a.fmod b) := run_bin (useI h1 fun _ => useI h2 fun _ => run_mod hb fun t => ⟨rfl, rfl, t, rfl⟩)
theorem ev_div (h1 : EvI c m n env l a) (h2 : EvI c m n env r b) (hb : b ≠ 0) (hp : Builtin.divisionGoesByPylong a b = false) : EvI c m n env (.BinOp l .FloorDiv r pos) (a.fdiv b) := run_bin (useI h1 fun _ => useI h2 fun _ => run_div hb hp fun t => ⟨rfl, rfl, t, rfl⟩)
theorem ev_neg (h1 : EvI c m n env l a) : EvI c m n env (.UnaryOp .USub l pos) (-a) := run_un (useI h1 fun _ => run_neg fun t => ⟨rfl, rfl, t, rfl⟩)
theorem ev_lt (h1 : EvI c m n env l a) (h2 : EvI c m n env r b) : EvB c m n env (.Compare l [.Lt] [r] pos) (decide (a < b)) := run_cmp (useI h1 fun _ => useI h2 fun _ => run_lt ⟨rfl, rfl, rfl⟩)
theorem ev_gt (h1 : EvI c m n env l a) (h2 : EvI c m n env r b) : EvB c m n env (.Compare l [.Gt] [r] pos) (decide (b < a)) := run_cmp (useI h1 fun _ => useI h2 fun _ => run_gt ⟨rfl, rfl, rfl⟩)
theorem ev_le (h1 : EvI c m n env l a) (h2 : EvI c m n env r b) : EvB c m n env (.Compare l [.LtE] [r] pos) (decide (a ≤ b)) := run_cmp (useI h1 fun _ => useI h2 fun _ => run_le ⟨rfl, rfl, rfl⟩)
theorem ev_ge (h1 : EvI c m n env l a) (h2 : EvI c m n env r b) : EvB c m n env (.Compare l [.GtE] [r] pos) (decide (b ≤ a)) := run_cmp (useI h1 fun _ => useI h2 fun _ => run_ge ⟨rfl, rfl, rfl⟩)
theorem ev_eq (h1 : EvI c m n env l a) (h2 : EvI c m n env r b) : EvB c m n env (.Compare l [.Eq] [r] pos) (decide (a = b)) := run_cmp (useI h1 fun _ => useI h2 fun _ => run_eq ⟨rfl, rfl, rfl⟩)
theorem ev_ne (h1 : EvI c m n env l a) (h2 : EvI c m n env r b) : EvB c m n env (.Compare l [.NotEq] [r] pos) (!decide (a = b)) := run_cmp (useI h1 fun _ => useI h2 fun _ => run_ne ⟨rfl, rfl, rfl⟩)
-- tests
theorem tr_cmp {op : CmpOp} {b' : Bool} (h : EvB c m n env (.Compare l [op] [r] pos) b') (hop : (op == .In || op == .NotIn) = false := by rfl) : TrB c m n env (.Compare l [op] [r] pos) b' := by
  have hm := behind_of (r := r) hop
  intro s S
  have h' := h s S
  intro Γ p hΓ
  have h₁ := h' Γ p hΓ
  rw [eval_Compare1] at h₁
  rw [isTrue_Compare1]
  simp only [markedBehindIn_of_false hm, Sem.wp_bind', Sem.wp_holding, Sem.wp_cmd_standAt, Sem.wp_operate] at h₁ ⊢
  refine Sem.wp_mono _ Γ _ (fun a p₁ s₁ h₂ => Sem.wp_mono _ Γ _ (fun b _ s₂ h₃ => Sem.wp_mono _ Γ _ (fun v p₃ s₃ h₄ => ?_) (fun _ _ _ h' => h') _ _ h₃) (fun _ _ _ h' => h') _ _ h₂) (fun _ _ _ h' => h') _ _ h₁
  obtain ⟨m', n', S', e1, e2, e3⟩ := h₄
  subst e3
  exact wpAny_truthy_bool (M := model PP c.w) (A := c.A) (E := fun _ _ => False) (b := b') (Q := fun b'' s' => ∃ m' n', St c m' n' s' ∧ m' = m ∧ n' = n ∧ b'' = b') ⟨m', n', S', e1, e2, rfl⟩ Γ p₃ hΓ
theorem tr_not {x : Expr} {b' : Bool} (h : TrB c m n env x b') : TrB c m n env (.UnaryOp .Not x pos) (!b') := is_not (useT h ⟨rfl, rfl, rfl⟩)
theorem tr_and0 : Ev c m n (isTrue (.BoolOp .And [] pos) env whole) (fun b => b = true) := is_and0 ⟨rfl, rfl, rfl⟩
theorem tr_or0 : Ev c m n (isTrue (.BoolOp .Or [] pos) env whole) (fun b => b = false) := is_or0 ⟨rfl, rfl, rfl⟩
theorem tr_and {x : Expr} {rest : List Expr} {b₁ b₂ : Bool} {whole : Sem Value} (h : TrB c m n env x b₁) (h2 : b₁ = true → Ev c m n (isTrue (.BoolOp .And rest pos) env whole) (fun b => b = b₂)) :
    Ev c m n (isTrue (.BoolOp .And (x :: rest) pos) env whole) (fun b => b = (b₁ && b₂)) := is_and (h.use fun b e => by
  subst e; cases b with
  | false => exact ⟨rfl, rfl, rfl⟩
  | true => simp only [if_true, Bool.false_eq_true, if_false, Bool.true_and, Bool.false_or]; exact h2 rfl)
theorem tr_or {x : Expr} {rest : List Expr} {b₁ b₂ : Bool} {whole : Sem Value} (h : TrB c m n env x b₁) (h2 : b₁ = false → Ev c m n (isTrue (.BoolOp .Or rest pos) env whole) (fun b => b = b₂)) :
    Ev c m n (isTrue (.BoolOp .Or (x :: rest) pos) env whole) (fun b => b = (b₁ || b₂)) := is_or (h.use fun b e => by
  subst e; cases b with
  | true => exact ⟨rfl, rfl, rfl⟩
  | false => simp only [if_true, Bool.false_eq_true, if_false, Bool.true_and, Bool.false_or]; exact h2 rfl)
theorem ev_and {e₁ e₂ : Expr} {rest : List Expr} {b₁ b₂ : Bool} (h : EvB c m n env e₁ b₁) (h2 : b₁ = true → EvB c m n env (.BoolOp .And (e₂ :: rest) pos) b₂) : EvB c m n env (.BoolOp .And (e₁ :: e₂ :: rest) pos) (b₁ && b₂) :=
  run_and (h.use fun v e => by
    subst e; refine truth_bool ?_; cases b₁ with
    | false => exact ⟨rfl, rfl, rfl⟩
    | true => simp only [if_true, Bool.false_eq_true, if_false, Bool.true_and, Bool.false_or]; exact h2 rfl)
theorem ev_or {e₁ e₂ : Expr} {rest : List Expr} {b₁ b₂ : Bool} (h : EvB c m n env e₁ b₁) (h2 : b₁ = false → EvB c m n env (.BoolOp .Or (e₂ :: rest) pos) b₂) : EvB c m n env (.BoolOp .Or (e₁ :: e₂ :: rest) pos) (b₁ || b₂) :=
  run_or (h.use fun v e => by
    subst e; refine truth_bool ?_; cases b₁ with
    | true => exact ⟨rfl, rfl, rfl⟩
    | false => simp only [if_true, Bool.false_eq_true, if_false, Bool.true_and, Bool.false_or]; exact h2 rfl)
theorem ev_one {e₁ : Expr} {op : BoolOp} {b : Bool} (h : EvB c m n env e₁ b) : EvB c m n env (.BoolOp op [e₁] pos) b := run_one h
theorem tr_val {e : Expr} {b : Bool} (h : EvB c m n env e b) (he : isTrue e env (eval e env) = (do let v ← eval e env; standAt e.pos; holding [v] (truthy v)) := by rfl) : TrB c m n env e b :=
  is_plain (h.use fun v e => by subst e; exact truth_bool ⟨rfl, rfl, rfl⟩) he
end
end
end Mine
namespace Mine
/-- room for k more frames -/
def Room (k : Nat) (c : Cfg) : Prop := c.A.depth + 2 * k + 20 < recursionLimit ∧ c.A.units + 16 * k + 200 < cLine
theorem Room.le {k k' : Nat} {c : Cfg} (h : Room k c) (e : k' ≤ k) : Room k' c := ⟨by have := h.1; omega, by have := h.2; omega⟩
/-- the surroundings within a called def -/
def Cfg.deep (c : Cfg) (g : Heap) (A : Around) (env : Env) (L : Addr) : Cfg :=
  { c with A := A.deeper env, A₀ := A, h₀ := g, fenv := env, outer := c.fenv :: c.outer, L := L }
def retv (fl : Flow) : Value := match fl with | .ret v => v | _ => .none

/-- what a call of f upon args does from any surroundings whose ledger is n -/
def Fn (k : Nat) (f : Addr) (args : List Value) (kw : List (Str × Value)) (n : Led) (Post : Value → Led → Prop) : Prop :=
  ∀ (c : Cfg) (m : Loc) (s : Shared), St c m n s → Room k c → codeAny (model PP c.w) c.A (.call (.ref f) ⟨args, kw⟩) (fun r s' => ∃ v n', r = .ok (.ret v) ∧ St c m n' s' ∧ Post v n') s

section
variable {c : Cfg} {m : Loc} {n : Led} {env : Env}
theorem Fn.run {k : Nat} {f : Addr} {args : List Value} {kw : List (Str × Value)} {Post : Value → Led → Prop} {Q : Value → Loc → Led → Prop} (h : Fn k f args kw n Post) (rm : Room k c) (q : ∀ v n', Keys n' → Post v n' → Q v m n') :
    Run c m n (call (.ref f) args kw) Q := fun s S =>
  wpAny_call (codeAny_mono (h c m s S rm) fun r s' ⟨v, n', e, S', p⟩ => by subst e; exact ⟨m, n', S', q v n' S'.nd p⟩)
theorem Fn.mono {k k' : Nat} {f : Addr} {args : List Value} {kw : List (Str × Value)} {Post Post' : Value → Led → Prop} (h : Fn k f args kw n Post) (e : k ≤ k') (q : ∀ v n', Keys n' → Post v n' → Post' v n') : Fn k' f args kw n Post' := fun c m s S rm =>
  codeAny_mono (h c m s S (rm.le e)) fun r s' ⟨v, n', e, S', p⟩ => ⟨v, n', e, S', q _ _ S'.nd p⟩
theorem Fn.forget {k : Nat} {f : Addr} {args : List Value} {kw : List (Str × Value)} {Post Post' : Value → Led → Prop} (h : Fn k f args kw n Post) (q : ∀ v n', Keys n' → Post v n' → ∃ n'', (∀ p ∈ n'', p ∈ n') ∧ Keys n'' ∧ Post' v n'') : Fn k f args kw n Post' := fun c m s S rm =>
  codeAny_mono (h c m s S rm) fun r s' ⟨v, n', e, S', p⟩ => let ⟨n'', a, b, d⟩ := q _ _ S'.nd p; ⟨v, n'', e, S'.sub a b, d⟩

theorem fn_enter {k : Nat} {f : Addr} {args : List Value} {kw : List (Str × Value)} {Post : Value → Led → Prop} {name qual : Str} {params : Arguments} {body : List Stmt} {scope : Scope} {dV kV doc pm cdv ct oc : Value} {an od : Option Addr} {osl : Array (Option Value)} {binds : List (Str × Value)}
    (ho : ∀ P, (hd.heap_39 P).lookup f = some ⟨oc, od, .func (fnOf name qual params body scope dV kV doc pm an cdv ct), osl⟩) (hcd : ∀ P, codeIn (hd.heap_39 P) cdv qual = true)
    (hbind : ∀ (w : World) (s : Shared), (hd.heap_39 w.params).In s.heap → BindsTo s (fnOf name qual params body scope dV kV doc pm an cdv ct) ⟨args, kw⟩ binds)
    (hloc : (binds.all fun x => decide (scope.names.lookup x.1 = some .local)) = true)
    (hcell : (scope.names.all fun x => x.2 != .cell) = true) (hco : scope.isCoroutine = false) (hgen : scope.isGenerator = false) (hk : scope.kind = .function)
    (h : ∀ c' : Cfg, c'.Ok → Room k c' → Keys n → Run c' (fun y => binds.reverse.lookup y) n (execs body (envX qual scope c'.L f cdv [])) (fun fl m' n' => Post (retv fl) n')) :
    Fn (k + 1) f args kw n Post := fun c m s S rm => by
  refine code_def S.ok.B S.F S.ok.X S.N S.ok.T S.ok.hA S.ok.hf S.ok.hke (ho _) (hcd _) (by have := rm.1; omega) (hbind _ _ (S.X.keeps S.F.keep)) (locs hloc) ?_ hco hgen hk (fun x hx => by have := List.all_eq_true.mp hcell x hx; simpa using this)
  intro g L' h₁ FG F' N' B' X' T'
  have ok' : (c.deep g c.A (envX qual scope L' f cdv []) L').Ok :=
    ⟨B', X', T', by show (c.A.deeper _).frames = _; exact Around.frames_deeper S.ok.hA, rfl, hk, S.ok.hh⟩
  have rm' : Room k (c.deep g c.A (envX qual scope L' f cdv []) L') := ⟨by have := rm.1; show c.A.depth + 1 + _ + _ < _; omega, by have := rm.2; show c.A.units + 3 + _ + _ < _; omega⟩
  refine wpAny_mono (h (c.deep g c.A (envX qual scope L' f cdv []) L') ok' rm' S.nd { s with heap := h₁, toks := s.toks + binds.length } ⟨ok', F', N', S.nd, S.gens, S.drawn, S.os⟩) ?_ fun _ _ e => e.elim
  rintro fl s' ⟨m', n', S', p⟩
  exact leaveK_ S'.F S'.N fun F'' N'' => ⟨_, n', rfl, ⟨S.ok, F'', N'', S'.nd, S'.gens, S'.drawn, S'.os⟩, p⟩
end
end Mine
namespace Mine
def AttrOk (C : Addr) (name : Str) : Prop := ∀ P, plainGet (hd.heap_39 P) C name = true ∧ hasDictIn (hd.heap_39 P) C = true ∧ findIn (hd.heap_39 P) (.ref C) name = some none
def SetOk (C : Addr) (name : Str) : Prop := ∀ P, findIn (hd.heap_39 P) (.ref C) "__setattr__" = some (some (.builtin "object.__setattr__")) ∧ plainOver (hd.heap_39 P) C = true ∧ takerIn (hd.heap_39 P) C name = some none ∧ hasDictIn (hd.heap_39 P) C = true
theorem ao_x : AttrOk 59 "x" := fun _ => ⟨by rfl, by rfl, by rfl⟩
theorem ao_y : AttrOk 59 "y" := fun _ => ⟨by rfl, by rfl, by rfl⟩
theorem ao_i : AttrOk 59 "i" := fun _ => ⟨by rfl, by rfl, by rfl⟩
theorem ao_point : AttrOk 59 "point" := fun _ => ⟨by rfl, by rfl, by rfl⟩
theorem ao_prev : AttrOk 59 "prev" := fun _ => ⟨by rfl, by rfl, by rfl⟩
theorem ao_next : AttrOk 59 "next" := fun _ => ⟨by rfl, by rfl, by rfl⟩
theorem ao_pz : AttrOk 59 "prev_z" := fun _ => ⟨by rfl, by rfl, by rfl⟩
theorem ao_nz : AttrOk 59 "next_z" := fun _ => ⟨by rfl, by rfl, by rfl⟩
theorem ao_st : AttrOk 59 "steiner" := fun _ => ⟨by rfl, by rfl, by rfl⟩
theorem ap_x : AttrOk 31 "x" := fun _ => ⟨by rfl, by rfl, by rfl⟩
theorem ap_y : AttrOk 31 "y" := fun _ => ⟨by rfl, by rfl, by rfl⟩
theorem so_x : SetOk 59 "x" := fun _ => ⟨by rfl, by rfl, by rfl, by rfl⟩
theorem so_y : SetOk 59 "y" := fun _ => ⟨by rfl, by rfl, by rfl, by rfl⟩
theorem so_i : SetOk 59 "i" := fun _ => ⟨by rfl, by rfl, by rfl, by rfl⟩
theorem so_point : SetOk 59 "point" := fun _ => ⟨by rfl, by rfl, by rfl, by rfl⟩
theorem so_prev : SetOk 59 "prev" := fun _ => ⟨by rfl, by rfl, by rfl, by rfl⟩
theorem so_next : SetOk 59 "next" := fun _ => ⟨by rfl, by rfl, by rfl, by rfl⟩
theorem so_z : SetOk 59 "z" := fun _ => ⟨by rfl, by rfl, by rfl, by rfl⟩
theorem so_pz : SetOk 59 "prev_z" := fun _ => ⟨by rfl, by rfl, by rfl, by rfl⟩
theorem so_nz : SetOk 59 "next_z" := fun _ => ⟨by rfl, by rfl, by rfl, by rfl⟩
theorem so_st : SetOk 59 "steiner" := fun _ => ⟨by rfl, by rfl, by rfl, by rfl⟩
theorem sp_x : SetOk 31 "x" := fun _ => ⟨by rfl, by rfl, by rfl, by rfl⟩
theorem sp_y : SetOk 31 "y" := fun _ => ⟨by rfl, by rfl, by rfl, by rfl⟩

theorem getL_cons {name : Str} {e : DictEntry} {r : List DictEntry} : getL name (e :: r) = if e.key.isStr name = true then some (some e.val) else (match getL name r with | some none => if e.refKey = true then none else some none | x => x) := by
  unfold getL
  rw [List.find?_cons]
  cases hk : e.key.isStr name with
  | true => simp
  | false =>
    simp only [Bool.false_eq_true, if_false]
    cases List.find? (fun x => x.key.isStr name) r with
    | some e' => rfl
    | none =>
      by_cases h1 : e.refKey = true <;> by_cases h2 : (List.any r (fun x => x.refKey)) = true <;> simp [List.any_cons, h1, h2]
theorem getL_put {es : List DictEntry} {name name' : Str} {hsh : Int} {t : Tok} {v : Value} : getL name (putL name' hsh (.str name' t) v es) = if name = name' then some (some v) else getL name es := by
  induction es with
  | nil =>
    unfold putL
    rw [getL_cons]
    by_cases h : name = name'
    · subst h; simp [Value.isStr]
    · have h' : (name' == name) = false := beq_eq_false_iff_ne.mpr (Ne.symm h)
      simp [Value.isStr, h, h', DictEntry.refKey, getL]
  | cons e r ih =>
    unfold putL
    by_cases hk : e.key.isStr name' = true
    · rw [if_pos hk, getL_cons, getL_cons]
      by_cases h : name = name'
      · subst h; simp [hk]
      · have hk' : e.key.isStr name = false := by
          cases hkey : e.key with
          | str x t => rw [hkey] at hk; simp only [Value.isStr, beq_iff_eq] at hk ⊢; simp [hk, Ne.symm h]
          | _ => rfl
        have e1 : DictEntry.refKey ⟨e.hash, e.key, v⟩ = e.refKey := rfl
        simp [hk', h, e1]
    · rw [if_neg hk, getL_cons, getL_cons, ih]
      by_cases h : name = name'
      · subst h; simp [hk]
      · simp only [if_neg h]
theorem putL_length {es : List DictEntry} {name : Str} {hsh : Int} {key v : Value} {w : Value} (h : getL name es = some (some w)) : (putL name hsh key v es).length = es.length := by
  induction es with
  | nil => simp [getL] at h
  | cons e r ih =>
    unfold putL
    split
    · simp
    · rename_i hk
      have hk' : e.key.isStr name = false := by simpa using hk
      simp only [List.length_cons, Nat.add_right_cancel_iff]
      refine ih ?_
      rw [getL_cons, if_neg hk] at h
      revert h
      cases getL name r with
      | none => exact id
      | some o => cases o with
        | none => simp only; intro h; split at h <;> cases h
        | some x => exact id
theorem putN_same {es : List DictEntry} {name : Str} {k : Nat} {w : Value} (h : getL name es = some (some w)) : putN name es k = k := by
  unfold putN
  rw [if_pos]
  unfold getL at h
  revert h
  cases hf : List.find? (fun x => x.key.isStr name) es with
  | none => simp only; intro h; split at h <;> cases h
  | some e => intro _; exact List.any_eq_true.mpr ⟨e, List.mem_of_find?_eq_some hf, by simpa using List.find?_some hf⟩

/-- the ledger with the object at d replaced -/
def put (n : Led) (d : Addr) (o : Obj) : Led := n.map fun p => if p.1 = d then (d, o) else p
theorem put_keys (n : Led) (d : Addr) (o : Obj) : (put n d o).map (·.1) = n.map (·.1) := by
  unfold put
  rw [List.map_map]
  refine List.map_congr_left fun p _ => ?_
  simp only [Function.comp]
  split
  · rename_i e; exact e.symm
  · rfl
theorem Keys.put {n : Led} (h : Keys n) (d : Addr) (o : Obj) : Keys (put n d o) := by unfold Keys; rw [put_keys]; exact h
theorem mem_put_same {n : Led} {d : Addr} {o o' : Obj} (h : (d, o) ∈ n) : (d, o') ∈ put n d o' := List.mem_map.mpr ⟨_, h, by simp⟩
theorem mem_put_other {n : Led} {d a : Addr} {o o' : Obj} (h : (a, o) ∈ n) (e : a ≠ d) : (a, o) ∈ put n d o' := List.mem_map.mpr ⟨_, h, by simp [e]⟩
theorem put_mem {n : Led} {d : Addr} {o : Obj} {p : Addr × Obj} (h : p ∈ put n d o) : p = (d, o) ∨ (p ∈ n ∧ p.1 ≠ d) := by
  obtain ⟨q, hq, e⟩ := List.mem_map.mp h
  split at e
  · exact .inl e.symm
  · rename_i hne; subst e; exact .inr ⟨hq, hne⟩
theorem upd_put {n : Led} {d : Addr} {o o' : Obj} (nd : Keys n) (h : (d, o) ∈ n) : Upd d o o' n (put n d o') := by
  induction n with
  | nil => cases h
  | cons p r ih =>
    unfold Keys at nd
    rw [List.map_cons, List.nodup_cons] at nd
    have hr : p.1 ∉ r.map (·.1) := nd.1
    by_cases e : p.1 = d
    · have hd : ∀ q ∈ r, q.1 ≠ d := fun q hq e' => hr (by rw [e, ← e']; exact List.mem_map_of_mem hq)
      have hp : p = (d, o) := by
        rcases List.mem_cons.mp h with h | h
        · exact h.symm
        · exact absurd rfl (hd _ h)
      subst hp
      have : put ((d, o) :: r) d o' = (d, o') :: r := by
        unfold put
        simp only [List.map_cons, if_true]
        congr 1
        exact (List.map_congr_left fun q hq => by simp [hd q hq]).trans (List.map_id _)
      rw [this]
      exact .head hd
    · have : put (p :: r) d o' = p :: put r d o' := by unfold put; simp [e]
      rw [this]
      refine .tail e (ih nd.2 ?_)
      rcases List.mem_cons.mp h with h | h
      · exact absurd (by rw [← h]) e
      · exact h

section
variable {c : Cfg} {m : Loc} {n : Led} {env : Env}
theorem run_getattr {a d C : Addr} {es : List DictEntry} {k : Nat} {name : Str} {v : Value} {expr : Bool} {Q : Value → Loc → Led → Prop} (ha : AttrOk C name) (hi : (a, instObj C d) ∈ n) (hdd : (d, dictOf es k) ∈ n)
    (hl : getL name es = some (some v)) (hv : handedIn v = true) (h : Q v m n) : Run c m n (getAttr (.ref a) name expr) Q := fun s S =>
  get_own S.F S.ok.X (InstAt.of_news S.N hi hdd) (ha _).1 (ha _).2.1 (ha _).2.2 rfl hl hv ⟨m, n, S.tok, h⟩
theorem run_attr {value : Expr} {attr : Str} {pos : Pos} {Q : Value → Loc → Led → Prop} (h : Run c m n (eval value env) (fun o m' n' => Run c m' n' (getAttr o attr true) Q)) (hb : attributeBase value attr env (eval value env) = eval value env := by rfl) :
    Run c m n (eval (.Attribute value attr pos) env) Q := fun s S =>
  Attribute_any_ (wpAny_mono (h s S) (fun _ s' ⟨_, _, S', q⟩ => q s' S') fun _ _ e => e) (by rw [arm_eval_Attribute, hb])
theorem ev_attr {value : Expr} {attr : Str} {pos : Pos} {a d C : Addr} {es : List DictEntry} {k : Nat} {v : Value} (h : EvV c m n env value (.ref a)) (ha : AttrOk C attr) (hi : (a, instObj C d) ∈ n) (hdd : (d, dictOf es k) ∈ n)
    (hl : getL attr es = some (some v)) (hv : handedIn v = true := by rfl) (hb : attributeBase value attr env (eval value env) = eval value env := by rfl) : EvV c m n env (.Attribute value attr pos) v :=
  run_attr (useV h (run_getattr ha hi hdd hl hv ⟨rfl, rfl, rfl⟩)) hb
theorem ev_attrI {value : Expr} {attr : Str} {pos : Pos} {a d C : Addr} {es : List DictEntry} {k : Nat} {i : Int} (h : EvV c m n env value (.ref a)) (ha : AttrOk C attr) (hi : (a, instObj C d) ∈ n) (hdd : (d, dictOf es k) ∈ n)
    (hl : ∃ t, getL attr es = some (some (.int i t))) (hb : attributeBase value attr env (eval value env) = eval value env := by rfl) : EvI c m n env (.Attribute value attr pos) i :=
  let ⟨t, hl⟩ := hl
  run_attr (useV h (run_getattr ha hi hdd hl rfl ⟨rfl, rfl, t, rfl⟩)) hb
theorem run_setattr {a d C : Addr} {es : List DictEntry} {k : Nat} {name : Str} {v : Value} {Q : Unit → Loc → Led → Prop} (hs : SetOk C name) (hi : (a, instObj C d) ∈ n) (hdd : (d, dictOf es k) ∈ n)
    (hl : (getL name es).isSome = true) (hz : es.length ≤ 900)
    (h : ∀ hsh t, Q () m (put n d (dictOf (putL name hsh (.str name t) v es) (putN name es k)))) : Run c m n (setAttr (.ref a) name v) Q := fun s S => by
  obtain ⟨h1, h2, h3, h4⟩ := hs c.w.params
  refine set_dict S.F S.ok.X S.N (InstAt.of_news S.N hi hdd) rfl h1 h2 h3 h4 hl rfl (upd_put S.nd hdd) ?_ fun h' F' N' => ⟨m, _, S.to F' N' (S.nd.put _ _), h _ _⟩
  have : ∀ (es : List DictEntry) h k v, (putL name h k v es).length ≤ es.length + 1 := by
    intro es
    induction es with
    | nil => intro h k v; simp [putL]
    | cons e r ih => intro h k v; unfold putL; split <;> simp [ih]
  exact Nat.le_trans (this _ _ _ _) (by omega)
theorem run_assignattr {o : Expr} {attr : Str} {pos' : Pos} {value : Expr} {pos : Pos} {Q : Flow → Loc → Led → Prop} (h : Run c m n (eval value env) (fun v m₁ n₁ => Run c m₁ n₁ (eval o env) (fun ov m₂ n₂ => Run c m₂ n₂ (setAttr ov attr v) (fun _ => Q .next))))
    (hs : swapsWith value (some (.Attribute o attr pos')) pos.line env = Pure.pure false := by rfl) : Run c m n (exec (.Assign [.Attribute o attr pos'] value pos) env) Q := fun s S =>
  plainObj_wpAny_Assign_Attribute (wpAny_mono (h s S) (fun _ s' ⟨_, _, S', q⟩ => wpAny_mono (q s' S') (fun _ s'' ⟨_, _, S'', q'⟩ => q' s'' S'') fun _ _ e => e) fun _ _ e => e) hs

-- calls by name
abbrev Args (c : Cfg) (m : Loc) (n : Led) (env : Env) (pos : Pos) (es : List Expr) (Q : List Value → Loc → Led → Prop) : Prop := Run c m n (spliced (backTo pos (starEach es env))) Q
theorem args_nil {pos : Pos} {Q : List Value → Loc → Led → Prop} (h : Q [] m n) : Args c m n env pos [] Q := fun s S => spliced_none ⟨m, n, S, h⟩
theorem args_cons {pos : Pos} {e : Expr} {rest : List Expr} {Q : List Value → Loc → Led → Prop} (h : Run c m n (eval e env) (fun v m₁ n₁ => Args c m₁ n₁ env pos rest (fun vs => Q (v :: vs))))
    (he : starEach (e :: rest) env = (false, eval e env) :: starEach rest env := by rfl) : Args c m n env pos (e :: rest) Q := fun s S =>
  spliced_more (wpAny_mono (h s S) (fun _ s' ⟨_, _, S', q⟩ => q s' S') fun _ _ e => e) he
theorem run_call {x : Str} {np pos : Pos} {fa : Addr} {e : Expr} {rest : List Expr} {Q : Value → Loc → Led → Prop} (g : ∀ P, nsIn (hd.heap_39 P) mainGlobals x = some (some (.ref fa))) (hk : ∀ P, keepIn (hd.heap_39 P) (.ref fa) = true)
    (h : Args c m n env pos (e :: rest) (fun vs m' n' => Run c m' n' (call (.ref fa) vs) Q)) (hg : env.globals = mainGlobals := by rfl) (hke : env.scope.kind = .function := by rfl)
    (hx : env.kindOf x = some .globalImplicit := by rfl) (hd : (x == ("__debug__" : Str)) = false := by decide)
    (he : starEach (e :: rest) env = (false, eval e env) :: starEach rest env := by rfl) (hplain : (backTo pos (starEach rest env)).any (·.1) = false := by rfl) :
    Run c m n (eval (.Call (.Name x np) (e :: rest) [] pos) env) Q := fun s S =>
  wpAny_Call_Name_kw (wpAny_mono (run_glob (Q := fun v m' n' => v = .ref fa ∧ m' = m ∧ n' = n) g ⟨rfl, rfl, rfl⟩ hg hke hx hd s S) (fun v s' ⟨m', n', S', e1, e2, e3⟩ => by
    subst e1; subst e2; subst e3
    exact callWith_K S'.ok.X (hk _) (wpAny_mono (h s' S') (fun vs s'' ⟨m'', n'', S'', q⟩ => ⟨S''.X.keeps S''.F.keep, q s'' S''⟩) fun _ _ e => e) he hplain) fun _ _ e => e)
theorem run_call0 {x : Str} {np pos : Pos} {fa : Addr} {Q : Value → Loc → Led → Prop} (g : ∀ P, nsIn (hd.heap_39 P) mainGlobals x = some (some (.ref fa))) (hk : ∀ P, keepIn (hd.heap_39 P) (.ref fa) = true)
    (h : Run c m n (call (.ref fa) []) Q) (hg : env.globals = mainGlobals := by rfl) (hke : env.scope.kind = .function := by rfl)
    (hx : env.kindOf x = some .globalImplicit := by rfl) (hd : (x == ("__debug__" : Str)) = false := by decide) :
    Run c m n (eval (.Call (.Name x np) [] [] pos) env) Q := fun s S =>
  wpAny_Call_Name_kw (wpAny_mono (run_glob (Q := fun v m' n' => v = .ref fa ∧ m' = m ∧ n' = n) g ⟨rfl, rfl, rfl⟩ hg hke hx hd s S) (fun v s' ⟨m', n', S', e1, e2, e3⟩ => by
    subst e1; subst e2; subst e3
    exact callWith_K0 (S'.X.keeps S'.F.keep) (hk _) (h s' S')) fun _ _ e => e)
theorem run_callb {x : Str} {np pos : Pos} {id : String} {e : Expr} {rest : List Expr} {Q : Value → Loc → Led → Prop} (g : ∀ P, nsIn (hd.heap_39 P) mainGlobals x = some none) (hv : bootBuiltins x = some (.builtin id)) (hn : x ≠ "__name__")
    (h : Args c m n env pos (e :: rest) (fun vs m' n' => Run c m' n' (call (.builtin id) vs) Q)) (hg : env.globals = mainGlobals := by rfl) (hgb : env.builtins = builtinsNs := by rfl) (hke : env.scope.kind = .function := by rfl)
    (hx : env.kindOf x = some .globalImplicit := by rfl) (hd : (x == ("__debug__" : Str)) = false := by decide)
    (he : starEach (e :: rest) env = (false, eval e env) :: starEach rest env := by rfl) (hplain : (backTo pos (starEach rest env)).any (·.1) = false := by rfl) :
    Run c m n (eval (.Call (.Name x np) (e :: rest) [] pos) env) Q := fun s S =>
  wpAny_Call_Name_kw (wpAny_mono (run_blt (Q := fun v m' n' => v = .builtin id ∧ m' = m ∧ n' = n) g hv hn ⟨rfl, rfl, rfl⟩ hg hgb hke hx hd s S) (fun v s' ⟨m', n', S', e1, e2, e3⟩ => by
    subst e1; subst e2; subst e3
    exact PyProof.Rows.callWith_builtin1 (wpAny_mono (h s' S') (fun vs s'' ⟨m'', n'', S'', q⟩ => q s'' S'') fun _ _ e => e) he hplain) fun _ _ e => e)
theorem run_callt {x : Str} {np pos : Pos} {T : String} {e : Expr} {rest : List Expr} {Q : Value → Loc → Led → Prop} (g : ∀ P, nsIn (hd.heap_39 P) mainGlobals x = some none) (hv : bootBuiltins x = some (.type T)) (hn : x ≠ "__name__")
    (h : Args c m n env pos (e :: rest) (fun vs m' n' => Run c m' n' (call (.type T) vs) Q)) (hg : env.globals = mainGlobals := by rfl) (hgb : env.builtins = builtinsNs := by rfl) (hke : env.scope.kind = .function := by rfl)
    (hx : env.kindOf x = some .globalImplicit := by rfl) (hd : (x == ("__debug__" : Str)) = false := by decide)
    (he : starEach (e :: rest) env = (false, eval e env) :: starEach rest env := by rfl) (hplain : (backTo pos (starEach rest env)).any (·.1) = false := by rfl) :
    Run c m n (eval (.Call (.Name x np) (e :: rest) [] pos) env) Q := fun s S =>
  wpAny_Call_Name_kw (wpAny_mono (run_blt (Q := fun v m' n' => v = .type T ∧ m' = m ∧ n' = n) g hv hn ⟨rfl, rfl, rfl⟩ hg hgb hke hx hd s S) (fun v s' ⟨m', n', S', e1, e2, e3⟩ => by
    subst e1; subst e2; subst e3
    exact PyProof.Rows.callWith_type1 (wpAny_mono (h s' S') (fun vs s'' ⟨m'', n'', S'', q⟩ => q s'' S'') fun _ _ e => e) he hplain) fun _ _ e => e)
end
end Mine
namespace Mine
section
variable {c : Cfg} {m : Loc} {n : Led} {env : Env}
abbrev EE : Value → Shared → Prop := fun _ _ => False
def Loop (c : Cfg) (env : Env) (test : Expr) (body : List Stmt) (Q : Flow → Loc → Led → Prop) (m : Loc) (n : Led) : Prop :=
  ∀ s, St c m n s → WhlRest PP c.w c.A EE env test body [] (fun f s' => ∃ m' n', St c m' n' s' ∧ Q f m' n') 0 s
def LoopEnd (c : Cfg) (env : Env) (test : Expr) (body : List Stmt) (Q : Flow → Loc → Led → Prop) (f : Flow) (m : Loc) (n : Led) : Prop := match f with
  | .next => Loop c env test body Q m n
  | .cont => Loop c env test body Q m n
  | .brk => Q .next m n
  | .ret v => Q (.ret v) m n
theorem run_while {test : Expr} {body : List Stmt} {pos : Pos} {Q : Flow → Loc → Led → Prop} (h : Loop c env test body Q m n) : Run c m n (exec (.While test body [] pos) env) Q := fun s S => whl_start 0 (h s S)
theorem loop_turn {test : Expr} {body : List Stmt} {Q : Flow → Loc → Led → Prop}
    (h : Run c m n (isTrue test env (eval test env)) (fun b m₁ n₁ => if b then Run c m₁ n₁ (execs body env) (LoopEnd c env test body Q) else Q .next m₁ n₁)) : Loop c env test body Q m n := fun s S => by
  refine whl_turn (k := 0) PassesOwn.never (wpAny_mono (h s S) (fun b s' ⟨m', n', S', q⟩ => ?_) fun _ _ e => e)
  cases b with
  | false => exact WhlIf.no rfl (wpAny_execs_nil ⟨m', n', S', by simpa using q⟩)
  | true =>
    refine WhlIf.yes rfl ?_
    simp only [if_true] at q
    refine wpAny_mono (q s' S') (fun f s'' ⟨m'', n'', S'', q'⟩ => ?_) fun _ _ e => e
    cases f with
    | next => exact q' s'' S''
    | cont => exact q' s'' S''
    | brk => exact ⟨m'', n'', S'', q'⟩
    | ret v => exact ⟨m'', n'', S'', q'⟩

/-- one turn of a for -/
theorem for_turn {x : Str} {px : Pos} {it : Value} {body : List Stmt} {s : Shared} {R : Result → Shared → Prop}
    (h : wpAny (model PP c.w) c.A (pyNext it) (fun r s₁ => match r with
      | none => R (.ok .next) s₁
      | some v => wpAny (model PP c.w) c.A (storeName env x v) (fun _ s₂ => wpAny (model PP c.w) c.A (execs body env) (fun f s₃ => match f with
            | .next => codeAny (model PP c.w) c.A (.forLoop (.Name x px) it body [] env) R s₃
            | .cont => codeAny (model PP c.w) c.A (.forLoop (.Name x px) it body [] env) R s₃
            | .brk => R (.ok .next) s₃
            | .ret v => R (.ok (.ret v)) s₃) EE s₂) EE s₁) EE s) : codeAny (model PP c.w) c.A (.forLoop (.Name x px) it body [] env) R s := by
  refine codeAny_of_tree ?_
  show wpAny _ _ ((forTurn (.Name x px) it body [] env).onRaise (fun x => do noteFrame x env; theTreesLotGoes x)) _ _ s
  refine wpAny_noted ?_
  simp only [forTurn]
  refine wpAny_bind (wpAny_standAt (wpAny_bind (wpAny_onRaise (wpAny_mono h (fun r s₁ h₁ => ?_) fun _ _ h' => h'.elim))))
  cases r with
  | none => exact wpAny_pure ⟨rfl, codeAny_block (wpAny_execs_nil h₁)⟩
  | some v =>
    refine wpAny_bind (m := letOwnedTupleGo (.Name x px) it v) (wpAny_pure ?_)
    refine wpAny_bind (wpAny_assign_Name (wpAny_mono h₁ (fun _ s₂ h₂ => wpAny_bind (wpAny_mono h₂ (fun f s₃ h₃ => ?_) fun _ _ h' => h'.elim)) fun _ _ h' => h'.elim))
    cases f with
    | next => exact wpAny_pure ⟨rfl, h₃⟩
    | cont => exact wpAny_pure ⟨rfl, h₃⟩
    | brk => exact wpAny_pure h₃
    | ret v => exact wpAny_pure h₃

def ForEnd (J : Nat → Loc → Led → Prop) (I : Addr) (oI : Obj) (i : Nat) (Q : Flow → Loc → Led → Prop) (f : Flow) (m : Loc) (n : Led) : Prop := match f with
  | .next => ∃ n', (∀ p ∈ n', p ∈ n) ∧ (I, oI) ∈ n ∧ (∀ p ∈ n', p.1 ≠ I) ∧ Keys n' ∧ J (i + 1) m n'
  | .cont => ∃ n', (∀ p ∈ n', p ∈ n) ∧ (I, oI) ∈ n ∧ (∀ p ∈ n', p.1 ≠ I) ∧ Keys n' ∧ J (i + 1) m n'
  | .brk => Q .next m n
  | .ret v => Q (.ret v) m n

theorem for_W {x : Str} {px : Pos} {body : List Stmt} {I : Addr} {fp : List Addr} {N : Nat} {P : Nat → Value → Prop} {Stt : Nat → Heap → Prop} {Q : Flow → Loc → Led → Prop} (J : Nat → Loc → Led → Prop)
    (W : Walks PP c.w c.A I fp [I] N P Stt) (hIo : ∀ i h, Stt i h → ∃ o, h.get? I = some o)
    (hSt : ∀ i i' h h' o m n, i ≤ N → Stt i h → h.get? I = some o → h'.get? I = some o → J i' m n → News c.h₀ c.L h' n → Stt i h')
    (turn : ∀ i v m n oI, i < N → P i v → J i m n → Keys n → (∀ p ∈ n, p.1 ≠ I) → Run c (upd m x v) ((I, oI) :: n) (execs body env) (ForEnd J I oI i Q))
    (done : ∀ m n, J N m n → Keys n → Q .next m n)
    (hl : env.locals = c.L) (hk : env.scope.kind = .function) (hx : env.kindOf x = some .local) (hIL : I ≠ c.L) (hI₀ : c.h₀.get? I = none) :
    ∀ k i m n s, i + k = N → St c m n s → Stt i s.heap → J i m n → (∀ p ∈ n, p.1 ≠ I) →
      codeAny (model PP c.w) c.A (.forLoop (.Name x px) (.ref I) body [] env) (fun r s' => match r with | .ok f => ∃ m' n', St c m' n' s' ∧ Q f m' n' | .error e => False) s := by
  intro k
  induction k with
  | zero =>
    intro i m n s hi S st hJ off
    have e : i = N := by omega
    subst e
    refine for_turn (W.done s _ _ st fun h' tk hk' => ⟨m, n, S.to ?_ ?_ S.nd, done m n hJ S.nd⟩)
    · exact ⟨S.F.ns.at' fun o e => hk' _ o (by simpa using Ne.symm hIL) e, fun b o e => hk' b o (fun hm => by rw [List.mem_singleton.mp hm, hI₀] at e; cases e) (S.F.keep b o e), S.F.above⟩
    · exact fun p hp => ⟨hk' _ _ (by simpa using off p hp) (S.N p hp).1, (S.N p hp).2⟩
  | succ k ih =>
    intro i m n s hi S st hJ off
    have hlt : i < N := by omega
    refine for_turn (W.item i s _ _ hlt st fun v h' tk hP st' hk' => ?_)
    have F' : Fr c.h₀ c.L h' m := ⟨S.F.ns.at' fun o e => hk' _ o (by simpa using Ne.symm hIL) e, fun b o e => hk' b o (fun hm => by rw [List.mem_singleton.mp hm, hI₀] at e; cases e) (S.F.keep b o e), S.F.above⟩
    have N' : News c.h₀ c.L h' n := fun p hp => ⟨hk' _ _ (by simpa using off p hp) (S.N p hp).1, (S.N p hp).2⟩
    obtain ⟨oI, heI⟩ := hIo _ _ st'
    have N₁ : News c.h₀ c.L h' ((I, oI) :: n) := fun p hp => by
      rcases List.mem_cons.mp hp with rfl | hp
      · exact ⟨heI, hIL, hI₀⟩
      · exact N' p hp
    have nd₁ : Keys ((I, oI) :: n) := by
      unfold Keys
      rw [List.map_cons, List.nodup_cons]
      refine ⟨fun hm => ?_, S.nd⟩
      obtain ⟨p, hp, e⟩ := List.mem_map.mp hm
      exact off p hp e
    have S₁ : St c m ((I, oI) :: n) { s with heap := h', toks := tk } := S.to F' N₁ nd₁
    refine wpAny_mono (run_store (Q := fun _ m'' n'' => m'' = upd m x v ∧ n'' = (I, oI) :: n) ⟨rfl, rfl⟩ hl hk hx _ S₁) ?_ fun _ _ e => e
    rintro _ s₂ ⟨m₂, n₂, S₂, e1, e2⟩
    subst e1; subst e2
    refine wpAny_mono (turn i v m n oI hlt hP hJ S.nd off s₂ S₂) ?_ fun _ _ e => e
    rintro f s₃ ⟨m₃, n₃, S₃, q⟩
    have go : (∃ n', (∀ p ∈ n', p ∈ n₃) ∧ (I, oI) ∈ n₃ ∧ (∀ p ∈ n', p.1 ≠ I) ∧ Keys n' ∧ J (i + 1) m₃ n') → codeAny (model PP c.w) c.A (.forLoop (.Name x px) (.ref I) body [] env) (fun r s' => match r with | .ok f => ∃ m' n', St c m' n' s' ∧ Q f m' n' | .error e => False) s₃ := by
      rintro ⟨n', sub, hIin, off', nd', hJ'⟩
      have S' := S₃.sub sub nd'
      exact ih (i + 1) m₃ n' s₃ (by omega) S' (hSt (i + 1) (i + 1) h' s₃.heap oI m₃ n' (by omega) st' heI (S₃.N _ hIin).1 hJ' S'.N) hJ' off'
    cases f with
    | next => exact go q
    | cont => exact go q
    | brk => exact ⟨m₃, n₃, S₃, q⟩
    | ret v => exact ⟨m₃, n₃, S₃, q⟩

abbrev listO (vs : List Value) (k : Nat) : Obj := { cls := .type "list", data := .seq vs.toArray k }
abbrev tupO (vs : List Value) (k : Nat) : Obj := { cls := .type "tuple", data := .seq vs.toArray k }
theorem notIn_fresh {s : Shared} (S : St c m n s) : (∀ p ∈ n, p.1 ≠ s.heap.objs.size) ∧ s.heap.objs.size ≠ c.L ∧ c.h₀.get? s.heap.objs.size = none := by
  refine ⟨fun p hp => Nat.ne_of_lt (S.fresh p hp), (Nat.ne_of_lt S.F.ns.lt).symm, ?_⟩
  cases e : c.h₀.get? s.heap.objs.size with
  | none => rfl
  | some o => exact absurd (Heap.lt_size (S.F.keep _ _ e)) (Nat.lt_irrefl _)
/-- for x in a list of the ledger's -/
theorem run_for_list {x : Str} {px : Pos} {iter : Expr} {body : List Stmt} {pos : Pos} {Q : Flow → Loc → Led → Prop} (J : Nat → Loc → Led → Prop)
    (src : Run c m n (eval iter env) (fun xv m₁ n₁ => ∃ l vs k, xv = .ref l ∧ (l, listO vs k) ∈ n₁ ∧ J 0 m₁ n₁ ∧ (∀ i m n, J i m n → ∃ k', (l, listO vs k') ∈ n) ∧
      (∀ i v m n I oI, vs[i]? = some v → J i m n → Keys n → (∀ p ∈ n, p.1 ≠ I) → Run c (upd m x v) ((I, oI) :: n) (execs body env) (ForEnd J I oI i Q)) ∧
      (∀ m n, J vs.length m n → Keys n → Q .next m n)))
    (hl : env.locals = c.L := by rfl) (hk : env.scope.kind = .function := by rfl) (hx : env.kindOf x = some .local := by rfl)
    (hs : ∀ x, foldedSetIterable iter env x = Pure.pure x := by intro _; rfl) : Run c m n (exec (.For (.Name x px) iter body [] pos) env) Q := fun s S => by
  refine wpAny_For (wpAny_mono (src s S) ?_ fun _ _ e => e) hs
  rintro xv s₁ ⟨m₁, n₁, S₁, l, vs, k, rfl, hin, hJ, hJl, turn, done⟩
  have hlist : s₁.heap.IsList l vs.toArray := ⟨_, (S₁.N _ hin).1, rfl, k, rfl⟩
  refine wpAny_pyIter_list hlist ?_
  obtain ⟨f1, f2, f3⟩ := notIn_fresh S₁
  have hne : l ≠ s₁.heap.objs.size := f1 _ hin
  have W := Walks.list (prog := PP) (w := c.w) S₁.ok.hh s₁.heap.objs.size l hne vs.toArray
  have hlen : vs.toArray.size = vs.length := by simp
  rw [hlen] at W
  refine codeAny_mono (for_W J W (fun i h st => let ⟨o, e, _⟩ := st.1; ⟨o, e⟩) ?_ (fun i v m n oI hi hP hj nd off => turn i v m n _ oI (by simpa using hP) hj nd off) done hl hk hx f2 f3 vs.length 0 m₁ n₁ _ (by omega)
    (S₁.to (S₁.F.push _) (fun p hp => ⟨Heap.get?_push_of_some _ (S₁.N p hp).1, (S₁.N p hp).2⟩) S₁.nd : St c m₁ n₁ { s₁ with heap := s₁.heap.push { cls := .type "list_iterator", data := .fields #[.ref l, .int 0 0] } })
    ⟨⟨_, Heap.get?_push_size _ rfl, rfl, rfl⟩, hlist.push _⟩ hJ f1) ?_
  · rintro i i' h h' o m n hi ⟨st1, st2⟩ e1 e2 hj N
    obtain ⟨k', hk'⟩ := hJl _ _ _ hj
    refine ⟨?_, ⟨_, (N _ hk').1, rfl, k', rfl⟩⟩
    obtain ⟨o', q, r⟩ := st1
    rw [e1] at q; cases q; exact ⟨o, e2, r⟩
  · intro r s' h
    cases r with
    | ok f => exact h
    | error e => exact h.elim
end
end Mine
namespace Mine
section
variable {c : Cfg} {m : Loc} {n : Led} {env : Env}
theorem St.push {s : Shared} (S : St c m n s) (o : Obj) (hf : o.isFreed = false := by rfl) : St c m ((s.heap.objs.size, o) :: n) { s with heap := s.heap.push o } :=
  S.to (tk := s.toks) (S.F.push o) (S.N.push S.F o hf) (keys_cons S.nd S.fresh)
theorem St.isList {s : Shared} {l : Addr} {vs : List Value} {k : Nat} (S : St c m n s) (h : (l, listO vs k) ∈ n) : s.heap.IsList l vs.toArray := ⟨_, (S.N _ h).1, rfl, k, rfl⟩
theorem St.isTup {s : Shared} {l : Addr} {vs : List Value} {k : Nat} (S : St c m n s) (h : (l, tupO vs k) ∈ n) : IsTup s.heap l vs.toArray := ⟨_, (S.N _ h).1, rfl, k, rfl⟩
theorem St.grow {s : Shared} {h' : Heap} {tk : Nat} (S : St c m n s) (hk : ∀ b o, s.heap.get? b = some o → h'.get? b = some o) : St c m n { s with heap := h', toks := tk } :=
  S.to (S.F.keeps hk) (fun p hp => ⟨hk _ _ (S.N p hp).1, (S.N p hp).2⟩) S.nd

-- len
theorem run_lenL {l : Addr} {vs : List Value} {k : Nat} {Q : Value → Loc → Led → Prop} (h : (l, listO vs k) ∈ n) (hz : vs.length ≤ 1000000) (q : ∀ t, Q (.int vs.length t) m n) : Run c m n (call (.builtin "len") [.ref l]) Q := fun s S =>
  PyProof.Rows.len_list (S.isList h) (by rw [List.size_toArray]; omega) ⟨m, n, S.tok, by rw [List.size_toArray]; exact q _⟩
theorem run_lenT {l : Addr} {vs : List Value} {k : Nat} {Q : Value → Loc → Led → Prop} (h : (l, tupO vs k) ∈ n) (hz : vs.length ≤ 1000000) (q : ∀ t, Q (.int vs.length t) m n) : Run c m n (call (.builtin "len") [.ref l]) Q := fun s S =>
  PyProof.Rows.len_tuple (S.isTup h) (by rw [List.size_toArray]; omega) ⟨m, n, S.tok, by rw [List.size_toArray]; exact q _⟩
-- items
theorem run_subs {value slice : Expr} {pos : Pos} {Q : Value → Loc → Led → Prop} (h : Run c m n (eval value env) (fun o m₁ n₁ => Run c m₁ n₁ (eval slice env) (fun i m₂ n₂ => Run c m₂ n₂ (subscriptTail value slice o i) Q))) : Run c m n (eval (.Subscript value slice pos) env) Q := fun s S =>
  Subscript_ (wpAny_mono (h s S) (fun _ s' ⟨_, _, S', q⟩ => wpAny_mono (q s' S') (fun _ s'' ⟨_, _, S'', q'⟩ => q' s'' S'') fun _ _ e => e) fun _ _ e => e)
theorem seqIndex_some {i : Int} {len j : Nat} (h : seqIndex? i len = some j) : (0 ≤ i ∧ i < len ∧ j = i.toNat) ∨ (i < 0 ∧ -(len : Int) ≤ i ∧ j = (i + len).toNat) := by
  unfold seqIndex? at h
  by_cases h0 : i < 0
  · simp only [if_pos h0, Bool.and_eq_true, decide_eq_true_eq] at h
    by_cases h1 : 0 ≤ i + (len : Int) ∧ i + (len : Int) < len
    · rw [if_pos h1] at h
      exact .inr ⟨h0, by omega, (Option.some.inj h).symm⟩
    · rw [if_neg h1] at h; exact absurd h (by simp)
  · simp only [if_neg h0, Bool.and_eq_true, decide_eq_true_eq] at h
    by_cases h1 : 0 ≤ i ∧ i < (len : Int)
    · rw [if_pos h1] at h
      exact .inl ⟨h1.1, h1.2, (Option.some.inj h).symm⟩
    · rw [if_neg h1] at h; exact absurd h (by simp)
theorem run_itemL {value slice : Expr} {l : Addr} {vs : List Value} {k j : Nat} {i : Int} {t : Tok} {v : Value} {Q : Value → Loc → Led → Prop} (h : (l, listO vs k) ∈ n) (hi : seqIndex? i vs.length = some j) (hv : vs[j]? = some v) (hz : vs.length ≤ 1000000) (q : Q v m n)
    (hs : subscripted slice false (.ref l) (.int i t) = operate [.ref l, .int i t] (getItem (.ref l) (.int i t))) : Run c m n (subscriptTail value slice (.ref l) (.int i t)) Q := fun s S => by
  have hl := S.isList h
  refine tail_any hl.typeIs slot_list_getitem.lookup ?_ hs
  rcases seqIndex_some hi with ⟨h0, h1, h2⟩ | ⟨h0, h1, h2⟩
  · exact wpAny_getItem_list hl h0 (by omega) (by rw [← h2]; simpa using hv) ⟨m, n, S, q⟩
  · exact wpAny_getItem_list_neg hl h0 (by rw [List.size_toArray]; exact h1) (by omega) (by rw [List.size_toArray, ← h2]; simpa using hv) ⟨m, n, S, q⟩
theorem run_itemT {value slice : Expr} {l : Addr} {vs : List Value} {k j : Nat} {i : Int} {t : Tok} {v : Value} {Q : Value → Loc → Led → Prop} (h : (l, tupO vs k) ∈ n) (hi : seqIndex? i vs.length = some j) (hv : vs[j]? = some v) (hz : vs.length ≤ 1000000) (q : Q v m n)
    (hs : subscripted slice false (.ref l) (.int i t) = operate [.ref l, .int i t] (getItem (.ref l) (.int i t))) : Run c m n (subscriptTail value slice (.ref l) (.int i t)) Q := fun s S => by
  have hb := seqIndex_some hi
  exact item_tupleT (S.isTup h) (by omega) (by omega) hi hv ⟨m, n, S, q⟩ hs
/-- the index is no slice -/
def NoSl (slice : Expr) : Prop := ∀ o i, subscripted slice false o i = operate [o, i] (getItem o i)
theorem nosl_name {x : Str} {p : Pos} : NoSl (.Name x p) := fun _ _ => rfl
theorem nosl_const {x : Const} {k : Nat} {p : Pos} : NoSl (.Constant x k p) := fun _ _ => rfl
theorem nosl_un {o : UnaryOp} {e : Expr} {p : Pos} : NoSl (.UnaryOp o e p) := fun _ _ => rfl
theorem nosl_bin {a b : Expr} {o : Operator} {p : Pos} : NoSl (.BinOp a o b p) := fun _ _ => rfl
theorem nosl_sub {a b : Expr} {p : Pos} : NoSl (.Subscript a b p) := fun _ _ => rfl
theorem ev_itemL {value slice : Expr} {pos : Pos} {l : Addr} {vs : List Value} {k j : Nat} {i : Int} {v : Value} (hb : EvV c m n env value (.ref l)) (h : (l, listO vs k) ∈ n) (he : EvI c m n env slice i) (hi : seqIndex? i vs.length = some j) (hv : vs[j]? = some v) (hz : vs.length ≤ 1000000) (hs : NoSl slice) :
    EvV c m n env (.Subscript value slice pos) v := run_subs (useV hb (useI he fun t => run_itemL h hi hv hz ⟨rfl, rfl, rfl⟩ (hs _ _)))
theorem ev_itemLI {value slice : Expr} {pos : Pos} {l : Addr} {vs : List Value} {k j : Nat} {i a : Int} (hb : EvV c m n env value (.ref l)) (h : (l, listO vs k) ∈ n) (he : EvI c m n env slice i) (hi : seqIndex? i vs.length = some j) (hv : ∃ t, vs[j]? = some (.int a t)) (hz : vs.length ≤ 1000000) (hs : NoSl slice) :
    EvI c m n env (.Subscript value slice pos) a := let ⟨t', hv⟩ := hv; run_subs (useV hb (useI he fun t => run_itemL h hi hv hz ⟨rfl, rfl, t', rfl⟩ (hs _ _)))
theorem ev_itemT {value slice : Expr} {pos : Pos} {l : Addr} {vs : List Value} {k j : Nat} {i : Int} {v : Value} (hb : EvV c m n env value (.ref l)) (h : (l, tupO vs k) ∈ n) (he : EvI c m n env slice i) (hi : seqIndex? i vs.length = some j) (hv : vs[j]? = some v) (hz : vs.length ≤ 1000000) (hs : NoSl slice) :
    EvV c m n env (.Subscript value slice pos) v := run_subs (useV hb (useI he fun t => run_itemT h hi hv hz ⟨rfl, rfl, rfl⟩ (hs _ _)))
theorem ev_itemTI {value slice : Expr} {pos : Pos} {l : Addr} {vs : List Value} {k j : Nat} {i a : Int} (hb : EvV c m n env value (.ref l)) (h : (l, tupO vs k) ∈ n) (he : EvI c m n env slice i) (hi : seqIndex? i vs.length = some j) (hv : ∃ t, vs[j]? = some (.int a t)) (hz : vs.length ≤ 1000000) (hs : NoSl slice) :
    EvI c m n env (.Subscript value slice pos) a := let ⟨t', hv⟩ := hv; run_subs (useV hb (useI he fun t => run_itemT h hi hv hz ⟨rfl, rfl, t', rfl⟩ (hs _ _)))
-- slices
def EvP (c : Cfg) (m : Loc) (n : Led) (env : Env) (e : Option Expr) (i : Option Int) : Prop := match e, i with
  | none, none => True
  | some e, some i => EvI c m n env e i
  | _, _ => False
theorem EvP.run {e : Option Expr} {i : Option Int} {Q : Value → Loc → Led → Prop} (h : EvP c m n env e i) (q : ∀ v, IsPart v i → Q v m n) : Run c m n (evalPart e env) Q := by
  cases e <;> cases i
  · exact Run.pure (q _ .none)
  · exact h.elim
  · exact h.elim
  · exact useI h fun t => q _ (.int _ t)
theorem run_slice {value : Expr} {lower upper : Option Expr} {p pos : Pos} {l : Addr} {vs : List Value} {k : Nat} {lo hi : Option Int} {Q : Value → Loc → Led → Prop} (hb : EvV c m n env value (.ref l)) (h : (l, listO vs k) ∈ n) (h1 : EvP c m n env lower lo) (h2 : EvP c m n env upper hi) (hz : vs.length ≤ 1000000)
    (q : ∀ D, (∀ p ∈ n, p.1 < D) → Q (.ref D) m ((D, listO (slicePick vs.toArray lo hi none).toList 0) :: n)) (ht : ∀ r, letTemporaryGo value (.ref l) r = Pure.pure () := by intro _; rfl) : Run c m n (eval (.Subscript value (.Slice lower upper none p) pos) env) Q := fun s S => by
  refine Subscript_ (wpAny_mono (hb s S) ?_ fun _ _ e => e)
  rintro _ s₁ ⟨m₁, n₁, S₁, e1, e2, e3⟩
  subst e1; subst e2; subst e3
  refine wpAny_Slice ?_
  refine wpAny_mono (EvP.run (Q := fun v m' n' => m' = m₁ ∧ n' = n₁ ∧ IsPart v lo) h1 (fun v hv => ⟨rfl, rfl, hv⟩) s₁ S₁) ?_ fun _ _ e => e
  rintro vl s₂ ⟨m₂, n₂, S₂, e1, e2, pl⟩
  subst e1; subst e2
  refine wpAny_mono (EvP.run (Q := fun v m' n' => m' = m₂ ∧ n' = n₂ ∧ IsPart v hi) h2 (fun v hv => ⟨rfl, rfl, hv⟩) s₂ S₂) ?_ fun _ _ e => e
  rintro vu s₃ ⟨m₃, n₃, S₃, e1, e2, pu⟩
  subst e1; subst e2
  refine wpAny_pure ?_
  refine kmk_slice S₃.F S₃.N (S₃.isList h) pl pu (fun D h' F' N' l1 => ?_) rfl ht (by rw [List.size_toArray, sizeLine_eq]; omega)
  refine ⟨_, _, S₃.to F' ?_ (keys_cons S₃.nd l1), q D l1⟩
  simpa only [Array.toArray_toList] using N'
theorem run_addL {l b : Addr} {vs ws : List Value} {k k' : Nat} {Q : Value → Loc → Led → Prop} (h : (l, listO vs k) ∈ n) (h' : (b, listO ws k') ∈ n) (hz : vs.length + ws.length ≤ 1000000) (q : ∀ D, (∀ p ∈ n, p.1 < D) → Q (.ref D) m ((D, listO (vs ++ ws) 0) :: n)) :
    Run c m n (binaryOp .Add (.ref l) (.ref b)) Q := fun s S =>
  add_lists S.F S.N (S.isList h) (S.isList h') (fun g F' N' => ⟨m, _, S.to F' N' (keys_cons S.nd S.fresh), q _ S.fresh⟩) (by rw [sizeLine_eq]; omega)
-- displays
theorem run_newT {vs : List Value} {Q : Value → Loc → Led → Prop} (hz : vs.length ≤ 1000000) (q : ∀ D, (∀ p ∈ n, p.1 < D) → Q (.ref D) m ((D, tupO vs 0) :: n)) : Run c m n (newTuple vs) Q := fun s S =>
  kup_newTuple S.F S.N (fun D h' F' N' l1 => ⟨m, _, S.to F' N' (keys_cons S.nd l1), q D l1⟩) (by rw [sizeLine_eq]; omega)
theorem run_newL {vs : List Value} {Q : Value → Loc → Led → Prop} (hz : vs.length ≤ 1000000) (q : ∀ D, (∀ p ∈ n, p.1 < D) → Q (.ref D) m ((D, listO vs 0) :: n)) : Run c m n (newList vs) Q := fun s S =>
  newList_K S.F S.N (fun D h' F' N' l1 => ⟨m, _, S.to F' N' (keys_cons S.nd l1), q D l1⟩) (by rw [sizeLine_eq]; omega)
theorem run_tuple {es : List Expr} {k : Nat} {pos : Pos} {Q : Value → Loc → Led → Prop} (h : Args c m n env pos es (fun vs m' n' => vs.length ≤ 1000000 ∧ ∀ D, (∀ p ∈ n', p.1 < D) → Q (.ref D) m' ((D, tupO vs 0) :: n'))) : Run c m n (eval (.Tuple es k pos) env) Q := fun s S =>
  Tuple_ (wpAny_mono (h s S) (fun vs s' ⟨m', n', S', hz, q⟩ => run_newT hz q s' S') fun _ _ e => e)
theorem run_list {es : List Expr} {pos : Pos} {Q : Value → Loc → Led → Prop} (h : Args c m n env pos es (fun vs m' n' => vs.length ≤ 1000000 ∧ ∀ D, (∀ p ∈ n', p.1 < D) → Q (.ref D) m' ((D, listO vs 0) :: n'))) : Run c m n (eval (.List es pos) env) Q := fun s S =>
  List_ (wpAny_mono (h s S) (fun vs s' ⟨m', n', S', hz, q⟩ => run_newL hz q s' S') fun _ _ e => e)
-- methods
theorem run_meth {o : Expr} {name : Str} {apos pos : Pos} {e : Expr} {rest : List Expr} {l : Addr} {vs : List Value} {k : Nat} {id : String} {Q : Value → Loc → Led → Prop} (hb : EvV c m n env o (.ref l)) (h : (l, listO vs k) ∈ n) (slot : Slot "list" name id) (hty : typeOf (.builtin id) = Pure.pure (.type "method_descriptor"))
    (q : Args c m n env pos (e :: rest) (fun vs m' n' => Run c m' n' (call (.builtin id) (.ref l :: vs)) Q)) (pl : Sem Bool)
    (he : eval (.Call (.Attribute o name apos) (e :: rest) [] pos) env = (do
      let ov ← eval o env
      standAt apos.atName
      let (f, first) ← holding [ov] (getMethod ov name pl)
      callWith pos f first (backTo pos (starEach (e :: rest) env)) []))
    (hs : starEach (e :: rest) env = (false, eval e env) :: starEach rest env := by rfl) (hplain : (backTo pos (starEach rest env)).any (·.1) = false := by rfl) :
    Run c m n (eval (.Call (.Attribute o name apos) (e :: rest) [] pos) env) Q := fun s S => by
  refine MethodCall_ (pl := pl) (wpAny_mono (hb s S) ?_ fun _ _ e => e) he
  rintro _ s₁ ⟨m₁, n₁, S₁, e1, e2, e3⟩
  subst e1; subst e2; subst e3
  refine listMethod_K S₁.N h slot hty ?_
  exact PyProof.Rows.callWith_method1 (wpAny_mono (q s₁ S₁) (fun vs s' ⟨m', n', S', q'⟩ => q' s' S') fun _ _ e => e) hs hplain
theorem run_append {l : Addr} {vs : List Value} {k : Nat} {v : Value} {Q : Value → Loc → Led → Prop} (h : (l, listO vs k) ∈ n) (hz : vs.length ≤ 1000000) (q : Q .none m (put n l (listO (vs ++ [v]) (k + 1)))) : Run c m n (call (.builtin "list.append") [.ref l, v]) Q := fun s S => by
  have e : W.listOf (vs.toArray.push v) (k + 1) = listO (vs ++ [v]) (k + 1) := by simp [listO, W.listOf]
  exact append_K S.F S.N (its := vs.toArray) (n := k) (e ▸ upd_put S.nd h) (fun h' F' N' => ⟨m, _, S.to F' N' (S.nd.put _ _), q⟩) (by rw [List.size_toArray, sizeLine_eq]; omega)
theorem run_extend {l b : Addr} {vs ws : List Value} {k k' : Nat} {Q : Value → Loc → Led → Prop} (h : (l, listO vs k) ∈ n) (h' : (b, listO ws k') ∈ n) (hz : vs.length + ws.length ≤ 1000000) (q : ∀ k'', Q .none m (put n l (listO (vs ++ ws) k''))) : Run c m n (call (.builtin "list.extend") [.ref l, .ref b]) Q := fun s S => by
  have hd : ¬(!vs.toArray.isEmpty && Builtin.List.listTooLong (vs.toArray.size + ws.toArray.size)) = true := by
    simp only [Bool.and_eq_true, not_and, Bool.not_eq_true]
    intro _
    unfold Builtin.List.listTooLong
    simp only [List.size_toArray]
    rw [decide_eq_false_iff_not, sizeLine_eq]
    omega
  by_cases hne : ws = []
  · subst hne
    refine kxn_extend S.F S.N h' rfl (upd_put S.nd h) hd (by rw [sizeLine_eq]; simp at hz ⊢; omega) (by rw [sizeLine_eq]; simp at hz ⊢; omega) fun h' F' N' => ⟨m, _, S.to F' N' (S.nd.put _ _), ?_⟩
    have := q k
    rw [List.append_nil] at this
    exact this
  · refine kl_extend (l := vs ++ ws) S.F S.N h' rfl (by simpa using hne) (upd_put S.nd h) hd (by rw [sizeLine_eq]; simp at hz ⊢; omega) (by rw [sizeLine_eq]; simp at hz ⊢; omega) fun h' F' N' => ⟨m, _, S.to F' N' (S.nd.put _ _), q _⟩
theorem run_expr {e : Expr} {pos : Pos} {Q : Flow → Loc → Led → Prop} (h : Run c m n (eval e env) (fun _ => Q .next)) (hi : interactive env = false := by rfl) (hs : swapsWith e none pos.line env = Pure.pure false := by rfl) : Run c m n (exec (.Expr e pos) env) Q := fun s S =>
  wpAny_Expr_any (h s S) hi hs
-- list(..), range(..)
theorem run_listL {l : Addr} {vs : List Value} {k : Nat} {Q : Value → Loc → Led → Prop} (h : (l, listO vs k) ∈ n) (hz : vs.length ≤ 1000000) (q : ∀ D k', (∀ p ∈ n, p.1 < D) → Q (.ref D) m ((D, listO vs k') :: n)) : Run c m n (call (.type "list") [.ref l]) Q := fun s S =>
  list_copyK S.F S.N (S.isList h) (fun D k' h' F' N' l1 => ⟨m, _, S.to F' N' (keys_cons S.nd l1), q D k' l1⟩) (by rw [List.size_toArray, sizeLine_eq]; omega)
abbrev rangeO (a b st : Int) (t u v : Tok) : Obj := { cls := .type "range", data := .fields #[.int a t, .int b u, .int st v] }
theorem run_range1 {b : Int} {u : Tok} {Q : Value → Loc → Led → Prop} (q : ∀ D t v, (∀ p ∈ n, p.1 < D) → Q (.ref D) m ((D, rangeO 0 b 1 t u v) :: n)) : Run c m n (call (.type "range") [.int b u]) Q := fun s S =>
  call_range_1 ⟨m, _, (S.push (rangeO 0 b 1 _ u _)).tok, q _ _ _ S.fresh⟩
theorem run_range2 {a b : Int} {t u : Tok} {Q : Value → Loc → Led → Prop} (q : ∀ D v, (∀ p ∈ n, p.1 < D) → Q (.ref D) m ((D, rangeO a b 1 t u v) :: n)) : Run c m n (call (.type "range") [.int a t, .int b u]) Q := fun s S =>
  call_range_2 ⟨m, _, (S.push (rangeO a b 1 t u _)).tok, q _ _ S.fresh⟩
theorem run_range3 {a b st : Int} {t u v : Tok} {Q : Value → Loc → Led → Prop} (hc : st ≠ 0) (hp : Builtin.divisionGoesByPylong (b - a) st = false) (q : ∀ D, (∀ p ∈ n, p.1 < D) → Q (.ref D) m ((D, rangeO a b st t u v) :: n)) : Run c m n (call (.type "range") [.int a t, .int b u, .int st v]) Q := fun s S =>
  call_range_3 hc ⟨m, _, S.push (rangeO a b st t u v), q _ S.fresh⟩ (.inl hp)
-- min, max
theorem run_min2 {a b : Int} {t u : Tok} {Q : Value → Loc → Led → Prop} (q : ∀ t', Q (.int (min a b) t') m n) : Run c m n (call (.builtin "min") [.int a t, .int b u]) Q := fun s S =>
  min_two_ints S.ok.hh fun h' tk hk => ⟨m, n, S.grow hk, by
    by_cases h : b < a
    · have e : min a b = b := by omega
      rw [if_pos h]; exact e ▸ q _
    · have e : min a b = a := by omega
      rw [if_neg h]; exact e ▸ q _⟩
theorem run_max2 {a b : Int} {t u : Tok} {Q : Value → Loc → Led → Prop} (q : ∀ t', Q (.int (max a b) t') m n) : Run c m n (call (.builtin "max") [.int a t, .int b u]) Q := fun s S =>
  max_two_ints S.ok.hh fun h' tk hk => ⟨m, n, S.grow hk, by
    by_cases h : b > a
    · have e : max a b = b := by omega
      rw [if_pos h]; exact e ▸ q _
    · have e : max a b = a := by omega
      rw [if_neg h]; exact e ▸ q _⟩
theorem run_min3 {a b d : Int} {t u v : Tok} {Q : Value → Loc → Led → Prop} (q : ∀ t', Q (.int (min a (min b d)) t') m n) : Run c m n (call (.builtin "min") [.int a t, .int b u, .int d v]) Q := fun s S =>
  min_three_ints S.ok.hh fun h' tk hk => ⟨m, n, S.grow hk, by
    split
    · split
      · have e : min a (min b d) = d := by omega
        exact e ▸ q _
      · have e : min a (min b d) = b := by omega
        exact e ▸ q _
    · split
      · have e : min a (min b d) = d := by omega
        exact e ▸ q _
      · have e : min a (min b d) = a := by omega
        exact e ▸ q _⟩
theorem run_max3 {a b d : Int} {t u v : Tok} {Q : Value → Loc → Led → Prop} (q : ∀ t', Q (.int (max a (max b d)) t') m n) : Run c m n (call (.builtin "max") [.int a t, .int b u, .int d v]) Q := fun s S =>
  max_three_ints S.ok.hh fun h' tk hk => ⟨m, n, S.grow hk, by
    split
    · split
      · have e : max a (max b d) = d := by omega
        exact e ▸ q _
      · have e : max a (max b d) = b := by omega
        exact e ▸ q _
    · split
      · have e : max a (max b d) = d := by omega
        exact e ▸ q _
      · have e : max a (max b d) = a := by omega
        exact e ▸ q _⟩
theorem run_isiT {l : Addr} {vs : List Value} {k : Nat} {Q : Value → Loc → Led → Prop} (h : (l, tupO vs k) ∈ n) (q : Q (.bool true) m n) : Run c m n (call (.builtin "isinstance") [.ref l, .type "tuple"]) Q := fun s S =>
  IsiPair.tuple_tuple (S.N _ h).1 rfl ⟨m, n, S, q⟩
-- stores
theorem run_assign2 {t₁ t₂ value : Expr} {pos : Pos} {Q : Flow → Loc → Led → Prop} (h : Run c m n (eval value env) (fun v m₁ n₁ => Run c m₁ n₁ (assign t₁ env v) (fun _ m₂ n₂ => Run c m₂ n₂ (assign t₂ env v) (fun _ => Q .next))))
    (he : (assignEach [t₁, t₂] env).map (·.2) = [assign t₁ env, assign t₂ env] := by rfl) (hw : swappedStores [t₁, t₂] value env = Pure.pure none := by rfl) : Run c m n (exec (.Assign [t₁, t₂] value pos) env) Q := fun s S =>
  wpAny_Assign_two (wpAny_mono (h s S) (fun _ s' ⟨_, _, S', q⟩ => wpAny_mono (q s' S') (fun _ s'' ⟨_, _, S'', q'⟩ => q' s'' S'') fun _ _ e => e) fun _ _ e => e) he hw
theorem run_asname {x : Str} {p : Pos} {v : Value} {Q : Unit → Loc → Led → Prop} (h : Q () (upd m x v) n) (hl : env.locals = c.L := by rfl) (hk : env.scope.kind = .function := by rfl) (hx : env.kindOf x = some .local := by rfl) : Run c m n (assign (.Name x p) env v) Q := fun s S =>
  wpAny_assign_Name (run_store h hl hk hx s S)
theorem run_assub {o i : Expr} {pos' : Pos} {value : Expr} {pos : Pos} {Q : Flow → Loc → Led → Prop} (h : Run c m n (eval value env) (fun v m₁ n₁ => Run c m₁ n₁ (eval o env) (fun ov m₂ n₂ => Run c m₂ n₂ (eval i env) (fun iv m₃ n₃ => Run c m₃ n₃ (setItem ov iv v) (fun _ => Q .next)))))
    (hs : swapsWith value (some (.Subscript o i pos')) pos.line env = Pure.pure false := by rfl) : Run c m n (exec (.Assign [.Subscript o i pos'] value pos) env) Q := fun s S =>
  wpAny_Assign_Subscript (wpAny_mono (h s S) (fun _ s' ⟨_, _, S', q⟩ => wpAny_mono (q s' S') (fun _ s'' ⟨_, _, S'', q'⟩ => wpAny_mono (q' s'' S'') (fun _ s₃ ⟨_, _, S₃, q₃⟩ => q₃ s₃ S₃) fun _ _ e => e) fun _ _ e => e) fun _ _ e => e) hs
end
end Mine
namespace Mine
section
variable {c : Cfg} {m : Loc} {n : Led} {env : Env}

-- for over a range
theorem run_for_range {x : Str} {px : Pos} {iter : Expr} {body : List Stmt} {pos : Pos} {Q : Flow → Loc → Led → Prop} (J : Nat → Loc → Led → Prop)
    (src : Run c m n (eval iter env) (fun xv m₁ n₁ => ∃ r a b st t u v N, xv = .ref r ∧ (r, rangeO a b st t u v) ∈ n₁ ∧ Builtin.Range.small a b st = true ∧ Builtin.Range.rangeSize a b st = ((N : Nat) : Int) ∧ J 0 m₁ n₁ ∧
      (∀ i t m n I oI, i < N → J i m n → Keys n → (∀ p ∈ n, p.1 ≠ I) → Run c (upd m x (.int (a + (i : Int) * st) t)) ((I, oI) :: n) (execs body env) (ForEnd J I oI i Q)) ∧
      (∀ m n, J N m n → Keys n → Q .next m n)))
    (hl : env.locals = c.L := by rfl) (hk : env.scope.kind = .function := by rfl) (hx : env.kindOf x = some .local := by rfl)
    (hs : ∀ x, foldedSetIterable iter env x = Pure.pure x := by intro _; rfl) : Run c m n (exec (.For (.Name x px) iter body [] pos) env) Q := fun s S => by
  refine wpAny_For (wpAny_mono (src s S) ?_ fun _ _ e => e) hs
  rintro xv s₁ ⟨m₁, n₁, S₁, r, a, b, st, t, u, v, N, rfl, hin, hsm, hN, hJ, turn, done⟩
  have hr : IsRange s₁.heap r a b st t u v := (S₁.N _ hin).1
  refine wpAny_pyIter_range hr hsm ?_
  obtain ⟨f1, f2, f3⟩ := notIn_fresh S₁
  have W := Walks.range (prog := PP) (w := c.w) S₁.ok.hh s₁.heap.objs.size a st N
  refine codeAny_mono (for_W J W (fun i h st => ⟨_, st⟩) ?_ (fun i v m n oI hi ⟨t, hP⟩ hj nd off => hP ▸ turn i t m n _ oI hi hj nd off) done hl hk hx f2 f3 N 0 m₁ n₁ _ (by omega)
    (S₁.to (S₁.F.push _) (fun p hp => ⟨Heap.get?_push_of_some _ (S₁.N p hp).1, (S₁.N p hp).2⟩) S₁.nd : St c m₁ n₁ { s₁ with heap := s₁.heap.push { cls := .type "range_iterator", data := .fields #[rawInt a, rawInt (Builtin.Range.rangeSize a b st), rawInt st] } })
    (by show IsRangeIter _ _ _ _ _; rw [hN]; simpa using Heap.get?_push_size _ rfl) hJ f1) ?_
  · rintro i i' h h' o m n hi st1 e1 e2 hj N
    show h'.get? _ = some _
    rw [e2, ← e1]; exact st1
  · intro r s' h
    cases r with
    | ok f => exact h
    | error e => exact h.elim
/-- for over reversed(list) -/
theorem run_for_rev {x : Str} {px : Pos} {iter : Expr} {body : List Stmt} {pos : Pos} {Q : Flow → Loc → Led → Prop} (J : Nat → Loc → Led → Prop)
    (src : Run c m n (eval iter env) (fun xv m₁ n₁ => ∃ D l vs k n₂, xv = .ref D ∧ n₁ = (D, revObj l ((vs.length : Int) - 1)) :: n₂ ∧ (l, listO vs k) ∈ n₂ ∧ J 0 m₁ n₂ ∧ (∀ i m n, J i m n → ∃ k', (l, listO vs k') ∈ n) ∧
      (∀ i v m n I oI, i < vs.length → vs[vs.length - 1 - i]? = some v → J i m n → Keys n → (∀ p ∈ n, p.1 ≠ I) → Run c (upd m x v) ((I, oI) :: n) (execs body env) (ForEnd J I oI i Q)) ∧
      (∀ m n, J vs.length m n → Keys n → Q .next m n)))
    (hl : env.locals = c.L := by rfl) (hk : env.scope.kind = .function := by rfl) (hx : env.kindOf x = some .local := by rfl)
    (hs : ∀ x, foldedSetIterable iter env x = Pure.pure x := by intro _; rfl) : Run c m n (exec (.For (.Name x px) iter body [] pos) env) Q := fun s S => by
  refine wpAny_For (wpAny_mono (src s S) ?_ fun _ _ e => e) hs
  rintro xv s₁ ⟨m₁, n₁, S₁, D, l, vs, k, n₂, rfl, rfl, hin, hJ, hJl, turn, done⟩
  have hD := S₁.N _ (List.mem_cons_self ..)
  have nd₂ : Keys n₂ := (List.nodup_cons.mp S₁.nd).2
  have off : ∀ p ∈ n₂, p.1 ≠ D := fun p hp e => (List.nodup_cons.mp S₁.nd).1 (List.mem_map.mpr ⟨p, hp, e⟩)
  have S₂ : St c m₁ n₂ s₁ := S₁.sub (fun p hp => List.mem_cons_of_mem _ hp) nd₂
  have hlist := S₂.isList hin
  have hit : s₁.heap.IsRevIter D l ((vs.length : Int) - 1) := ⟨_, hD.1, rfl, rfl⟩
  refine wpAny_pyIter_revIter hit ?_
  have hne : l ≠ D := off _ hin
  have W := Walks.listRev (prog := PP) (w := c.w) S₁.ok.hh D l hne vs.toArray
  have hlen : vs.toArray.size = vs.length := by simp
  rw [hlen] at W
  refine codeAny_mono (for_W J W (fun i h st => let ⟨o, e, _⟩ := st.2.1; ⟨o, e⟩) ?_ (fun i v m n oI hi hP hj nd off => turn i v m n _ oI hi (by simpa using hP) hj nd off) done hl hk hx hD.2.1 hD.2.2 vs.length 0 m₁ n₂ _ (by omega)
    S₂ ⟨Nat.zero_le _, by simpa using hit, hlist⟩ hJ off) ?_
  · rintro i i' h h' o m n hi ⟨st0, st1, st2⟩ e1 e2 hj N
    obtain ⟨k', hk'⟩ := hJl _ _ _ hj
    refine ⟨st0, ?_, ⟨_, (N _ hk').1, rfl, k', rfl⟩⟩
    obtain ⟨o', q, r⟩ := st1
    rw [e1] at q; cases q; exact ⟨o, e2, r⟩
  · intro r s' h
    cases r with
    | ok f => exact h
    | error e => exact h.elim
theorem run_reversed {l : Addr} {vs : List Value} {k : Nat} {Q : Value → Loc → Led → Prop} (h : (l, listO vs k) ∈ n) (q : ∀ D, (∀ p ∈ n, p.1 < D) → Q (.ref D) m ((D, revObj l ((vs.length : Int) - 1)) :: n)) : Run c m n (call (.type "reversed") [.ref l]) Q := fun s S =>
  krv_reversed S.F S.N (S.isList h) fun D h' F' N' l1 => ⟨m, _, S.to F' N' (keys_cons S.nd l1), q D l1⟩

-- comprehensions
abbrev LL (ys : List Value) : Obj := listO ys ys.length
theorem keys3 {I C D : Addr} {oI oC oD : Obj} {n : Led} (nd : Keys n) (off : LCg.Off3 I C D n) (h : I ≠ C ∧ I ≠ D ∧ C ≠ D) : Keys ((I, oI) :: (C, oC) :: (D, oD) :: n) := by
  have o := off.mem
  unfold Keys
  simp only [List.map_cons, List.nodup_cons, List.mem_cons, not_or]
  refine ⟨⟨h.1, h.2.1, fun hm => ?_⟩, ⟨h.2.2, fun hm => ?_⟩, fun hm => ?_, nd⟩
  · obtain ⟨p, hp, e⟩ := List.mem_map.mp hm; exact (o p hp).1 e
  · obtain ⟨p, hp, e⟩ := List.mem_map.mp hm; exact (o p hp).2.1 e
  · obtain ⟨p, hp, e⟩ := List.mem_map.mp hm; exact (o p hp).2.2 e
/-- what the turns of a comprehension do: K i ys n holds when i items are done -/
structure CompW (c : Cfg) (m : Loc) (env : Env) (ct : Option Expr) (elt : Expr) (x : Str) (scope : Scope) (cl : List (Str × Addr)) (N : Nat) (P : Nat → Value → Prop) (K : Nat → List Value → Led → Prop) : Prop where
  turn : ∀ i v ys n I oI C oC D m₂, i < N → P i v → K i ys n → Keys n → LCg.NsObj oC m₂ → m₂ x = some v → LCg.Off3 I C D n → I ≠ C ∧ I ≠ D ∧ C ≠ D →
    match ct with
    | none => Run c m ((I, oI) :: (C, oC) :: (D, LL ys) :: n) (eval elt (compEnvC scope cl C env)) (fun y m' n' => m' = m ∧ ∃ n'', (∀ p ∈ (I, oI) :: (C, oC) :: (D, LL ys) :: n'', p ∈ n') ∧ LCg.Off3 I C D n'' ∧ Keys n'' ∧ K (i + 1) (ys ++ [y]) n'')
    | some ct => Run c m ((I, oI) :: (C, oC) :: (D, LL ys) :: n) (isTrue ct (compEnvC scope cl C env) (eval ct (compEnvC scope cl C env))) (fun b m' n' => b = false ∧ m' = m ∧ ∃ n'', (∀ p ∈ (I, oI) :: (C, oC) :: (D, LL ys) :: n'', p ∈ n') ∧ LCg.Off3 I C D n'' ∧ Keys n'' ∧ K (i + 1) ys n'')

theorem compRest_of {elt : Expr} {x : Str} {scope : Scope} {cl : List (Str × Addr)} {N : Nat} {P : Nat → Value → Prop} {K : Nat → List Value → Led → Prop} {S : Led → Prop} {s : Shared} {Fin : List Value → Led → Prop} (hs : St c m [] s) (hS : ∀ i ys n, K i ys n → S n)
    (W : CompW c m env none elt x scope cl N P K) (fin : ∀ ys n, K N ys n → Keys n → Fin ys n) :
    ∀ k i ys n, i + k = N → K i ys n → Keys n → LCg.CompRest PP c.w c.A c.h₀ c.L m env elt x scope cl s S (fun i v => i < N ∧ P i v) Fin k i ys n := by
  intro k
  induction k with
  | zero => intro i ys n e hK nd; exact fin ys n ((show i = N by omega) ▸ hK) nd
  | succ k ih =>
    intro i ys n e hK nd
    refine LCg.CompRest.succ ?_
    intro v I oI C oC D m₂ h tk E' hP hO hx F N off ne
    have := W.turn i v ys n I oI C oC D m₂ hP.1 hP.2 hK nd hO hx off ne { s with heap := h, toks := tk } (hs.to F N (keys3 nd off ne))
    refine wpAny_mono this ?_ fun _ _ e => e.elim
    rintro y s' ⟨m', n', S', e1, n'', sub, off', nd', hK'⟩
    subst e1
    have : ∃ h' tk', s' = { s with heap := h', toks := tk' } := ⟨s'.heap, s'.toks, by
      have a := S'.gens; have b := S'.drawn; have d := S'.os
      have a' := hs.gens; have b' := hs.drawn; have d' := hs.os
      cases s'; cases s; simp only at a b d a' b' d' ⊢; rw [a, b, d, a', b', d']⟩
    obtain ⟨h', tk', rfl⟩ := this
    exact LCg.CompEnd.intro S'.F S'.N n'' sub off' (hS _ _ _ hK') (ih (i + 1) (ys ++ [y]) n'' (by omega) hK' nd')
theorem compRestT_of {ct elt : Expr} {x : Str} {scope : Scope} {cl : List (Str × Addr)} {N : Nat} {P : Nat → Value → Prop} {K : Nat → List Value → Led → Prop} {S : Led → Prop} {s : Shared} {Fin : List Value → Led → Prop} (hs : St c m [] s) (hS : ∀ i ys n, K i ys n → S n)
    (W : CompW c m env (some ct) elt x scope cl N P K) (fin : ∀ ys n, K N ys n → Keys n → Fin ys n) :
    ∀ k i ys n, i + k = N → K i ys n → Keys n → LCt.CompRestT PP c.w c.A c.h₀ c.L m env ct elt x scope cl s S (fun i v => i < N ∧ P i v) Fin k i ys n := by
  intro k
  induction k with
  | zero => intro i ys n e hK nd; exact fin ys n ((show i = N by omega) ▸ hK) nd
  | succ k ih =>
    intro i ys n e hK nd
    refine LCt.CompRestT.succ ?_
    intro v I oI C oC D m₂ h tk E' hP hO hx F N off ne
    have := W.turn i v ys n I oI C oC D m₂ hP.1 hP.2 hK nd hO hx off ne { s with heap := h, toks := tk } (hs.to F N (keys3 nd off ne))
    refine wpAny_mono this ?_ fun _ _ e => e.elim
    rintro b s' ⟨m', n', S', eb, e1, n'', sub, off', nd', hK'⟩
    subst e1; subst eb
    have : ∃ h' tk', s' = { s with heap := h', toks := tk' } := ⟨s'.heap, s'.toks, by
      have a := S'.gens; have b := S'.drawn; have d := S'.os
      have a' := hs.gens; have b' := hs.drawn; have d' := hs.os
      cases s'; cases s; simp only at a b d a' b' d' ⊢; rw [a, b, d, a', b', d']⟩
    obtain ⟨h', tk', rfl⟩ := this
    simp only [Bool.false_eq_true, if_false]
    exact LCg.CompEnd.intro S'.F S'.N n'' sub off' (hS _ _ _ hK') (ih (i + 1) ys n'' (by omega) hK' nd')

theorem blockX {ct : Option Expr} {elt iter : Expr} {x : Str} {px : Pos} {scope : Scope} {cl : List (Str × Addr)} {pos : Pos} {s₂ : Shared} {I : Addr} {fp : List Addr} {N : Nat} {P : Nat → Value → Prop} {Stt : Nat → Heap → Prop} {S : Led → Prop} {K : Nat → List Value → Led → Prop} {RR : Value → Addr → Result → Shared → Prop}
    (W : Walks PP c.w c.A I fp [I] N (fun i v => i < N ∧ P i v) Stt) (hsz : N ≤ sizeLine) (hIo : ∀ i h, Stt i h → ∃ o, h.get? I = some o)
    (hSt : ∀ i h h' o nw, Stt i h → h.get? I = some o → h'.get? I = some o → (∀ b o, c.h₀.get? b = some o → h'.get? b = some o) → News c.h₀ c.L h' nw → S nw → Stt i h')
    (hcell : ∀ y ∈ scope.names, y.2 ≠ .cell) (hkind : scope.kind = .function) (hx : scope.names.lookup x = some .local) (hst : Stt 0 s₂.heap) (hfp : ∀ b ∈ fp, b < s₂.heap.objs.size)
    (S₂ : St c m n s₂) (hIL : c.L ≠ I) (hI₀ : c.h₀.get? I = none) (off : ∀ p ∈ n, p.1 ≠ I) (hS : ∀ i ys n, K i ys n → S n)
    (CW : CompW c m env ct elt x scope cl N P K) (hK : K 0 [] n)
    (hRR : ∀ D C h tk m' ys news', Fr c.h₀ c.L h m → News c.h₀ c.L h ((D, LL ys) :: news') → (∀ p ∈ news', p.1 ≠ D) → h.Ns C m' → c.h₀.get? C = none → c.h₀.get? D = none → C ≠ c.L → D ≠ c.L → C ≠ D → (∀ p ∈ news', p.1 ≠ C) → K N ys news' → Keys news' → RR (.ref D) C (.ok .next) { s₂ with heap := h, toks := tk }) :
    wpAny (model PP c.w) c.A (newList []) (fun acc s₃ => wpAny (model PP c.w) c.A (newFunctionEnv scope env.globals cl [] env.qual none .none (some env)) (fun cenv s₄ =>
      codeAny (model PP c.w) c.A (.compStart (.ListComp elt [⟨.Name x px, iter, ct.toList, 0⟩] scope pos) 0 (.ref I) acc { cenv with scope := relabel scope env }) (RR acc cenv.locals) s₄) EE s₃) EE s₂ := by
  have off1 : ∀ {D : Addr} {l : Led}, LCg.Off1 D l → ∀ p ∈ l, p.1 ≠ D := by
    intro D l
    induction l with
    | nil => intro _ p hp; cases hp
    | cons q r ih =>
      intro h p hp
      rcases List.mem_cons.mp hp with rfl | hp
      · exact h.1
      · exact ih h.2 p hp
  have S₀ : St c m [] s₂ := S₂.sub (fun p hp => nomatch hp) List.nodup_nil
  cases ct with
  | none =>
    refine LCg.block_U (Fin := fun ys nw => K N ys nw ∧ Keys nw) (S := S) W hsz hIo hSt hcell hkind hx hst hfp S₂.F S₂.N hIL hI₀ off (hS _ _ _ hK) (compRest_of S₀ hS CW (fun ys n a b => ⟨a, b⟩) N 0 [] n (by omega) hK S₂.nd) ?_
    intro D C h tk m' ys news' F N' o1 hn hC hD hCL hDL hCD offC fin
    exact hRR D C h tk m' ys news' F N' (off1 o1) hn hC hD hCL hDL hCD offC fin.1 fin.2
  | some ct =>
    refine LCt.block_T (Fin := fun ys nw => K N ys nw ∧ Keys nw) (S := S) W hsz hIo hSt hcell hkind hx hst hfp S₂.F S₂.N hIL hI₀ off (hS _ _ _ hK) (compRestT_of S₀ hS CW (fun ys n a b => ⟨a, b⟩) N 0 [] n (by omega) hK S₂.nd) ?_
    intro D C h tk m' ys news' F N' o1 hn hC hD hCL hDL hCD offC fin
    exact hRR D C h tk m' ys news' F N' (off1 o1) hn hC hD hCL hDL hCD offC fin.1 fin.2

/-- where a comprehension's items come from -/
inductive Src (c : Cfg) (n : Led) (K : Nat → List Value → Led → Prop) : Value → Nat → (Nat → Value → Prop) → Prop
  | list {l : Addr} {vs : List Value} {k : Nat} : (l, listO vs k) ∈ n → vs.length ≤ 1000000 → (∀ i ys n, K i ys n → ∃ k', (l, listO vs k') ∈ n) → Src c n K (.ref l) vs.length (fun i v => vs[i]? = some v)
  | range {r : Addr} {a b st : Int} {t u v : Tok} {N : Nat} : (r, rangeO a b st t u v) ∈ n → Builtin.Range.small a b st = true → Builtin.Range.rangeSize a b st = ((N : Nat) : Int) → N ≤ 1000000 → Src c n K (.ref r) N (fun i v => ∃ t, v = .int (a + (i : Int) * st) t)

theorem comp_src {ct : Option Expr} {elt iter : Expr} {x : Str} {px : Pos} {scope : Scope} {cl : List (Str × Addr)} {pos : Pos} {s₁ : Shared} {xv : Value} {N : Nat} {P : Nat → Value → Prop} {K : Nat → List Value → Led → Prop} {RR : Value → Addr → Result → Shared → Prop}
    (sr : Src c n K xv N P) (hcell : ∀ y ∈ scope.names, y.2 ≠ .cell) (hkind : scope.kind = .function) (hx : scope.names.lookup x = some .local)
    (S₁ : St c m n s₁) (CW : CompW c m env ct elt x scope cl N P K) (hK : K 0 [] n)
    (hRR : ∀ D C h tk m' ys news', Fr c.h₀ c.L h m → News c.h₀ c.L h ((D, LL ys) :: news') → (∀ p ∈ news', p.1 ≠ D) → h.Ns C m' → c.h₀.get? C = none → c.h₀.get? D = none → C ≠ c.L → D ≠ c.L → C ≠ D → (∀ p ∈ news', p.1 ≠ C) → K N ys news' → Keys news' → RR (.ref D) C (.ok .next) { s₁ with heap := h, toks := tk }) :
    wpAny (model PP c.w) c.A (pyIter xv) (fun it s₂ => wpAny (model PP c.w) c.A (newList []) (fun acc s₃ => wpAny (model PP c.w) c.A (newFunctionEnv scope env.globals cl [] env.qual none .none (some env)) (fun cenv s₄ =>
      codeAny (model PP c.w) c.A (.compStart (.ListComp elt [⟨.Name x px, iter, ct.toList, 0⟩] scope pos) 0 it acc { cenv with scope := relabel scope env }) (RR acc cenv.locals) s₄) EE s₃) EE s₂) EE s₁ := by
  obtain ⟨f1, f2, f3⟩ := notIn_fresh S₁
  have up : ∀ o : Obj, ∀ b o', s₁.heap.get? b = some o' → (s₁.heap.push o).get? b = some o' := fun o b o' e => Heap.get?_push_of_some _ e
  cases sr with
  | @list l vs k hin hz hKl =>
    have hlist := S₁.isList hin
    have hlt : l < s₁.heap.objs.size := S₁.fresh _ hin
    refine wpAny_pyIter_list hlist ?_
    have W := (Walks.list (prog := PP) (w := c.w) S₁.ok.hh s₁.heap.objs.size l (Nat.ne_of_lt hlt) vs.toArray).bound
    have hlen : vs.toArray.size = vs.length := by simp
    rw [hlen] at W
    have eP : (fun i v => i < vs.length ∧ vs.toArray[i]? = some v) = (fun i v => i < vs.length ∧ vs[i]? = some v) := by funext i v; simp
    rw [eP] at W
    have S₂ : St c m n { s₁ with heap := s₁.heap.push { cls := .type "list_iterator", data := .fields #[.ref l, .int 0 0] } } := S₁.grow (tk := s₁.toks) (up _)
    refine blockX (S := fun nw => ∃ k', (l, listO vs k') ∈ nw) W (by rw [sizeLine_eq]; omega) (fun i h st => let ⟨o, e, _⟩ := st.1; ⟨o, e⟩) ?_ hcell hkind hx ⟨⟨_, Heap.get?_push_size _ rfl, rfl, rfl⟩, hlist.push _⟩ ?_ S₂ f2.symm f3 f1 hKl CW hK hRR
    · rintro i h h' o nw ⟨st1, st2⟩ e1 e2 _ N' ⟨k', hk'⟩
      refine ⟨?_, ⟨_, (N' _ hk').1, rfl, k', rfl⟩⟩
      obtain ⟨o', q, r⟩ := st1
      rw [e1] at q; cases q; exact ⟨o, e2, r⟩
    · intro b hb
      show b < (s₁.heap.push _).objs.size
      rw [Heap.size_push]
      rcases List.mem_cons.mp hb with rfl | hb
      · exact Nat.lt_succ_self _
      · rw [List.mem_singleton.mp hb]; exact Nat.lt_succ_of_lt hlt
  | @range r a b st t u v N hin hsm hN hz =>
    have hr : IsRange s₁.heap r a b st t u v := (S₁.N _ hin).1
    refine wpAny_pyIter_range hr hsm ?_
    have W := (Walks.range (prog := PP) (w := c.w) S₁.ok.hh s₁.heap.objs.size a st N).bound
    have S₂ : St c m n { s₁ with heap := s₁.heap.push { cls := .type "range_iterator", data := .fields #[rawInt a, rawInt (Builtin.Range.rangeSize a b st), rawInt st] } } := S₁.grow (tk := s₁.toks) (up _)
    refine blockX (S := fun _ => True) W (by rw [sizeLine_eq]; omega) (fun i h st => ⟨_, st⟩) ?_ hcell hkind hx (by show IsRangeIter _ _ _ _ _; rw [hN]; simpa using Heap.get?_push_size _ rfl) ?_ S₂ f2.symm f3 f1 (fun _ _ _ _ => trivial) CW hK hRR
    · rintro i h h' o nw st1 e1 e2 _ N' _
      show h'.get? _ = some _
      rw [e2, ← e1]; exact st1
    · intro b hb
      rw [List.mem_singleton.mp hb]
      show s₁.heap.objs.size < (s₁.heap.push _).objs.size
      rw [Heap.size_push]; exact Nat.lt_succ_self _

theorem run_comp {ct : Option Expr} {elt iter : Expr} {x : Str} {px : Pos} {scope : Scope} {cl : List (Str × Addr)} {pos : Pos} {Q : Value → Loc → Led → Prop}
    (hclos : closureFor scope env = Pure.pure cl) (hcell : (scope.names.all fun y => y.2 != .cell) = true) (hkind : scope.kind = .function) (hnames : ∀ y ∈ scope.names, y.2 = .local → scope.names.lookup y.1 = some .local) (hx : scope.names.lookup x = some .local)
    (h : Run c m n (eval iter env) (fun xv m₁ n₁ => ∃ N P K, Src c n₁ K xv N P ∧ CompW c m₁ env ct elt x scope cl N P K ∧ K 0 [] n₁ ∧ ∀ D ys n₂, K N ys n₂ → Keys ((D, LL ys) :: n₂) → Q (.ref D) m₁ ((D, LL ys) :: n₂)))
    (hs : ∀ x, foldedSetIterable iter env x = Pure.pure x := by intro _; rfl) : Run c m n (eval (.ListComp elt [⟨.Name x px, iter, ct.toList, 0⟩] scope pos) env) Q := fun s S => by
  have hcell' : ∀ y ∈ scope.names, y.2 ≠ .cell := fun y hy => by have := List.all_eq_true.mp hcell y hy; simpa using this
  rw [eval_ListComp]
  refine wpAny_comprehension_free (use := none) rfl hs hclos hkind hnames (wpAny_mono (h s S) ?_ fun _ _ e => e)
  rintro xv s₁ ⟨m₁, n₁, S₁, N, P, K, sr, CW, hK, q⟩
  refine comp_src sr hcell' hkind hx S₁ CW hK ?_
  intro D C g tk m' ys news' F N' offD hn hC₀ hD₀ hCL hDL hCD offC hKN nd
  refine ⟨m', hn, fun h'' hs'' => ?_⟩
  have nd' : Keys ((D, LL ys) :: news') := List.nodup_cons.mpr ⟨fun hm => let ⟨p, hp, e⟩ := List.mem_map.mp hm; offD p hp e, nd⟩
  refine ⟨m₁, _, S₁.to (F.change hs'' hCL hC₀) (fun p hp => ?_) nd', q D ys news' hKN nd'⟩
  refine ⟨hs''.extBut _ _ ?_ (N' p hp).1, (N' p hp).2⟩
  rcases List.mem_cons.mp hp with rfl | hp
  · exact Ne.symm hCD
  · exact offC p hp
/-- a comprehension whose value goes into a local name at once -/
theorem run_acomp {ct : Option Expr} {elt iter : Expr} {x y : Str} {px py : Pos} {scope : Scope} {cl : List (Str × Addr)} {pos spos : Pos} {Q : Flow → Loc → Led → Prop}
    (hsw : swapsWith (.ListComp elt [⟨.Name x px, iter, ct.toList, 0⟩] scope pos) (some (.Name y py)) spos.line env = Pure.pure true)
    (hclos : closureFor scope env = Pure.pure cl) (hcell : (scope.names.all fun y => y.2 != .cell) = true) (hkind : scope.kind = .function) (hnames : ∀ y ∈ scope.names, y.2 = .local → scope.names.lookup y.1 = some .local) (hx : scope.names.lookup x = some .local)
    (h : Run c m n (eval iter env) (fun xv m₁ n₁ => ∃ N P K, Src c n₁ K xv N P ∧ CompW c m₁ env ct elt x scope cl N P K ∧ K 0 [] n₁ ∧ ∀ D ys n₂, K N ys n₂ → Keys ((D, LL ys) :: n₂) → Q .next (upd m₁ y (.ref D)) ((D, LL ys) :: n₂)))
    (hl : env.locals = c.L := by rfl) (hk : env.scope.kind = .function := by rfl) (hy : env.kindOf y = some .local := by rfl)
    (hs : ∀ x, foldedSetIterable iter env x = Pure.pure x := by intro _; rfl) : Run c m n (exec (.Assign [.Name y py] (.ListComp elt [⟨.Name x px, iter, ct.toList, 0⟩] scope pos) spos) env) Q := fun s S => by
  have hcell' : ∀ y ∈ scope.names, y.2 ≠ .cell := fun y hy => by have := List.all_eq_true.mp hcell y hy; simpa using this
  rw [exec_Assign_Name_used _ _ _ _ hsw]
  refine wpAny_bind (wpAny_standAt (wpAny_bind ?_))
  show wpAny _ _ (do let _ ← comprehension (.ListComp elt [⟨.Name x px, iter, ct.toList, 0⟩] scope pos) scope env _ (newList []) false (eval iter env) (some (assign (.Name y py) env))) _ _ s
  refine wpAny_bind (wpAny_mono (wpAny_comprehension_free (use := some (assign (.Name y py) env)) (Q := fun _ s' => ∃ m' n', St c m' n' s' ∧ Q .next m' n') rfl hs hclos hkind hnames
    (wpAny_mono (h s S) ?_ fun _ _ e => e)) (fun _ s' hq => wpAny_pure (wpAny_pure hq)) fun _ _ e => e)
  rintro xv s₁ ⟨m₁, n₁, S₁, N, P, K, sr, CW, hK, q⟩
  refine comp_src sr hcell' hkind hx S₁ CW hK ?_
  intro D C g tk m' ys news' F N' offD hn hC₀ hD₀ hCL hDL hCD offC hKN nd
  have nd' : Keys ((D, LL ys) :: news') := List.nodup_cons.mpr ⟨fun hm => let ⟨p, hp, e⟩ := List.mem_map.mp hm; offD p hp e, nd⟩
  show wpAny _ _ (assign (.Name y py) env (.ref D)) _ _ _
  have hp : (env.scope.kind == .class || (env.scope.kind == .module && env.locals != env.globals)) = false := by rw [hk]; rfl
  have F' : Fr c.h₀ env.locals g m₁ := hl ▸ F
  refine wpAny_assign_Name (wpAny_storeName_local hy F'.ns (fun h₂ hn₂ hs₂ => ?_) hp)
  have S₂ : St c (upd m₁ y (.ref D)) ((D, LL ys) :: news') { s₁ with heap := h₂, toks := tk + 1 } := S₁.to (F.set (hl ▸ hn₂) (hl ▸ hs₂)) (N'.set (hl ▸ hs₂)) nd'
  refine ⟨m', hn.sameBut hs₂ (hl ▸ hCL), fun h'' hs'' => ⟨_, _, S₂.to (tk := tk + 1) (S₂.F.change hs'' hCL hC₀) (fun p hp => ?_) nd', q D ys news' hKN nd'⟩⟩
  refine ⟨hs''.extBut _ _ ?_ (S₂.N p hp).1, (S₂.N p hp).2⟩
  rcases List.mem_cons.mp hp with rfl | hp
  · exact Ne.symm hCD
  · exact offC p hp
end
end Mine
namespace Mine
def cmpI : CmpOp → Int → Int → Bool
  | .Lt, a, b => decide (a < b)
  | .LtE, a, b => decide (a ≤ b)
  | .Gt, a, b => decide (b < a)
  | .GtE, a, b => decide (b ≤ a)
  | .Eq, a, b => decide (a = b)
  | .NotEq, a, b => !decide (a = b)
  | _, _, _ => false
def ordOp : CmpOp → Bool
  | .Lt | .LtE | .Gt | .GtE | .Eq | .NotEq => true
  | _ => false
section
variable {c : Cfg} {m : Loc} {n : Led} {env : Env}
theorem run_ord {op : CmpOp} {a b : Int} {t u : Tok} {Q : Value → Loc → Led → Prop} (ho : ordOp op = true) (q : Q (.bool (cmpI op a b)) m n) : Run c m n (compareOp op (.int a t) (.int b u)) Q := by
  cases op with
  | Lt => exact run_lt q
  | LtE => exact run_le q
  | Gt => exact run_gt q
  | GtE => exact run_ge q
  | Eq => exact run_eq q
  | NotEq => exact run_ne q
  | _ => exact absurd ho (by decide)
theorem ev_chain2 {l r₁ r₂ : Expr} {o₁ o₂ : CmpOp} {a b d : Int} {pos : Pos} (h1 : EvI c m n env l a) (h2 : EvI c m n env r₁ b) (h3 : cmpI o₁ a b = true → EvI c m n env r₂ d) (i1 : ordOp o₁ = true := by rfl) (i2 : ordOp o₂ = true := by rfl) :
    EvB c m n env (.Compare l [o₁, o₂] [r₁, r₂] pos) (cmpI o₁ a b && cmpI o₂ b d) := fun s S => by
  refine Compare_chain (wpAny_mono (h1 s S) ?_ fun _ _ e => e) ?_
  · rintro v₁ s₁ ⟨m₁, n₁, S₁, e1, e2, t₁, e3⟩
    subst e1; subst e2; subst e3
    refine chain_link (wpAny_mono (h2 s₁ S₁) ?_ fun _ _ e => e)
    rintro v₂ s₂ ⟨m₂, n₂, S₂, e1, e2, t₂, e3⟩
    subst e1; subst e2; subst e3
    refine wpAny_mono (run_ord (Q := fun v m' n' => v = .bool (cmpI o₁ a b) ∧ m' = m₂ ∧ n' = n₂) i1 ⟨rfl, rfl, rfl⟩ s₂ S₂) ?_ fun _ _ e => e
    rintro v₃ s₃ ⟨m₃, n₃, S₃, e1, e2, e3⟩
    subst e1; subst e2; subst e3
    refine wpAny_truthy_bool ?_
    cases hc : cmpI o₁ a b with
    | false => exact ⟨_, _, S₃, rfl, rfl, by simp⟩
    | true =>
      simp only [if_true, Bool.true_and]
      refine chain_last (wpAny_mono (h3 hc s₃ S₃) ?_ fun _ _ e => e)
      rintro v₄ s₄ ⟨m₄, n₄, S₄, e1, e2, t₄, e3⟩
      subst e1; subst e2; subst e3
      exact run_ord (Q := fun v m' n' => m' = m₄ ∧ n' = n₄ ∧ v = .bool (cmpI o₂ b d)) i2 ⟨rfl, rfl, rfl⟩ s₄ S₄
  · unfold lastMarks
    show behindInMarks o₂ r₂ = false
    exact behind_of (by cases o₂ <;> first | rfl | cases i2)
theorem tr_chain2 {l r₁ r₂ : Expr} {o₁ o₂ : CmpOp} {a b d : Int} {pos : Pos} (h1 : EvI c m n env l a) (h2 : EvI c m n env r₁ b) (h3 : cmpI o₁ a b = true → EvI c m n env r₂ d) (i1 : ordOp o₁ = true := by rfl) (i2 : ordOp o₂ = true := by rfl) :
    TrB c m n env (.Compare l [o₁, o₂] [r₁, r₂] pos) (cmpI o₁ a b && cmpI o₂ b d) := fun s S => by
  refine isTrue_chain (wpAny_mono (h1 s S) ?_ fun _ _ e => e) ?_
  · rintro v₁ s₁ ⟨m₁, n₁, S₁, e1, e2, t₁, e3⟩
    subst e1; subst e2; subst e3
    refine test_link (wpAny_mono (h2 s₁ S₁) ?_ fun _ _ e => e)
    rintro v₂ s₂ ⟨m₂, n₂, S₂, e1, e2, t₂, e3⟩
    subst e1; subst e2; subst e3
    refine wpAny_mono (run_ord (Q := fun v m' n' => v = .bool (cmpI o₁ a b) ∧ m' = m₂ ∧ n' = n₂) i1 ⟨rfl, rfl, rfl⟩ s₂ S₂) ?_ fun _ _ e => e
    rintro v₃ s₃ ⟨m₃, n₃, S₃, e1, e2, e3⟩
    subst e1; subst e2; subst e3
    refine wpAny_truthy_bool ?_
    cases hc : cmpI o₁ a b with
    | false => exact ⟨_, _, S₃, rfl, rfl, by simp⟩
    | true =>
      simp only [if_true, Bool.true_and]
      refine test_last (wpAny_mono (h3 hc s₃ S₃) ?_ fun _ _ e => e)
      rintro v₄ s₄ ⟨m₄, n₄, S₄, e1, e2, t₄, e3⟩
      subst e1; subst e2; subst e3
      refine wpAny_mono (run_ord (Q := fun v m' n' => v = .bool (cmpI o₂ b d) ∧ m' = m₄ ∧ n' = n₄) i2 ⟨rfl, rfl, rfl⟩ s₄ S₄) ?_ fun _ _ e => e
      rintro v₅ s₅ ⟨m₅, n₅, S₅, e1, e2, e3⟩
      subst e1; subst e2; subst e3
      exact wpAny_truthy_bool ⟨_, _, S₅, rfl, rfl, rfl⟩
  · unfold lastMarks
    show behindInMarks o₂ r₂ = false
    exact behind_of (by cases o₂ <;> first | rfl | cases i2)

-- floats: 0.0 alone
theorem cmpz (i : Int) : compare (0 : Int) i = if 0 < i then .lt else if 0 = i then .eq else .gt := rfl
theorem cmp0 (i : Int) : Float64.cmpInt 0 i = some (compare 0 i) := by
  unfold Float64.cmpInt
  have : Float64.decode 0 = .fin false 0 (-1074) := by kernel_rfl
  rw [this]
  simp only [show ¬ ((-1074 : Int) ≥ 0) by decide, if_false]
  have e : Float64.sgn false 0 = 0 := by decide +kernel
  rw [e]
  congr 1
  rw [show (-(-1074 : Int)).toNat = 1074 from rfl]
  have hp : (0 : Int) < 2 ^ 1074 := Int.pow_pos (by decide)
  generalize (2 : Int) ^ 1074 = P at hp
  rw [cmpz, cmpz]
  by_cases h1 : 0 < i
  · rw [if_pos (Int.mul_pos h1 hp), if_pos h1]
  · by_cases h2 : i = 0
    · subst h2; simp
    · have h3 : i < 0 := by omega
      have h4 : i * P < 0 := Int.mul_neg_of_neg_of_pos h3 hp
      rw [if_neg (by omega), if_neg (by omega), if_neg h1, if_neg (by omega)]
theorem ev_ltf {l : Expr} {a : Int} {k : Nat} {pos p : Pos} (h : EvI c m n env l a) : EvB c m n env (.Compare l [.Lt] [.Constant (.float 0) k p] pos) (decide (a < 0)) := run_cmp (useI h fun t s S => by
  refine AutoFloatOps.wpAny_Constant_float ⟨m, n, S.tok, ?_⟩
  intro s' S'
  refine lt_if ⟨m, n, S', rfl, rfl, ?_⟩
  rw [cmp0]
  congr 1
  rw [cmpz]
  by_cases h1 : 0 < a
  · rw [if_pos h1]; simp; omega
  · by_cases h2 : 0 = a
    · subst h2; simp
    · rw [if_neg h1, if_neg h2]; simp; omega)
theorem ev_gtf {l : Expr} {a : Int} {k : Nat} {pos p : Pos} (h : EvI c m n env l a) : EvB c m n env (.Compare l [.Gt] [.Constant (.float 0) k p] pos) (decide (0 < a)) := run_cmp (useI h fun t s S => by
  refine AutoFloatOps.wpAny_Constant_float ⟨m, n, S.tok, ?_⟩
  intro s' S'
  refine gt_if ⟨m, n, S', rfl, rfl, ?_⟩
  rw [cmp0]
  congr 1
  rw [cmpz]
  by_cases h1 : 0 < a
  · rw [if_pos h1]; simp [h1]
  · by_cases h2 : 0 = a
    · subst h2; simp
    · rw [if_neg h1, if_neg h2]; simp; omega)
theorem run_float {k : Nat} {pos : Pos} {Q : Value → Loc → Led → Prop} (h : ∀ t, Q (.float 0 t) m n) : Run c m n (eval (.Constant (.float 0) k pos) env) Q := fun s S => AutoFloatOps.wpAny_Constant_float ⟨m, n, S.tok, h _⟩

-- pairs compared
theorem shaped2 (a b : Int) : SeqAt.shaped (.tuple [.int a, .int b]) = true := by
  simp [SeqAt.shaped, PyData.canLay0, PyData.canLayAll0, PyData.depth, PyData.depthAll]
theorem nomix2 (a b a' b' : Int) : SeqAt.noMix (.tuple [.int a, .int b]) (.tuple [.int a', .int b']) = true := by
  simp [SeqAt.noMix, SeqAt.noMixAll]
theorem run_eqT {p q : Addr} {a b a' b' : Int} {t u t' u' : Tok} {k k' : Nat} {Q : Value → Loc → Led → Prop} (hp : (p, tupO [.int a t, .int b u] k) ∈ n) (hq : (q, tupO [.int a' t', .int b' u'] k') ∈ n) (rm : c.A.units + 64 < cLine) (h : Q (.bool (decide ((a, b) = (a', b')))) m n) :
    Run c m n (compareOp .Eq (.ref p) (.ref q)) Q := fun s S => by
  refine eq_dataH_same (reads_tuple_at (S.N _ hp).1 rfl rfl (.cons (.int a t) (.cons (.int b u) .nil))) (reads_tuple_at (S.N _ hq).1 rfl rfl (.cons (.int a' t') (.cons (.int b' u') .nil))) (shaped2 ..) (shaped2 ..) rm (nomix2 ..) ⟨m, n, S, ?_⟩
  have : PySem.Spec.same (.tuple [.int a, .int b]) (.tuple [.int a', .int b']) = decide ((a, b) = (a', b')) := by
    simp [PySem.Spec.same, PySem.Spec.sameAll, Prod.mk.injEq]
    rfl
  rw [this]; exact h
theorem run_neT {p q : Addr} {a b a' b' : Int} {t u t' u' : Tok} {k k' : Nat} {Q : Value → Loc → Led → Prop} (hp : (p, tupO [.int a t, .int b u] k) ∈ n) (hq : (q, tupO [.int a' t', .int b' u'] k') ∈ n) (rm : c.A.units + 64 < cLine) (h : Q (.bool (!decide ((a, b) = (a', b')))) m n) :
    Run c m n (compareOp .NotEq (.ref p) (.ref q)) Q := fun s S => by
  refine ne_dataH_same (reads_tuple_at (S.N _ hp).1 rfl rfl (.cons (.int a t) (.cons (.int b u) .nil))) (reads_tuple_at (S.N _ hq).1 rfl rfl (.cons (.int a' t') (.cons (.int b' u') .nil))) (shaped2 ..) (shaped2 ..) rm (nomix2 ..) ⟨m, n, S, ?_⟩
  have : PySem.Spec.same (.tuple [.int a, .int b]) (.tuple [.int a', .int b']) = decide ((a, b) = (a', b')) := by
    simp [PySem.Spec.same, PySem.Spec.sameAll, Prod.mk.injEq]
    rfl
  rw [this]; exact h
theorem run_eqNil {p q : Addr} {k k' : Nat} {Q : Value → Loc → Led → Prop} (hp : (p, listO [] k) ∈ n) (hq : (q, listO [] k') ∈ n) (rm : c.A.units + 64 < cLine) (h : Q (.bool true) m n) :
    Run c m n (compareOp .Eq (.ref p) (.ref q)) Q := fun s S => ke_eq_ints (S.isList hp) (S.isList hq) .nil .nil rm ⟨m, n, S, h⟩
-- nodes compared: the def __eq__
theorem run_eqN {a b d d' : Addr} {o o' : Obj} {v : Bool} {Q : Value → Loc → Led → Prop} (ha : (a, instObj 59 d) ∈ n) (hdd : (d, o) ∈ n) (hb : (b, instObj 59 d') ∈ n) (hdd' : (d', o') ∈ n) (rm : c.A.units < cLine)
    (h : Run c m n (call (.ref 56) [.ref a, .ref b]) (fun r m' n' => r = .bool v ∧ Q (.bool v) m' n')) : Run c m n (compareOp .Eq (.ref a) (.ref b)) Q := fun s S => by
  refine cmp_ofEq (cmp_K rm S.F S.ok.X (InstAt.of_news S.N ha hdd) (InstAt.type (InstAt.of_news S.N hb hdd')) (by rfl) (by rfl) (by rfl) ?_)
  refine wpAny_mono (h s S) ?_ fun _ _ e => e
  rintro r s' ⟨m', n', S', e, q⟩
  subst e
  exact ⟨m', n', S', q⟩
-- objects made
theorem run_make {C fI : Addr} {pos : List Value} {Q : Value → Loc → Led → Prop} {k : Nat} (rm : Room (k + 2) c) (hm : ∀ P, makesIn (hd.heap_39 P) C = true) (hi : ∀ P, findIn (hd.heap_39 P) (.ref C) "__init__" = some (some (.ref fI))) (hf : ∀ P, isFn (hd.heap_39 P) (.ref fI) = true)
    (h : ∀ x dx, (∀ p ∈ n, p.1 < dx) → dx < x → Fn k fI (.ref x :: pos) [] ((x, instObj C dx) :: (dx, dictOf [] 0) :: n) (fun v n' => v = .none ∧ Q (.ref x) m n')) : Run c m n (call (.ref C) pos) Q := fun s S => by
  refine call_cls S.F S.ok.X S.N (hm _) (hi _) (hf _) ?_
  intro x dx h' F' N' l1 l2
  have nd : Keys ((x, instObj C dx) :: (dx, dictOf [] 0) :: n) := keys_cons (keys_cons S.nd l1) fun p hp => by
    rcases List.mem_cons.mp hp with rfl | hp
    · exact l2
    · exact Nat.lt_trans (l1 p hp) l2
  let c' : Cfg := { c with A := c.A.under (.builtin "type.__call__" ⟨.ref C :: pos, []⟩) }
  have ok' : c'.Ok := ⟨S.ok.B, S.ok.X, S.ok.T, S.ok.hA, S.ok.hf, S.ok.hke, S.ok.hh⟩
  have hd1 : c'.A.depth = c.A.depth + 1 := rfl
  have hu1 : c'.A.units ≤ c.A.units + 3 := by
    show c.A.units + _ ≤ _
    exact Nat.add_le_add_left (Nat.le_of_ble_eq_true rfl) _
  have rm' : Room k c' := ⟨by have := rm.1; omega, by have := rm.2; omega⟩
  have S' : St c' m ((x, instObj C dx) :: (dx, dictOf [] 0) :: n) { s with heap := h' } := ⟨ok', F', N', nd, S.gens, S.drawn, S.os⟩
  refine codeAny_mono (h x dx l1 l2 c' m _ S' rm') ?_
  rintro r s' ⟨v, n', e, S'', e1, q⟩
  subst e; subst e1
  exact ⟨rfl, m, n', ⟨S.ok, S''.F, S''.N, S''.nd, S''.gens, S''.drawn, S''.os⟩, q⟩
-- cells
theorem ev_cell {x : Str} {pos : Pos} {v : Value} {a : Addr} {o : Obj} (hc : env.cells.lookup x = some a) (hm : (a, o) ∈ n) (hd : o.data = .cell (some v)) (hk : env.scope.kind = .function := by rfl) (hx : env.kindOf x = some .cell := by rfl)
    (hb : (x == ("__debug__" : Str)) = false := by decide) : EvV c m n env (.Name x pos) v := fun s S => wpAny_Name (wpAny_loadName_cell hk hx hc ⟨o, (S.N _ hm).1, hd⟩ ⟨m, n, S, rfl, rfl, rfl⟩) hb
theorem ev_cellI {x : Str} {pos : Pos} {i : Int} {a : Addr} {o : Obj} (hc : env.cells.lookup x = some a) (hm : (a, o) ∈ n) (hd : ∃ t, o.data = .cell (some (.int i t))) (hk : env.scope.kind = .function := by rfl) (hx : env.kindOf x = some .cell := by rfl)
    (hb : (x == ("__debug__" : Str)) = false := by decide) : EvI c m n env (.Name x pos) i := let ⟨t, hd⟩ := hd; fun s S => wpAny_Name (wpAny_loadName_cell hk hx hc ⟨o, (S.N _ hm).1, hd⟩ ⟨m, n, S, rfl, rfl, t, rfl⟩) hb
theorem run_storec {x : Str} {v : Value} {v₀ : Option Value} {a : Addr} {o : Obj} {Q : Unit → Loc → Led → Prop} (hc : env.cells.lookup x = some a) (hm : (a, o) ∈ n) (hd : o.data = .cell v₀) (q : ∀ o', o'.data = .cell (some v) → Q () m (put n a o'))
    (hk : env.scope.kind = .function := by rfl) (hx : env.kindOf x = some .cell := by rfl) : Run c m n (storeName env x v) Q := fun s S => by
  refine wpAny_storeName_cell hk hx hc ⟨o, (S.N _ hm).1, hd⟩ fun h' hv hs => ?_
  obtain ⟨o', ho', hd'⟩ := hv
  have ha := S.N _ hm
  refine ⟨m, put n a o', S.to (tk := s.toks) ⟨S.F.ns.sameBut hs (Ne.symm ha.2.1), fun b ob e => (hs.2 b (fun q => by rw [q, ha.2.2] at e; cases e)).trans (S.F.keep b ob e), S.F.above⟩ (fun p hp => ?_) (S.nd.put _ _), q o' hd'⟩
  rcases put_mem hp with rfl | ⟨h1, h2⟩
  · exact ⟨ho', ha.2⟩
  · exact ⟨(hs.2 _ h2).trans (S.N p h1).1, (S.N p h1).2⟩
theorem run_assignc {x : Str} {pos' : Pos} {value : Expr} {pos : Pos} {Q : Flow → Loc → Led → Prop} (h : Run c m n (eval value env) (fun v m' n' => ∃ a o v₀, env.cells.lookup x = some a ∧ (a, o) ∈ n' ∧ o.data = .cell v₀ ∧ ∀ o', o'.data = .cell (some v) → Q .next m' (put n' a o')))
    (hk : env.scope.kind = .function := by rfl) (hx : env.kindOf x = some .cell := by rfl) (hs : swapsWith value (some (.Name x pos')) pos.line env = Pure.pure false := by rfl) :
    Run c m n (exec (.Assign [.Name x pos'] value pos) env) Q := fun s S =>
  wpAny_Assign_Name (wpAny_mono (h s S) (fun v s' ⟨m', n', S', a, o, v₀, hc, hm, hd, q⟩ => run_storec (Q := fun _ m'' n'' => Q .next m'' n'') hc hm hd q hk hx s' S') fun _ _ e => e) hs
-- names within a comprehension
theorem ev_cvar {x : Str} {pos : Pos} {v : Value} {C : Addr} {oC : Obj} {m₂ : Loc} {scope : Scope} {cl : List (Str × Addr)} (hm : (C, oC) ∈ n) (hO : LCg.NsObj oC m₂) (hv : m₂ x = some v) (hk : scope.kind = .function := by rfl) (hx : (compEnvC scope cl C env).kindOf x = some .local := by rfl)
    (hd : (x == ("__debug__" : Str)) = false := by decide) : EvV c m n (compEnvC scope cl C env) (.Name x pos) v := fun s S =>
  wpAny_Name (wpAny_loadName_local hk hx (hO.ns (S.N _ hm).1) hv ⟨m, n, S, rfl, rfl, rfl⟩) hd
-- a def whose locals are captured
theorem fn_enterC {k : Nat} {f : Addr} {args : List Value} {kw : List (Str × Value)} {Post : Value → Led → Prop} {name qual : Str} {params : Arguments} {body : List Stmt} {scope : Scope} {dV kV doc pm cdv ct oc : Value} {an od : Option Addr} {osl : Array (Option Value)} {binds : List (Str × Value)}
    (ho : ∀ P, (hd.heap_39 P).lookup f = some ⟨oc, od, .func (fnOf name qual params body scope dV kV doc pm an cdv ct), osl⟩) (hcd : ∀ P, codeIn (hd.heap_39 P) cdv qual = true)
    (hbind : ∀ (w : World) (s : Shared), (hd.heap_39 w.params).In s.heap → BindsTo s (fnOf name qual params body scope dV kV doc pm an cdv ct) ⟨args, kw⟩ binds)
    (hkind : (binds.all fun y => scope.names.lookup y.1 == some .local || scope.names.lookup y.1 == some .cell) = true) (hnd : ((cellsFrom 0 scope.names []).map (·.1)).Nodup)
    (hco : scope.isCoroutine = false) (hgen : scope.isGenerator = false) (hk : scope.kind = .function)
    (h : ∀ (c' : Cfg) cells, c'.Ok → Room k c' → Keys (cells ++ n) → CellsAre (bindC (envX qual scope c'.L f cdv (cellsFrom (c'.L + 1) scope.names [])).kindOf binds fun _ => none) (cellsFrom (c'.L + 1) scope.names []) cells → (∀ p ∈ n, p.1 < c'.L) →
      Run c' (bindL (envX qual scope c'.L f cdv (cellsFrom (c'.L + 1) scope.names [])).kindOf binds fun _ => none) (cells ++ n) (execs body (envX qual scope c'.L f cdv (cellsFrom (c'.L + 1) scope.names []))) (fun fl m' n' => Post (retv fl) n')) :
    Fn (k + 1) f args kw n Post := fun c m s S rm => by
  refine code_defC S.ok.B S.F S.ok.X S.N S.ok.T S.ok.hA S.ok.hf S.ok.hke (ho _) (hcd _) (by have := rm.1; omega) (hbind _ _ (S.X.keeps S.F.keep)) hkind hnd ?_ hco hgen hk
  intro g L' h₁ tk cells FG F' N' Y B' X' T' l1
  have ok' : (c.deep g c.A (envX qual scope L' f cdv (cellsFrom (L' + 1) scope.names [])) L').Ok :=
    ⟨B', X', T', by show (c.A.deeper _).frames = _; exact Around.frames_deeper S.ok.hA, rfl, hk, S.ok.hh⟩
  have rm' : Room k (c.deep g c.A (envX qual scope L' f cdv (cellsFrom (L' + 1) scope.names [])) L') := ⟨by have := rm.1; show c.A.depth + 1 + _ + _ < _; omega, by have := rm.2; show c.A.units + 3 + _ + _ < _; omega⟩
  have nd : Keys (cells ++ n) := by
    have hc : ∀ (names : List (Str × NameKind)) (b : Nat) (acc : List (Str × Addr)), (∀ q ∈ acc, q.2 < b) → (acc.map (·.2)).Nodup → ((cellsFrom b names acc).map (·.2)).Nodup ∧ ∀ q ∈ cellsFrom b names acc, (q ∈ acc ∨ b ≤ q.2) := by
      intro names
      induction names with
      | nil => intro b acc h1 h2; unfold cellsFrom; exact ⟨h2, fun q hq => .inl hq⟩
      | cons y r ih =>
        intro b acc h1 h2
        obtain ⟨z, kk⟩ := y
        unfold cellsFrom
        split
        · have := ih (b + 1) ((z, b) :: acc) (fun q hq => by
            rcases List.mem_cons.mp hq with rfl | hq
            · exact Nat.lt_succ_self _
            · exact Nat.lt_succ_of_lt (h1 q hq)) (List.nodup_cons.mpr ⟨fun hm => by
              obtain ⟨q, hq, e⟩ := List.mem_map.mp hm
              exact Nat.ne_of_lt (h1 q hq) e, h2⟩)
          refine ⟨this.1, fun q hq => ?_⟩
          rcases this.2 q hq with h | h
          · rcases List.mem_cons.mp h with rfl | h
            · exact .inr (Nat.le_refl _)
            · exact .inl h
          · exact .inr (Nat.le_of_succ_le h)
        · exact ih b acc h1 h2
    have hcl := hc scope.names (L' + 1) [] (fun q hq => nomatch hq) List.nodup_nil
    have hmap : ∀ {cs : List (Str × Addr)} {cells : List (Addr × Obj)} {cm : Str → Option Value}, CellsAre cm cs cells → cells.map (·.1) = cs.map (·.2) := by
      intro cs cells cm Y
      induction Y with
      | nil => rfl
      | cons _ _ ih => simp [ih]
    have hm := hmap Y
    unfold Keys
    rw [List.map_append, List.nodup_append]
    refine ⟨?_, S.nd, ?_⟩
    · rw [hm]; exact hcl.1
    · intro a ha b hb e
      subst e
      have ha' : a ∈ (cellsFrom (L' + 1) scope.names []).map (·.2) := by rw [← hm]; exact ha
      obtain ⟨q, hq, e⟩ := List.mem_map.mp ha'
      obtain ⟨p, hp, e'⟩ := List.mem_map.mp hb
      rcases hcl.2 q hq with h | h
      · cases h
      · have := l1 p hp
        rw [e'] at this
        rw [e] at h
        exact absurd this (Nat.not_lt.mpr (Nat.le_of_succ_le h))
  refine wpAny_mono (h (c.deep g c.A (envX qual scope L' f cdv (cellsFrom (L' + 1) scope.names [])) L') cells ok' rm' nd Y l1 { s with heap := h₁, toks := tk } ⟨ok', F', N', nd, S.gens, S.drawn, S.os⟩) ?_ fun _ _ e => e.elim
  rintro fl s' ⟨m', n', S', p⟩
  exact leaveK_ S'.F S'.N fun F'' N'' => ⟨_, n', rfl, ⟨S.ok, F'', N'', S'.nd, S'.gens, S'.drawn, S'.os⟩, p⟩
end
end Mine
namespace Mine
structure Flds (es : List DictEntry) (p : Addr) (x y : Int) (pv nx : Value) : Prop where
  len : es.length = 10
  pt : getL "point" es = some (some (.ref p))
  x : ∃ t, getL "x" es = some (some (.int x t))
  y : ∃ t, getL "y" es = some (some (.int y t))
  pv : getL "prev" es = some (some pv)
  nx : getL "next" es = some (some nx)
  pz : getL "prev_z" es = some (some .none)
  nz : getL "next_z" es = some (some .none)
  st : getL "steiner" es = some (some (.bool false))
/-- a node of the ledger's -/
structure NodeIn (n : Led) (a d : Addr) (p : Addr) (x y : Int) (pv nx : Value) : Prop where
  inst : (a, instObj 59 d) ∈ n
  dict : ∃ es, (d, dictOf es 10) ∈ n ∧ Flds es p x y pv nx
/-- a point of the ledger's -/
structure PtIn (n : Led) (a d : Addr) (x y : Int) : Prop where
  inst : (a, instObj 31 d) ∈ n
  dict : ∃ es k, (d, dictOf es k) ∈ n ∧ (∃ t, getL "x" es = some (some (.int x t))) ∧ ∃ t, getL "y" es = some (some (.int y t))
theorem NodeIn.sub {n n' : Led} {a d p : Addr} {x y : Int} {pv nx : Value} (N : NodeIn n a d p x y pv nx) (h : ∀ q ∈ n, q ∈ n') : NodeIn n' a d p x y pv nx :=
  let ⟨es, h1, h2⟩ := N.dict; ⟨h _ N.inst, es, h _ h1, h2⟩
theorem PtIn.sub {n n' : Led} {a d : Addr} {x y : Int} (N : PtIn n a d x y) (h : ∀ q ∈ n, q ∈ n') : PtIn n' a d x y :=
  let ⟨es, k, h1, h2⟩ := N.dict; ⟨h _ N.inst, es, k, h _ h1, h2⟩

section
variable {c : Cfg} {m : Loc} {n : Led} {env : Env} {value : Expr} {pos : Pos} {a d p : Addr} {x y : Int} {pv nx : Value}
theorem ev_x (h : EvV c m n env value (.ref a)) (N : NodeIn n a d p x y pv nx) (hb : attributeBase value "x" env (eval value env) = eval value env := by rfl) : EvI c m n env (.Attribute value "x" pos) x :=
  let ⟨_, hd, F⟩ := N.dict; ev_attrI h ao_x N.inst hd F.x hb
theorem ev_y (h : EvV c m n env value (.ref a)) (N : NodeIn n a d p x y pv nx) (hb : attributeBase value "y" env (eval value env) = eval value env := by rfl) : EvI c m n env (.Attribute value "y" pos) y :=
  let ⟨_, hd, F⟩ := N.dict; ev_attrI h ao_y N.inst hd F.y hb
theorem ev_pt (h : EvV c m n env value (.ref a)) (N : NodeIn n a d p x y pv nx) (hb : attributeBase value "point" env (eval value env) = eval value env := by rfl) : EvV c m n env (.Attribute value "point" pos) (.ref p) :=
  let ⟨_, hd, F⟩ := N.dict; ev_attr h ao_point N.inst hd F.pt rfl hb
theorem ev_prev (h : EvV c m n env value (.ref a)) {b : Addr} (N : NodeIn n a d p x y (.ref b) nx) (hb : attributeBase value "prev" env (eval value env) = eval value env := by rfl) : EvV c m n env (.Attribute value "prev" pos) (.ref b) :=
  let ⟨_, hd, F⟩ := N.dict; ev_attr h ao_prev N.inst hd F.pv rfl hb
theorem ev_next (h : EvV c m n env value (.ref a)) {b : Addr} (N : NodeIn n a d p x y pv (.ref b)) (hb : attributeBase value "next" env (eval value env) = eval value env := by rfl) : EvV c m n env (.Attribute value "next" pos) (.ref b) :=
  let ⟨_, hd, F⟩ := N.dict; ev_attr h ao_next N.inst hd F.nx rfl hb
theorem ev_pz (h : EvV c m n env value (.ref a)) (N : NodeIn n a d p x y pv nx) (hb : attributeBase value "prev_z" env (eval value env) = eval value env := by rfl) : EvV c m n env (.Attribute value "prev_z" pos) .none :=
  let ⟨_, hd, F⟩ := N.dict; ev_attr h ao_pz N.inst hd F.pz rfl hb
theorem ev_nz (h : EvV c m n env value (.ref a)) (N : NodeIn n a d p x y pv nx) (hb : attributeBase value "next_z" env (eval value env) = eval value env := by rfl) : EvV c m n env (.Attribute value "next_z" pos) .none :=
  let ⟨_, hd, F⟩ := N.dict; ev_attr h ao_nz N.inst hd F.nz rfl hb
theorem ev_st (h : EvV c m n env value (.ref a)) (N : NodeIn n a d p x y pv nx) (hb : attributeBase value "steiner" env (eval value env) = eval value env := by rfl) : EvV c m n env (.Attribute value "steiner" pos) (.bool false) :=
  let ⟨_, hd, F⟩ := N.dict; ev_attr h ao_st N.inst hd F.st rfl hb
theorem ev_px (h : EvV c m n env value (.ref a)) (N : PtIn n a d x y) (hb : attributeBase value "x" env (eval value env) = eval value env := by rfl) : EvI c m n env (.Attribute value "x" pos) x :=
  let ⟨_, _, hd, F, _⟩ := N.dict; ev_attrI h ap_x N.inst hd F hb
theorem ev_py (h : EvV c m n env value (.ref a)) (N : PtIn n a d x y) (hb : attributeBase value "y" env (eval value env) = eval value env := by rfl) : EvI c m n env (.Attribute value "y" pos) y :=
  let ⟨_, _, hd, _, F⟩ := N.dict; ev_attrI h ap_y N.inst hd F hb
end

theorem Flds.setPrev {es : List DictEntry} {p : Addr} {x y : Int} {pv nx v : Value} {hsh : Int} {t : Tok} (F : Flds es p x y pv nx) : Flds (putL "prev" hsh (.str "prev" t) v es) p x y v nx where
  len := (putL_length F.pv).trans F.len
  pt := by rw [getL_put, if_neg (by decide)]; exact F.pt
  x := by rw [getL_put, if_neg (by decide)]; exact F.x
  y := by rw [getL_put, if_neg (by decide)]; exact F.y
  pv := by rw [getL_put, if_pos rfl]
  nx := by rw [getL_put, if_neg (by decide)]; exact F.nx
  pz := by rw [getL_put, if_neg (by decide)]; exact F.pz
  nz := by rw [getL_put, if_neg (by decide)]; exact F.nz
  st := by rw [getL_put, if_neg (by decide)]; exact F.st
theorem Flds.setNext {es : List DictEntry} {p : Addr} {x y : Int} {pv nx v : Value} {hsh : Int} {t : Tok} (F : Flds es p x y pv nx) : Flds (putL "next" hsh (.str "next" t) v es) p x y pv v where
  len := (putL_length F.nx).trans F.len
  pt := by rw [getL_put, if_neg (by decide)]; exact F.pt
  x := by rw [getL_put, if_neg (by decide)]; exact F.x
  y := by rw [getL_put, if_neg (by decide)]; exact F.y
  pv := by rw [getL_put, if_neg (by decide)]; exact F.pv
  nx := by rw [getL_put, if_pos rfl]
  pz := by rw [getL_put, if_neg (by decide)]; exact F.pz
  nz := by rw [getL_put, if_neg (by decide)]; exact F.nz
  st := by rw [getL_put, if_neg (by decide)]; exact F.st
/-- only the objects at ds may have turned -/
def Only (ds : List Addr) (n n' : Led) : Prop := ∀ q ∈ n, q.1 ∉ ds → q ∈ n'
theorem Only.refl {ds : List Addr} {n : Led} : Only ds n n := fun _ h _ => h
theorem Only.trans {ds : List Addr} {n n' n'' : Led} (h : Only ds n n') (h' : Only ds n' n'') : Only ds n n'' := fun q hq e => h' q (h q hq e) e
theorem Only.mono {ds ds' : List Addr} {n n' : Led} (h : Only ds n n') (e : ∀ d ∈ ds, d ∈ ds') : Only ds' n n' := fun q hq e' => h q hq fun hm => e' (e _ hm)
theorem NodeIn.other {n n' : Led} {ds : List Addr} {a d p : Addr} {x y : Int} {pv nx : Value} (N : NodeIn n a d p x y pv nx) (h : Only ds n n') (h1 : a ∉ ds) (h2 : d ∉ ds) : NodeIn n' a d p x y pv nx :=
  let ⟨es, e1, e2⟩ := N.dict; ⟨h _ N.inst h1, es, h _ e1 h2, e2⟩
theorem key_ne {n : Led} (nd : Keys n) {a b : Addr} {o o' : Obj} (ha : (a, o) ∈ n) (hb : (b, o') ∈ n) (h : o ≠ o') : a ≠ b := by
  intro e
  subst e
  have : ∀ {l : Led}, (l.map (·.1)).Nodup → (a, o) ∈ l → (a, o') ∈ l → o = o' := by
    intro l
    induction l with
    | nil => intro _ h _; cases h
    | cons q r ih =>
      intro hnd h1 h2
      rw [List.map_cons, List.nodup_cons] at hnd
      rcases List.mem_cons.mp h1 with h1 | h1 <;> rcases List.mem_cons.mp h2 with h2 | h2
      · have := h1.trans h2.symm; exact (Prod.mk.inj this).2
      · exact absurd (List.mem_map.mpr ⟨_, h2, by rw [← h1]⟩) hnd.1
      · exact absurd (List.mem_map.mpr ⟨_, h1, by rw [← h2]⟩) hnd.1
      · exact ih hnd.2 h1 h2
  exact h (this nd ha hb)
theorem key_same {n : Led} (nd : Keys n) {a : Addr} {o o' : Obj} (ha : (a, o) ∈ n) (hb : (a, o') ∈ n) : o = o' := Classical.byContradiction fun h => key_ne nd ha hb h rfl
theorem inst_ne_dict {d : Addr} {es : List DictEntry} {k : Nat} {C : Addr} : instObj C d ≠ dictOf es k := fun h => by have := congrArg Obj.data h; simp at this
section
variable {c : Cfg} {m : Loc} {n : Led} {env : Env} {a d p : Addr} {x y : Int} {pv nx v : Value}
theorem run_setprev {Q : Unit → Loc → Led → Prop} (N : NodeIn n a d p x y pv nx) (q : ∀ n', Keys n' → Only [d] n n' → NodeIn n' a d p x y v nx → Q () m n') : Run c m n (setAttr (.ref a) "prev" v) Q := Run.nd fun nd => by
  obtain ⟨es, hd, F⟩ := N.dict
  refine run_setattr so_prev N.inst hd (by rw [F.pv]; rfl) (by rw [F.len]; decide) fun hsh t => ?_
  rw [putN_same F.pv]
  refine q _ (nd.put _ _) (fun r hr e => mem_put_other hr (by simpa using e)) ⟨mem_put_other N.inst (key_ne nd N.inst hd inst_ne_dict), _, mem_put_same hd, F.setPrev⟩
theorem run_setnext {Q : Unit → Loc → Led → Prop} (N : NodeIn n a d p x y pv nx) (q : ∀ n', Keys n' → Only [d] n n' → NodeIn n' a d p x y pv v → Q () m n') : Run c m n (setAttr (.ref a) "next" v) Q := Run.nd fun nd => by
  obtain ⟨es, hd, F⟩ := N.dict
  refine run_setattr so_next N.inst hd (by rw [F.nx]; rfl) (by rw [F.len]; decide) fun hsh t => ?_
  rw [putN_same F.nx]
  refine q _ (nd.put _ _) (fun r hr e => mem_put_other hr (by simpa using e)) ⟨mem_put_other N.inst (key_ne nd N.inst hd inst_ne_dict), _, mem_put_same hd, F.setNext⟩
end

-- calls of pure defs
def NotStar (e : Expr) : Prop := ∀ env rest, starEach (e :: rest) env = (false, eval e env) :: starEach rest env
section
variable {c : Cfg} {m : Loc} {n : Led} {env : Env} {x : Str} {np pos : Pos} {fa : Addr} {k : Nat} {P : Value → Prop}
theorem Fn.ev {args : List Value} (h : Fn k fa args [] n (fun v n' => n' = n ∧ P v)) (rm : Room k c) : Ev c m n (call (.ref fa) args) P := h.run rm fun v n' _ ⟨e, p⟩ => ⟨rfl, e, p⟩
/-- the arguments, pure -/
inductive EvA (c : Cfg) (m : Loc) (n : Led) (env : Env) : List Expr → (List Value → Prop) → Prop
  | nil : EvA c m n env [] (fun vs => vs = [])
  | consV {e : Expr} {v : Value} {es : List Expr} {P : List Value → Prop} : EvV c m n env e v → NotStar e → EvA c m n env es P → EvA c m n env (e :: es) (fun vs => ∃ r, vs = v :: r ∧ P r)
  | consI {e : Expr} {i : Int} {es : List Expr} {P : List Value → Prop} : EvI c m n env e i → NotStar e → EvA c m n env es P → EvA c m n env (e :: es) (fun vs => ∃ t r, vs = .int i t :: r ∧ P r)
theorem EvA.run {es : List Expr} {P : List Value → Prop} (h : EvA c m n env es P) : ∀ {Q : List Value → Loc → Led → Prop}, (∀ vs, P vs → Q vs m n) → Args c m n env pos es Q := by
  induction h with
  | nil => intro Q q; exact args_nil (q _ rfl)
  | consV h1 h2 h3 ih => intro Q q; exact args_cons (useV h1 (ih fun vs p => q _ ⟨vs, rfl, p⟩)) (h2 _ _)
  | consI h1 h2 h3 ih => intro Q q; exact args_cons (useI h1 fun t => ih fun vs p => q _ ⟨t, vs, rfl, p⟩) (h2 _ _)
theorem EvA.plain {es : List Expr} {P : List Value → Prop} (h : EvA c m n env es P) : (backTo pos (starEach es env)).any (·.1) = false := by
  induction h with
  | nil => rfl
  | consV h1 h2 h3 ih => rw [h2]; simpa [backTo] using ih
  | consI h1 h2 h3 ih => rw [h2]; simpa [backTo] using ih
theorem ev_call {e : Expr} {es : List Expr} {A : List Value → Prop} (g : ∀ P, nsIn (hd.heap_39 P) mainGlobals x = some (some (.ref fa))) (hk : ∀ P, keepIn (hd.heap_39 P) (.ref fa) = true) (ha : EvA c m n env (e :: es) A)
    (hf : ∀ vs, A vs → Fn k fa vs [] n (fun v n' => n' = n ∧ P v)) (rm : Room k c) (hg : env.globals = mainGlobals := by rfl) (hke : env.scope.kind = .function := by rfl)
    (hx : env.kindOf x = some .globalImplicit := by rfl) (hd : (x == ("__debug__" : Str)) = false := by decide) : Ev c m n (eval (.Call (.Name x np) (e :: es) [] pos) env) P := by
  refine run_call g hk (ha.run fun vs p => (hf vs p).ev rm) hg hke hx hd ?_ ?_
  · cases ha with
    | consV _ h2 _ => exact h2 _ _
    | consI _ h2 _ => exact h2 _ _
  · cases ha with
    | consV _ _ h3 => exact h3.plain
    | consI _ _ h3 => exact h3.plain
/-- a call whose ledger turns -/
theorem run_callF {e : Expr} {es : List Expr} {A : List Value → Prop} {Post : Value → Led → Prop} {Q : Value → Loc → Led → Prop} (g : ∀ P, nsIn (hd.heap_39 P) mainGlobals x = some (some (.ref fa))) (hk : ∀ P, keepIn (hd.heap_39 P) (.ref fa) = true) (ha : EvA c m n env (e :: es) A)
    (hf : ∀ vs, A vs → Fn k fa vs [] n Post) (rm : Room k c) (q : ∀ v n', Keys n' → Post v n' → Q v m n') (hg : env.globals = mainGlobals := by rfl) (hke : env.scope.kind = .function := by rfl)
    (hx : env.kindOf x = some .globalImplicit := by rfl) (hd : (x == ("__debug__" : Str)) = false := by decide) : Run c m n (eval (.Call (.Name x np) (e :: es) [] pos) env) Q := by
  refine run_call g hk (ha.run fun vs p => (hf vs p).run rm q) hg hke hx hd ?_ ?_
  · cases ha with
    | consV _ h2 _ => exact h2 _ _
    | consI _ h2 _ => exact h2 _ _
  · cases ha with
    | consV _ _ h3 => exact h3.plain
    | consI _ _ h3 => exact h3.plain
/-- the same of a built-in -/
theorem run_callB {id : String} {e : Expr} {es : List Expr} {A : List Value → Prop} {Q : Value → Loc → Led → Prop} (g : ∀ P, nsIn (hd.heap_39 P) mainGlobals x = some none) (hv : bootBuiltins x = some (.builtin id)) (hn : x ≠ "__name__") (ha : EvA c m n env (e :: es) A)
    (hf : ∀ vs, A vs → Run c m n (call (.builtin id) vs) Q) (hg : env.globals = mainGlobals := by rfl) (hgb : env.builtins = builtinsNs := by rfl) (hke : env.scope.kind = .function := by rfl)
    (hx : env.kindOf x = some .globalImplicit := by rfl) (hd : (x == ("__debug__" : Str)) = false := by decide) : Run c m n (eval (.Call (.Name x np) (e :: es) [] pos) env) Q := by
  refine run_callb g hv hn (ha.run hf) hg hgb hke hx hd ?_ ?_
  · cases ha with
    | consV _ h2 _ => exact h2 _ _
    | consI _ h2 _ => exact h2 _ _
  · cases ha with
    | consV _ _ h3 => exact h3.plain
    | consI _ _ h3 => exact h3.plain
theorem run_callT {T : String} {e : Expr} {es : List Expr} {A : List Value → Prop} {Q : Value → Loc → Led → Prop} (g : ∀ P, nsIn (hd.heap_39 P) mainGlobals x = some none) (hv : bootBuiltins x = some (.type T)) (hn : x ≠ "__name__") (ha : EvA c m n env (e :: es) A)
    (hf : ∀ vs, A vs → Run c m n (call (.type T) vs) Q) (hg : env.globals = mainGlobals := by rfl) (hgb : env.builtins = builtinsNs := by rfl) (hke : env.scope.kind = .function := by rfl)
    (hx : env.kindOf x = some .globalImplicit := by rfl) (hd : (x == ("__debug__" : Str)) = false := by decide) : Run c m n (eval (.Call (.Name x np) (e :: es) [] pos) env) Q := by
  refine run_callt g hv hn (ha.run hf) hg hgb hke hx hd ?_ ?_
  · cases ha with
    | consV _ h2 _ => exact h2 _ _
    | consI _ h2 _ => exact h2 _ _
  · cases ha with
    | consV _ _ h3 => exact h3.plain
    | consI _ _ h3 => exact h3.plain
end
end Mine
namespace Mine
theorem g_Point : ∀ P, nsIn (hd.heap_39 P) mainGlobals "Point" = some (some (.ref 31)) := fun _ => by rfl
theorem k_Point : ∀ P, keepIn (hd.heap_39 P) (.ref 31) = true := fun _ => by rfl
theorem g_Node : ∀ P, nsIn (hd.heap_39 P) mainGlobals "Node" = some (some (.ref 59)) := fun _ => by rfl
theorem k_Node : ∀ P, keepIn (hd.heap_39 P) (.ref 59) = true := fun _ => by rfl
theorem g_earcut : ∀ P, nsIn (hd.heap_39 P) mainGlobals "earcut" = some (some (.ref 70)) := fun _ => by rfl
theorem k_earcut : ∀ P, keepIn (hd.heap_39 P) (.ref 70) = true := fun _ => by rfl
theorem g_linked_list : ∀ P, nsIn (hd.heap_39 P) mainGlobals "linked_list" = some (some (.ref 77)) := fun _ => by rfl
theorem k_linked_list : ∀ P, keepIn (hd.heap_39 P) (.ref 77) = true := fun _ => by rfl
theorem g_signed_area : ∀ P, nsIn (hd.heap_39 P) mainGlobals "signed_area" = some (some (.ref 84)) := fun _ => by rfl
theorem k_signed_area : ∀ P, keepIn (hd.heap_39 P) (.ref 84) = true := fun _ => by rfl
theorem g_area : ∀ P, nsIn (hd.heap_39 P) mainGlobals "area" = some (some (.ref 91)) := fun _ => by rfl
theorem k_area : ∀ P, keepIn (hd.heap_39 P) (.ref 91) = true := fun _ => by rfl
theorem g_sign : ∀ P, nsIn (hd.heap_39 P) mainGlobals "sign" = some (some (.ref 98)) := fun _ => by rfl
theorem k_sign : ∀ P, keepIn (hd.heap_39 P) (.ref 98) = true := fun _ => by rfl
theorem g_on_segment : ∀ P, nsIn (hd.heap_39 P) mainGlobals "on_segment" = some (some (.ref 105)) := fun _ => by rfl
theorem k_on_segment : ∀ P, keepIn (hd.heap_39 P) (.ref 105) = true := fun _ => by rfl
theorem g_intersects : ∀ P, nsIn (hd.heap_39 P) mainGlobals "intersects" = some (some (.ref 112)) := fun _ => by rfl
theorem k_intersects : ∀ P, keepIn (hd.heap_39 P) (.ref 112) = true := fun _ => by rfl
theorem g_insert_node : ∀ P, nsIn (hd.heap_39 P) mainGlobals "insert_node" = some (some (.ref 119)) := fun _ => by rfl
theorem k_insert_node : ∀ P, keepIn (hd.heap_39 P) (.ref 119) = true := fun _ => by rfl
theorem g_remove_node : ∀ P, nsIn (hd.heap_39 P) mainGlobals "remove_node" = some (some (.ref 126)) := fun _ => by rfl
theorem k_remove_node : ∀ P, keepIn (hd.heap_39 P) (.ref 126) = true := fun _ => by rfl
theorem g_filter_points : ∀ P, nsIn (hd.heap_39 P) mainGlobals "filter_points" = some (some (.ref 134)) := fun _ => by rfl
theorem k_filter_points : ∀ P, keepIn (hd.heap_39 P) (.ref 134) = true := fun _ => by rfl
theorem g_earcut_linked : ∀ P, nsIn (hd.heap_39 P) mainGlobals "earcut_linked" = some (some (.ref 141)) := fun _ => by rfl
theorem k_earcut_linked : ∀ P, keepIn (hd.heap_39 P) (.ref 141) = true := fun _ => by rfl
theorem g_is_ear : ∀ P, nsIn (hd.heap_39 P) mainGlobals "is_ear" = some (some (.ref 148)) := fun _ => by rfl
theorem k_is_ear : ∀ P, keepIn (hd.heap_39 P) (.ref 148) = true := fun _ => by rfl
theorem g_point_in_triangle : ∀ P, nsIn (hd.heap_39 P) mainGlobals "point_in_triangle" = some (some (.ref 155)) := fun _ => by rfl
theorem k_point_in_triangle : ∀ P, keepIn (hd.heap_39 P) (.ref 155) = true := fun _ => by rfl
theorem g_cure_local_intersections : ∀ P, nsIn (hd.heap_39 P) mainGlobals "cure_local_intersections" = some (some (.ref 162)) := fun _ => by rfl
theorem k_cure_local_intersections : ∀ P, keepIn (hd.heap_39 P) (.ref 162) = true := fun _ => by rfl
theorem g_locally_inside : ∀ P, nsIn (hd.heap_39 P) mainGlobals "locally_inside" = some (some (.ref 169)) := fun _ => by rfl
theorem k_locally_inside : ∀ P, keepIn (hd.heap_39 P) (.ref 169) = true := fun _ => by rfl
theorem g_law_rim : ∀ P, nsIn (hd.heap_39 P) mainGlobals "_law_rim" = some (some (.ref 176)) := fun _ => by rfl
theorem k_law_rim : ∀ P, keepIn (hd.heap_39 P) (.ref 176) = true := fun _ => by rfl
theorem g_law_cross : ∀ P, nsIn (hd.heap_39 P) mainGlobals "_law_cross" = some (some (.ref 184)) := fun _ => by rfl
theorem k_law_cross : ∀ P, keepIn (hd.heap_39 P) (.ref 184) = true := fun _ => by rfl
theorem g_law_on : ∀ P, nsIn (hd.heap_39 P) mainGlobals "_law_on" = some (some (.ref 191)) := fun _ => by rfl
theorem k_law_on : ∀ P, keepIn (hd.heap_39 P) (.ref 191) = true := fun _ => by rfl
theorem g_law_meet : ∀ P, nsIn (hd.heap_39 P) mainGlobals "_law_meet" = some (some (.ref 198)) := fun _ => by rfl
theorem k_law_meet : ∀ P, keepIn (hd.heap_39 P) (.ref 198) = true := fun _ => by rfl
theorem g_law_within : ∀ P, nsIn (hd.heap_39 P) mainGlobals "_law_within" = some (some (.ref 205)) := fun _ => by rfl
theorem k_law_within : ∀ P, keepIn (hd.heap_39 P) (.ref 205) = true := fun _ => by rfl
theorem g_law_sweep : ∀ P, nsIn (hd.heap_39 P) mainGlobals "_law_sweep" = some (some (.ref 212)) := fun _ => by rfl
theorem k_law_sweep : ∀ P, keepIn (hd.heap_39 P) (.ref 212) = true := fun _ => by rfl
theorem g_law_filter : ∀ P, nsIn (hd.heap_39 P) mainGlobals "_law_filter" = some (some (.ref 219)) := fun _ => by rfl
theorem k_law_filter : ∀ P, keepIn (hd.heap_39 P) (.ref 219) = true := fun _ => by rfl
theorem g_law_ear : ∀ P, nsIn (hd.heap_39 P) mainGlobals "_law_ear" = some (some (.ref 226)) := fun _ => by rfl
theorem k_law_ear : ∀ P, keepIn (hd.heap_39 P) (.ref 226) = true := fun _ => by rfl
theorem g_law_run : ∀ P, nsIn (hd.heap_39 P) mainGlobals "_law_run" = some (some (.ref 233)) := fun _ => by rfl
theorem k_law_run : ∀ P, keepIn (hd.heap_39 P) (.ref 233) = true := fun _ => by rfl
theorem g_law_whole : ∀ P, nsIn (hd.heap_39 P) mainGlobals "_law_whole" = some (some (.ref 240)) := fun _ => by rfl
theorem k_law_whole : ∀ P, keepIn (hd.heap_39 P) (.ref 240) = true := fun _ => by rfl
theorem g_law_draw : ∀ P, nsIn (hd.heap_39 P) mainGlobals "_law_draw" = some (some (.ref 245)) := fun _ => by rfl
theorem k_law_draw : ∀ P, keepIn (hd.heap_39 P) (.ref 245) = true := fun _ => by rfl
theorem g_law_told : ∀ P, nsIn (hd.heap_39 P) mainGlobals "_law_told" = some (some (.ref 250)) := fun _ => by rfl
theorem k_law_told : ∀ P, keepIn (hd.heap_39 P) (.ref 250) = true := fun _ => by rfl
theorem g_len : ∀ P, nsIn (hd.heap_39 P) mainGlobals "len" = some none := fun _ => by rfl
theorem b_len : bootBuiltins "len" = some (.builtin "len") := by rfl
theorem g_min : ∀ P, nsIn (hd.heap_39 P) mainGlobals "min" = some none := fun _ => by rfl
theorem b_min : bootBuiltins "min" = some (.builtin "min") := by rfl
theorem g_max : ∀ P, nsIn (hd.heap_39 P) mainGlobals "max" = some none := fun _ => by rfl
theorem b_max : bootBuiltins "max" = some (.builtin "max") := by rfl
theorem g_isinstance : ∀ P, nsIn (hd.heap_39 P) mainGlobals "isinstance" = some none := fun _ => by rfl
theorem b_isinstance : bootBuiltins "isinstance" = some (.builtin "isinstance") := by rfl
theorem g_list : ∀ P, nsIn (hd.heap_39 P) mainGlobals "list" = some none := fun _ => by rfl
theorem b_list : bootBuiltins "list" = some (.type "list") := by rfl
theorem g_range : ∀ P, nsIn (hd.heap_39 P) mainGlobals "range" = some none := fun _ => by rfl
theorem b_range : bootBuiltins "range" = some (.type "range") := by rfl
theorem g_reversed : ∀ P, nsIn (hd.heap_39 P) mainGlobals "reversed" = some none := fun _ => by rfl
theorem b_reversed : bootBuiltins "reversed" = some (.type "reversed") := by rfl
theorem g_tuple : ∀ P, nsIn (hd.heap_39 P) mainGlobals "tuple" = some none := fun _ => by rfl
theorem b_tuple : bootBuiltins "tuple" = some (.type "tuple") := by rfl
end Mine
namespace Mine
abbrev Pt := Int × Int
def ar (p q r : Pt) : Int := (q.2 - p.2) * (r.1 - q.1) - (q.1 - p.1) * (r.2 - q.2)
def sg (a : Int) : Int := if a < 0 then -1 else if 0 < a then 1 else 0
def onSeg (p q r : Pt) : Bool := (decide (q.1 ≤ max p.1 r.1) && decide (min p.1 r.1 ≤ q.1)) && (decide (q.2 ≤ max p.2 r.2) && decide (min p.2 r.2 ≤ q.2))
def pit (a b c p : Pt) : Bool := decide ((a.1 - p.1) * (c.2 - p.2) ≤ (c.1 - p.1) * (a.2 - p.2)) && (decide ((b.1 - p.1) * (a.2 - p.2) ≤ (a.1 - p.1) * (b.2 - p.2)) && decide ((c.1 - p.1) * (b.2 - p.2) ≤ (b.1 - p.1) * (c.2 - p.2)))
def SmP (p : Pt) : Prop := Sml p.1 ∧ Sml p.2

local macro_rules | `(tactic| ktd_rel) => `(tactic| first
  | with_reducible exact ev_int
  | with_reducible exact ev_none
  | with_reducible exact ev_bool
  | ((with_reducible refine' ev_localI ?ka ?kl ?kk ?kx ?kd); (case ka => rfl); (case kl => rfl); (case kk => rfl); (case kx => rfl); (case kd => decide))
  | ((with_reducible refine' ev_local ?ka ?kl ?kk ?kx ?kd); (case ka => rfl); (case kl => rfl); (case kk => rfl); (case kx => rfl); (case kd => decide))
  | ((with_reducible refine' ev_add ?ka ?kb); (case ka => ktd_rel); (case kb => ktd_rel))
  | ((with_reducible refine' ev_sub ?ka ?kb); (case ka => ktd_rel); (case kb => ktd_rel))
  | ((with_reducible refine' ev_lt ?ka ?kb); (case ka => ktd_rel); (case kb => ktd_rel))
  | ((with_reducible refine' ev_le ?ka ?kb); (case ka => ktd_rel); (case kb => ktd_rel))
  | ((with_reducible refine' ev_gt ?ka ?kb); (case ka => ktd_rel); (case kb => ktd_rel))
  | ((with_reducible refine' ev_ge ?ka ?kb); (case ka => ktd_rel); (case kb => ktd_rel))
  | ((with_reducible refine' ev_eq ?ka ?kb); (case ka => ktd_rel); (case kb => ktd_rel))
  | ((with_reducible refine' ev_ne ?ka ?kb); (case ka => ktd_rel); (case kb => ktd_rel))
  | ((with_reducible refine' ev_neg ?ka); (case ka => ktd_rel))
  | ((with_reducible refine' ev_x ?ka ?kN ?kb); (case ka => ktd_rel); (case kN => with_reducible assumption); (case kb => rfl))
  | ((with_reducible refine' ev_y ?ka ?kN ?kb); (case ka => ktd_rel); (case kN => with_reducible assumption); (case kb => rfl))
  | ((with_reducible refine' ev_prev ?ka ?kN ?kb); (case ka => ktd_rel); (case kN => with_reducible assumption); (case kb => rfl))
  | ((with_reducible refine' ev_next ?ka ?kN ?kb); (case ka => ktd_rel); (case kN => with_reducible assumption); (case kb => rfl))
  | ((with_reducible refine' tr_cmp ?ka ?kb); (case ka => ktd_rel); (case kb => rfl))
  | fail "ev")

section
variable {c : Cfg} {m : Loc} {n : Led} {env : Env}
theorem run_ifb {test : Expr} {body orelse : List Stmt} {pos : Pos} {b : Bool} {Q : Flow → Loc → Led → Prop} (h : TrB c m n env test b) (ht : b = true → Run c m n (execs body env) Q) (hf : b = false → Run c m n (execs orelse env) Q) : Run c m n (exec (.If test body orelse pos) env) Q :=
  run_if (useT h (by cases b <;> simp only [Bool.false_eq_true, if_false, if_true]; exact hf rfl; exact ht rfl))

theorem c_area {n : Led} {p q r dp dq dr : Addr} {pp pq pr : Addr} {P Q R : Pt} {v1 v2 v3 v4 v5 v6 : Value} (hp : NodeIn n p dp pp P.1 P.2 v1 v2) (hq : NodeIn n q dq pq Q.1 Q.2 v3 v4) (hr : NodeIn n r dr pr R.1 R.2 v5 v6)
   (sP : SmP P) (sQ : SmP Q) (sR : SmP R) : Fn 1 91 [.ref p, .ref q, .ref r] [] n (fun v n' => n' = n ∧ ∃ t, v = .int (ar P Q R) t) := by
  refine fn_enter (binds := [("p", .ref p), ("q", .ref q), ("r", .ref r)]) (fun _ => by rfl) (fun _ => by rfl) (fun _ _ _ => BindsTo.of_eq (by rfl)) (by rfl) (by rfl) (by rfl) (by rfl) (by rfl) ?_
  intro c ok rm nd
  refine run_cons (run_ret (useI (i := ar P Q R) (ev_sub (ev_mul ?_ ?_ ((sQ.2.sub sP.2).mul (sR.1.sub sQ.1))) (ev_mul ?_ ?_ ((sQ.1.sub sP.1).mul (sR.2.sub sQ.2)))) fun t => ⟨rfl, t, rfl⟩)) <;> ktd_rel

theorem ev_area {e1 e2 e3 : Expr} {np pos : Pos} {p q r dp dq dr : Addr} {pp pq pr : Addr} {P Q R : Pt} {v1 v2 v3 v4 v5 v6 : Value} (h1 : EvV c m n env e1 (.ref p)) (hp : NodeIn n p dp pp P.1 P.2 v1 v2) (h2 : EvV c m n env e2 (.ref q)) (hq : NodeIn n q dq pq Q.1 Q.2 v3 v4) (h3 : EvV c m n env e3 (.ref r)) (hr : NodeIn n r dr pr R.1 R.2 v5 v6)
   (sP : SmP P) (sQ : SmP Q) (sR : SmP R) (rm : Room 1 c) (hg : env.globals = mainGlobals := by rfl) (hke : env.scope.kind = .function := by rfl)
    (hx : env.kindOf "area" = some .globalImplicit := by rfl) (n1 : NotStar e1 := by intro _ _; rfl) (n2 : NotStar e2 := by intro _ _; rfl) (n3 : NotStar e3 := by intro _ _; rfl) : EvI c m n env (.Call (.Name "area" np) [e1, e2, e3] [] pos) (ar P Q R) :=
  ev_call g_area k_area (.consV h1 n1 (.consV h2 n2 (.consV h3 n3 .nil))) (fun vs ⟨_, e, _, e', _, e'', e3⟩ => by subst e3; subst e''; subst e'; subst e; exact c_area hp hq hr sP sQ sR) rm hg hke hx

theorem c_sign {n : Led} {a : Int} {t : Tok} : Fn 1 98 [.int a t] [] n (fun v n' => n' = n ∧ ∃ t, v = .int (sg a) t) := by
  refine fn_enter (binds := [("num", .int a t)]) (fun _ => by rfl) (fun _ => by rfl) (fun _ _ _ => BindsTo.of_eq (by rfl)) (by rfl) (by rfl) (by rfl) (by rfl) (by rfl) ?_
  intro c ok rm nd
  refine run_cons (run_ifb (tr_cmp (ev_ltf (ev_localI (by rfl)))) (fun h => ?_) (fun h => ?_))
  · refine run_cons (run_ret (useI (ev_neg ev_int) fun t => ?_))
    have : sg a = -1 := by unfold sg; rw [if_pos (of_decide_eq_true h)]
    exact ⟨rfl, t, by rw [this]; rfl⟩
  · refine run_nil (run_cons (run_ifb (tr_cmp (ev_gtf (ev_localI (by rfl)))) (fun h' => ?_) (fun h' => ?_)))
    · refine run_cons (run_ret (useI ev_int fun t => ?_))
      have : sg a = 1 := by unfold sg; rw [if_neg (of_decide_eq_false h), if_pos (of_decide_eq_true h')]
      exact ⟨rfl, t, by rw [this]; rfl⟩
    · refine run_nil (run_cons (run_ret (useI ev_int fun t => ?_)))
      have : sg a = 0 := by unfold sg; rw [if_neg (of_decide_eq_false h), if_neg (of_decide_eq_false h')]
      exact ⟨rfl, t, by rw [this]; rfl⟩
theorem ev_sign {e : Expr} {np pos : Pos} {a : Int} (h : EvI c m n env e a) (rm : Room 1 c) (hg : env.globals = mainGlobals := by rfl) (hke : env.scope.kind = .function := by rfl)
    (hx : env.kindOf "sign" = some .globalImplicit := by rfl) (n1 : NotStar e := by intro _ _; rfl) : EvI c m n env (.Call (.Name "sign" np) [e] [] pos) (sg a) :=
  ev_call g_sign k_sign (.consI h n1 .nil) (fun vs ⟨t, _, e, e'⟩ => by subst e'; subst e; exact c_sign) rm hg hke hx

theorem ev_min2 {e1 e2 : Expr} {np pos : Pos} {a b : Int} (h1 : EvI c m n env e1 a) (h2 : EvI c m n env e2 b) (hg : env.globals = mainGlobals := by rfl) (hgb : env.builtins = builtinsNs := by rfl) (hke : env.scope.kind = .function := by rfl)
    (hx : env.kindOf "min" = some .globalImplicit := by rfl) (n1 : NotStar e1 := by intro _ _; rfl) (n2 : NotStar e2 := by intro _ _; rfl) : EvI c m n env (.Call (.Name "min" np) [e1, e2] [] pos) (min a b) :=
  run_callB g_min b_min (by decide) (.consI h1 n1 (.consI h2 n2 .nil)) (fun vs ⟨t, _, e, t', _, e', e''⟩ => by subst e''; subst e'; subst e; exact run_min2 fun t => ⟨rfl, rfl, t, rfl⟩) hg hgb hke hx
theorem ev_max2 {e1 e2 : Expr} {np pos : Pos} {a b : Int} (h1 : EvI c m n env e1 a) (h2 : EvI c m n env e2 b) (hg : env.globals = mainGlobals := by rfl) (hgb : env.builtins = builtinsNs := by rfl) (hke : env.scope.kind = .function := by rfl)
    (hx : env.kindOf "max" = some .globalImplicit := by rfl) (n1 : NotStar e1 := by intro _ _; rfl) (n2 : NotStar e2 := by intro _ _; rfl) : EvI c m n env (.Call (.Name "max" np) [e1, e2] [] pos) (max a b) :=
  run_callB g_max b_max (by decide) (.consI h1 n1 (.consI h2 n2 .nil)) (fun vs ⟨t, _, e, t', _, e', e''⟩ => by subst e''; subst e'; subst e; exact run_max2 fun t => ⟨rfl, rfl, t, rfl⟩) hg hgb hke hx
theorem ev_min3 {e1 e2 e3 : Expr} {np pos : Pos} {a b d : Int} (h1 : EvI c m n env e1 a) (h2 : EvI c m n env e2 b) (h3 : EvI c m n env e3 d) (hg : env.globals = mainGlobals := by rfl) (hgb : env.builtins = builtinsNs := by rfl) (hke : env.scope.kind = .function := by rfl)
    (hx : env.kindOf "min" = some .globalImplicit := by rfl) (n1 : NotStar e1 := by intro _ _; rfl) (n2 : NotStar e2 := by intro _ _; rfl) (n3 : NotStar e3 := by intro _ _; rfl) : EvI c m n env (.Call (.Name "min" np) [e1, e2, e3] [] pos) (min a (min b d)) :=
  run_callB g_min b_min (by decide) (.consI h1 n1 (.consI h2 n2 (.consI h3 n3 .nil))) (fun vs ⟨t, _, e, t', _, e', t'', _, e'', e3⟩ => by subst e3; subst e''; subst e'; subst e; exact run_min3 fun t => ⟨rfl, rfl, t, rfl⟩) hg hgb hke hx
theorem ev_max3 {e1 e2 e3 : Expr} {np pos : Pos} {a b d : Int} (h1 : EvI c m n env e1 a) (h2 : EvI c m n env e2 b) (h3 : EvI c m n env e3 d) (hg : env.globals = mainGlobals := by rfl) (hgb : env.builtins = builtinsNs := by rfl) (hke : env.scope.kind = .function := by rfl)
    (hx : env.kindOf "max" = some .globalImplicit := by rfl) (n1 : NotStar e1 := by intro _ _; rfl) (n2 : NotStar e2 := by intro _ _; rfl) (n3 : NotStar e3 := by intro _ _; rfl) : EvI c m n env (.Call (.Name "max" np) [e1, e2, e3] [] pos) (max a (max b d)) :=
  run_callB g_max b_max (by decide) (.consI h1 n1 (.consI h2 n2 (.consI h3 n3 .nil))) (fun vs ⟨t, _, e, t', _, e', t'', _, e'', e3⟩ => by subst e3; subst e''; subst e'; subst e; exact run_max3 fun t => ⟨rfl, rfl, t, rfl⟩) hg hgb hke hx

theorem c_onseg {n : Led} {p q r dp dq dr : Addr} {pp pq pr : Addr} {P Q R : Pt} {v1 v2 v3 v4 v5 v6 : Value} (hp : NodeIn n p dp pp P.1 P.2 v1 v2) (hq : NodeIn n q dq pq Q.1 Q.2 v3 v4) (hr : NodeIn n r dr pr R.1 R.2 v5 v6) :
   Fn 1 105 [.ref p, .ref q, .ref r] [] n (fun v n' => n' = n ∧ v = .bool (onSeg P Q R)) := by
  refine fn_enter (binds := [("p", .ref p), ("q", .ref q), ("r", .ref r)]) (fun _ => by rfl) (fun _ => by rfl) (fun _ _ _ => BindsTo.of_eq (by rfl)) (by rfl) (by rfl) (by rfl) (by rfl) (by rfl) ?_
  intro c ok rm nd
  refine run_cons (run_ret (useV (v := .bool (onSeg P Q R)) (ev_and (ev_chain2 (ev_max2 ?_ ?_) ?_ (fun _ => ev_min2 ?_ ?_)) fun _ => ev_one (ev_chain2 (ev_max2 ?_ ?_) ?_ (fun _ => ev_min2 ?_ ?_))) ⟨rfl, rfl⟩)) <;> ktd_rel
theorem ev_onseg {e1 e2 e3 : Expr} {np pos : Pos} {p q r dp dq dr : Addr} {pp pq pr : Addr} {P Q R : Pt} {v1 v2 v3 v4 v5 v6 : Value} (h1 : EvV c m n env e1 (.ref p)) (hp : NodeIn n p dp pp P.1 P.2 v1 v2) (h2 : EvV c m n env e2 (.ref q)) (hq : NodeIn n q dq pq Q.1 Q.2 v3 v4) (h3 : EvV c m n env e3 (.ref r)) (hr : NodeIn n r dr pr R.1 R.2 v5 v6)
   (rm : Room 1 c) (hg : env.globals = mainGlobals := by rfl) (hke : env.scope.kind = .function := by rfl)
    (hx : env.kindOf "on_segment" = some .globalImplicit := by rfl) (n1 : NotStar e1 := by intro _ _; rfl) (n2 : NotStar e2 := by intro _ _; rfl) (n3 : NotStar e3 := by intro _ _; rfl) : EvB c m n env (.Call (.Name "on_segment" np) [e1, e2, e3] [] pos) (onSeg P Q R) :=
  ev_call g_on_segment k_on_segment (.consV h1 n1 (.consV h2 n2 (.consV h3 n3 .nil))) (fun vs ⟨_, e, _, e', _, e'', e3⟩ => by subst e3; subst e''; subst e'; subst e; exact c_onseg hp hq hr) rm hg hke hx

def inters (p1 q1 p2 q2 : Pt) : Bool :=
  (!decide (sg (ar p1 q1 p2) = sg (ar p1 q1 q2)) && !decide (sg (ar p2 q2 p1) = sg (ar p2 q2 q1))) ||
  ((decide (sg (ar p1 q1 p2) = 0) && onSeg p1 p2 q1) || ((decide (sg (ar p1 q1 q2) = 0) && onSeg p1 q2 q1) || ((decide (sg (ar p2 q2 p1) = 0) && onSeg p2 p1 q2) || (decide (sg (ar p2 q2 q1) = 0) && onSeg p2 q1 q2))))
theorem c_inters {n : Led} {a1 b1 a2 b2 da1 db1 da2 db2 : Addr} {pa1 pb1 pa2 pb2 : Addr} {A1 B1 A2 B2 : Pt} {v1 v2 v3 v4 v5 v6 v7 v8 : Value} (h1 : NodeIn n a1 da1 pa1 A1.1 A1.2 v1 v2) (h2 : NodeIn n b1 db1 pb1 B1.1 B1.2 v3 v4) (h3 : NodeIn n a2 da2 pa2 A2.1 A2.2 v5 v6) (h4 : NodeIn n b2 db2 pb2 B2.1 B2.2 v7 v8)
   (s1 : SmP A1) (s2 : SmP B1) (s3 : SmP A2) (s4 : SmP B2) : Fn 2 112 [.ref a1, .ref b1, .ref a2, .ref b2] [] n (fun v n' => n' = n ∧ v = .bool (inters A1 B1 A2 B2)) := by
  refine fn_enter (binds := [("p1", .ref a1), ("q1", .ref b1), ("p2", .ref a2), ("q2", .ref b2)]) (fun _ => by rfl) (fun _ => by rfl) (fun _ _ _ => BindsTo.of_eq (by rfl)) (by rfl) (by rfl) (by rfl) (by rfl) (by rfl) ?_
  intro c ok rm nd
  refine run_cons (run_assign (useI (ev_sign (ev_area (by ktd_rel) h1 (by ktd_rel) h2 (by ktd_rel) h3 s1 s2 s3 rm) rm) fun t1 => ?_))
  refine run_cons (run_assign (useI (ev_sign (ev_area (by ktd_rel) h1 (by ktd_rel) h2 (by ktd_rel) h4 s1 s2 s4 rm) rm) fun t2 => ?_))
  refine run_cons (run_assign (useI (ev_sign (ev_area (by ktd_rel) h3 (by ktd_rel) h4 (by ktd_rel) h1 s3 s4 s1 rm) rm) fun t3 => ?_))
  refine run_cons (run_assign (useI (ev_sign (ev_area (by ktd_rel) h3 (by ktd_rel) h4 (by ktd_rel) h2 s3 s4 s2 rm) rm) fun t4 => ?_))
  refine run_cons (run_ifb (tr_and (by ktd_rel) fun _ => tr_and (by ktd_rel) fun _ => tr_and0) (fun h => ?_) (fun h => ?_))
  · refine run_cons (run_ret (useV ev_bool ⟨rfl, ?_⟩))
    rw [Bool.and_true] at h
    unfold inters; rw [h]; rfl
  refine run_nil (run_cons (run_ifb (tr_and (by ktd_rel) fun _ => tr_and (tr_val (ev_onseg (by ktd_rel) h1 (by ktd_rel) h3 (by ktd_rel) h2 rm)) fun _ => tr_and0) (fun h' => ?_) (fun h' => ?_)))
  · refine run_cons (run_ret (useV ev_bool ⟨rfl, ?_⟩))
    rw [Bool.and_true] at h h'
    unfold inters; rw [h, h']; rfl
  refine run_nil (run_cons (run_ifb (tr_and (by ktd_rel) fun _ => tr_and (tr_val (ev_onseg (by ktd_rel) h1 (by ktd_rel) h4 (by ktd_rel) h2 rm)) fun _ => tr_and0) (fun h'' => ?_) (fun h'' => ?_)))
  · refine run_cons (run_ret (useV ev_bool ⟨rfl, ?_⟩))
    rw [Bool.and_true] at h h' h''
    unfold inters; rw [h, h', h'']; rfl
  refine run_nil (run_cons (run_ifb (tr_and (by ktd_rel) fun _ => tr_and (tr_val (ev_onseg (by ktd_rel) h3 (by ktd_rel) h1 (by ktd_rel) h4 rm)) fun _ => tr_and0) (fun h3' => ?_) (fun h3' => ?_)))
  · refine run_cons (run_ret (useV ev_bool ⟨rfl, ?_⟩))
    rw [Bool.and_true] at h h' h'' h3'
    unfold inters; rw [h, h', h'', h3']; rfl
  refine run_nil (run_cons (run_ifb (tr_and (by ktd_rel) fun _ => tr_and (tr_val (ev_onseg (by ktd_rel) h3 (by ktd_rel) h2 (by ktd_rel) h4 rm)) fun _ => tr_and0) (fun h4' => ?_) (fun h4' => ?_)))
  · refine run_cons (run_ret (useV ev_bool ⟨rfl, ?_⟩))
    rw [Bool.and_true] at h h' h'' h3' h4'
    unfold inters; rw [h, h', h'', h3', h4']; rfl
  · refine run_nil (run_cons (run_ret (useV ev_bool ⟨rfl, ?_⟩)))
    rw [Bool.and_true] at h h' h'' h3' h4'
    unfold inters; rw [h, h', h'', h3', h4']; rfl
end
end Mine
namespace Mine
local macro_rules | `(tactic| ktd_rel) => `(tactic| first
  | with_reducible exact ev_int
  | with_reducible exact ev_none
  | with_reducible exact ev_bool
  | ((with_reducible refine' ev_localI ?ka ?kl ?kk ?kx ?kd); (case ka => rfl); (case kl => rfl); (case kk => rfl); (case kx => rfl); (case kd => decide))
  | ((with_reducible refine' ev_local ?ka ?kl ?kk ?kx ?kd); (case ka => rfl); (case kl => rfl); (case kk => rfl); (case kx => rfl); (case kd => decide))
  | ((with_reducible refine' ev_add ?ka ?kb); (case ka => ktd_rel); (case kb => ktd_rel))
  | ((with_reducible refine' ev_sub ?ka ?kb); (case ka => ktd_rel); (case kb => ktd_rel))
  | ((with_reducible refine' ev_lt ?ka ?kb); (case ka => ktd_rel); (case kb => ktd_rel))
  | ((with_reducible refine' ev_le ?ka ?kb); (case ka => ktd_rel); (case kb => ktd_rel))
  | ((with_reducible refine' ev_gt ?ka ?kb); (case ka => ktd_rel); (case kb => ktd_rel))
  | ((with_reducible refine' ev_ge ?ka ?kb); (case ka => ktd_rel); (case kb => ktd_rel))
  | ((with_reducible refine' ev_eq ?ka ?kb); (case ka => ktd_rel); (case kb => ktd_rel))
  | ((with_reducible refine' ev_ne ?ka ?kb); (case ka => ktd_rel); (case kb => ktd_rel))
  | ((with_reducible refine' ev_neg ?ka); (case ka => ktd_rel))
  | ((with_reducible refine' ev_x ?ka ?kN ?kb); (case ka => ktd_rel); (case kN => with_reducible assumption); (case kb => rfl))
  | ((with_reducible refine' ev_y ?ka ?kN ?kb); (case ka => ktd_rel); (case kN => with_reducible assumption); (case kb => rfl))
  | ((with_reducible refine' ev_prev ?ka ?kN ?kb); (case ka => ktd_rel); (case kN => with_reducible assumption); (case kb => rfl))
  | ((with_reducible refine' ev_next ?ka ?kN ?kb); (case ka => ktd_rel); (case kN => with_reducible assumption); (case kb => rfl))
  | ((with_reducible refine' tr_cmp ?ka ?kb); (case ka => ktd_rel); (case kb => rfl))
  | fail "ev")


section
variable {c : Cfg} {m : Loc} {n : Led} {env : Env}
theorem ev_ifexp {test body orelse : Expr} {pos : Pos} {b x y : Bool} (h : TrB c m n env test b) (ht : b = true → EvB c m n env body x) (hf : b = false → EvB c m n env orelse y) : EvB c m n env (.IfExp test body orelse pos) (if b then x else y) :=
  run_ifexp (useT h (by cases b <;> simp only [Bool.false_eq_true, if_false, if_true]; exact hf rfl; exact ht rfl))

theorem c_eq {n : Led} {p q dp dq : Addr} {pp pq : Addr} {P Q : Pt} {v1 v2 v3 v4 : Value} (hp : NodeIn n p dp pp P.1 P.2 v1 v2) (hq : NodeIn n q dq pq Q.1 Q.2 v3 v4) :
    Fn 1 56 [.ref p, .ref q] [] n (fun v n' => n' = n ∧ v = .bool (decide (P = Q))) := by
  refine fn_enter (binds := [("self", .ref p), ("other", .ref q)]) (fun _ => by rfl) (fun _ => by rfl) (fun _ _ _ => BindsTo.of_eq (by rfl)) (by rfl) (by rfl) (by rfl) (by rfl) (by rfl) ?_
  intro c ok rm nd
  refine run_cons (run_ret (useV (v := .bool (decide (P.1 = Q.1) && decide (P.2 = Q.2))) (ev_and ?_ fun _ => ev_one ?_) ⟨rfl, ?_⟩))
  · ktd_rel
  · ktd_rel
  · show Value.bool _ = Value.bool _
    congr 1
    rw [← Bool.decide_and]
    exact decide_eq_decide.mpr Prod.ext_iff.symm
theorem ev_eqN {e1 e2 : Expr} {pos : Pos} {p q dp dq : Addr} {pp pq : Addr} {P Q : Pt} {v1 v2 v3 v4 : Value} (h1 : EvV c m n env e1 (.ref p)) (hp : NodeIn n p dp pp P.1 P.2 v1 v2) (h2 : EvV c m n env e2 (.ref q)) (hq : NodeIn n q dq pq Q.1 Q.2 v3 v4) (rm : Room 1 c) :
    EvB c m n env (.Compare e1 [.Eq] [e2] pos) (decide (P = Q)) := by
  obtain ⟨es, hd, F⟩ := hp.dict
  obtain ⟨es', hd', F'⟩ := hq.dict
  exact run_cmp (useV h1 (useV h2 (run_eqN hp.inst hd hq.inst hd' (by have := rm.2; omega) ((c_eq hp hq).run rm fun v n' _ ⟨a, b⟩ => ⟨b, rfl, a, rfl⟩))))

theorem c_pit {n : Led} {A B C P : Pt} {t1 t2 t3 t4 t5 t6 t7 t8 : Tok} (sA : SmP A) (sB : SmP B) (sC : SmP C) (sP : SmP P) :
    Fn 1 155 [.int A.1 t1, .int A.2 t2, .int B.1 t3, .int B.2 t4, .int C.1 t5, .int C.2 t6, .int P.1 t7, .int P.2 t8] [] n (fun v n' => n' = n ∧ v = .bool (pit A B C P)) := by
  refine fn_enter (binds := [("ax", .int A.1 t1), ("ay", .int A.2 t2), ("bx", .int B.1 t3), ("by", .int B.2 t4), ("cx", .int C.1 t5), ("cy", .int C.2 t6), ("px", .int P.1 t7), ("py", .int P.2 t8)]) (fun _ => by rfl) (fun _ => by rfl) (fun _ _ _ => BindsTo.of_eq (by rfl)) (by rfl) (by rfl) (by rfl) (by rfl) (by rfl) ?_
  intro c ok rm nd
  refine run_cons (run_ret (useV (v := .bool (pit A B C P)) (ev_and (ev_ge (ev_mul ?_ ?_ ((sC.1.sub sP.1).mul (sA.2.sub sP.2))) (ev_mul ?_ ?_ ((sA.1.sub sP.1).mul (sC.2.sub sP.2)))) fun _ =>
    ev_and (ev_ge (ev_mul ?_ ?_ ((sA.1.sub sP.1).mul (sB.2.sub sP.2))) (ev_mul ?_ ?_ ((sB.1.sub sP.1).mul (sA.2.sub sP.2)))) fun _ =>
      ev_one (ev_ge (ev_mul ?_ ?_ ((sB.1.sub sP.1).mul (sC.2.sub sP.2))) (ev_mul ?_ ?_ ((sC.1.sub sP.1).mul (sB.2.sub sP.2))))) ⟨rfl, rfl⟩)) <;> ktd_rel

def locIn (ap a an b : Pt) : Bool := if decide (ar ap a an < 0) then (decide (0 ≤ ar a b an) && decide (0 ≤ ar a ap b)) else (decide (ar a b ap < 0) || decide (ar a an b < 0))
theorem c_locin {n : Led} {a b u w da db du dw : Addr} {pa pb pu pw : Addr} {A B U W : Pt} {v1 v2 v3 v4 v5 v6 : Value} (ha : NodeIn n a da pa A.1 A.2 (.ref u) (.ref w)) (hb : NodeIn n b db pb B.1 B.2 v1 v2) (hu : NodeIn n u du pu U.1 U.2 v3 v4) (hw : NodeIn n w dw pw W.1 W.2 v5 v6)
    (sA : SmP A) (sB : SmP B) (sU : SmP U) (sW : SmP W) : Fn 2 169 [.ref a, .ref b] [] n (fun v n' => n' = n ∧ v = .bool (locIn U A W B)) := by
  refine fn_enter (binds := [("a", .ref a), ("b", .ref b)]) (fun _ => by rfl) (fun _ => by rfl) (fun _ _ _ => BindsTo.of_eq (by rfl)) (by rfl) (by rfl) (by rfl) (by rfl) (by rfl) ?_
  intro c ok rm nd
  refine run_cons (run_ret (useV (v := .bool (locIn U A W B)) (ev_ifexp (tr_cmp (ev_lt (ev_area (p := u) ?_ hu (q := a) ?_ ha (r := w) ?_ hw sU sA sW rm) ev_int))
    (fun _ => ev_and (ev_ge (ev_area (p := a) ?_ ha (q := b) ?_ hb (r := w) ?_ hw sA sB sW rm) ev_int) fun _ => ev_one (ev_ge (ev_area (p := a) ?_ ha (q := u) ?_ hu (r := b) ?_ hb sA sU sB rm) ev_int))
    (fun _ => ev_or (ev_lt (ev_area (p := a) ?_ ha (q := b) ?_ hb (r := u) ?_ hu sA sB sU rm) ev_int) fun _ => ev_one (ev_lt (ev_area (p := a) ?_ ha (q := w) ?_ hw (r := b) ?_ hb sA sW sB rm) ev_int))) ⟨rfl, rfl⟩)) <;> ktd_rel
theorem ev_locin {e1 e2 : Expr} {np pos : Pos} {a b u w da db du dw : Addr} {pa pb pu pw : Addr} {A B U W : Pt} {v1 v2 v3 v4 v5 v6 : Value} (h1 : EvV c m n env e1 (.ref a)) (ha : NodeIn n a da pa A.1 A.2 (.ref u) (.ref w)) (h2 : EvV c m n env e2 (.ref b)) (hb : NodeIn n b db pb B.1 B.2 v1 v2) (hu : NodeIn n u du pu U.1 U.2 v3 v4) (hw : NodeIn n w dw pw W.1 W.2 v5 v6)
    (sA : SmP A) (sB : SmP B) (sU : SmP U) (sW : SmP W) (rm : Room 2 c) (hg : env.globals = mainGlobals := by rfl) (hke : env.scope.kind = .function := by rfl)
    (hx : env.kindOf "locally_inside" = some .globalImplicit := by rfl) (n1 : NotStar e1 := by intro _ _; rfl) (n2 : NotStar e2 := by intro _ _; rfl) : EvB c m n env (.Call (.Name "locally_inside" np) [e1, e2] [] pos) (locIn U A W B) :=
  ev_call g_locally_inside k_locally_inside (.consV h1 n1 (.consV h2 n2 .nil)) (fun vs ⟨_, e, _, e', e3⟩ => by subst e3; subst e'; subst e; exact c_locin ha hb hu hw sA sB sU sW) rm hg hke hx
theorem ev_inters {e1 e2 e3 e4 : Expr} {np pos : Pos} {a1 b1 a2 b2 da1 db1 da2 db2 : Addr} {pa1 pb1 pa2 pb2 : Addr} {A1 B1 A2 B2 : Pt} {v1 v2 v3 v4 v5 v6 v7 v8 : Value} (g1 : EvV c m n env e1 (.ref a1)) (h1 : NodeIn n a1 da1 pa1 A1.1 A1.2 v1 v2) (g2 : EvV c m n env e2 (.ref b1)) (h2 : NodeIn n b1 db1 pb1 B1.1 B1.2 v3 v4) (g3 : EvV c m n env e3 (.ref a2)) (h3 : NodeIn n a2 da2 pa2 A2.1 A2.2 v5 v6) (g4 : EvV c m n env e4 (.ref b2)) (h4 : NodeIn n b2 db2 pb2 B2.1 B2.2 v7 v8)
    (s1 : SmP A1) (s2 : SmP B1) (s3 : SmP A2) (s4 : SmP B2) (rm : Room 2 c) (hg : env.globals = mainGlobals := by rfl) (hke : env.scope.kind = .function := by rfl)
    (hx : env.kindOf "intersects" = some .globalImplicit := by rfl) (n1 : NotStar e1 := by intro _ _; rfl) (n2 : NotStar e2 := by intro _ _; rfl) (n3 : NotStar e3 := by intro _ _; rfl) (n4 : NotStar e4 := by intro _ _; rfl) : EvB c m n env (.Call (.Name "intersects" np) [e1, e2, e3, e4] [] pos) (inters A1 B1 A2 B2) :=
  ev_call g_intersects k_intersects (.consV g1 n1 (.consV g2 n2 (.consV g3 n3 (.consV g4 n4 .nil)))) (fun vs ⟨_, e, _, e', _, e'', _, e3, e4⟩ => by subst e4; subst e3; subst e''; subst e'; subst e; exact c_inters h1 h2 h3 h4 s1 s2 s3 s4) rm hg hke hx
end

/-- the nodes' fixed part -/
structure Sh where
  k : Nat
  a : Nat → Addr
  d : Nat → Addr
  p : Nat → Addr
  P : Nat → Pt
def Sh.ds (S : Sh) : List Addr := (List.range S.k).map S.d
structure Sh.Good (S : Sh) : Prop where
  ia : ∀ i j, i < S.k → j < S.k → S.a i = S.a j → i = j
  id : ∀ i j, i < S.k → j < S.k → S.d i = S.d j → i = j
  sm : ∀ i, i < S.k → SmP (S.P i)
def updf (f : Nat → Nat) (i v : Nat) : Nat → Nat := fun j => if j = i then v else f j
/-- the nodes stand in the ledger, linked by pv and nx -/
structure Nds (n : Led) (S : Sh) (pv nx : Nat → Nat) : Prop where
  node : ∀ i, i < S.k → NodeIn n (S.a i) (S.d i) (S.p i) (S.P i).1 (S.P i).2 (.ref (S.a (pv i))) (.ref (S.a (nx i)))
theorem Nds.sub {n n' : Led} {S : Sh} {pv nx : Nat → Nat} (h : Nds n S pv nx) (e : ∀ q ∈ n, q ∈ n') : Nds n' S pv nx := ⟨fun i hi => (h.node i hi).sub e⟩
theorem Sh.mem_ds {S : Sh} {i : Nat} (h : i < S.k) : S.d i ∈ S.ds := List.mem_map.mpr ⟨i, List.mem_range.mpr h, rfl⟩
theorem Nds.a_ne_d {n : Led} {S : Sh} {pv nx : Nat → Nat} (N : Nds n S pv nx) (nd : Keys n) {i j : Nat} (hi : i < S.k) (hj : j < S.k) : S.a i ≠ S.d j := by
  obtain ⟨es, h, _⟩ := (N.node j hj).dict
  exact key_ne nd (N.node i hi).inst h (inst_ne_dict)
theorem Nds.a_off {n : Led} {S : Sh} {pv nx : Nat → Nat} (N : Nds n S pv nx) (nd : Keys n) {i : Nat} (hi : i < S.k) : S.a i ∉ S.ds := fun h => by
  obtain ⟨j, hj, e⟩ := List.mem_map.mp h
  exact N.a_ne_d nd hi (List.mem_range.mp hj) e.symm
/-- an object that's no dict is no node's dict -/
theorem Nds.off {n : Led} {S : Sh} {pv nx : Nat → Nat} (N : Nds n S pv nx) (nd : Keys n) {q : Addr × Obj} (hq : q ∈ n) (h : ∀ es k, q.2 ≠ dictOf es k) : q.1 ∉ S.ds := fun hm => by
  obtain ⟨j, hj, e⟩ := List.mem_map.mp hm
  obtain ⟨es, h', _⟩ := (N.node j (List.mem_range.mp hj)).dict
  exact key_ne nd (a := q.1) (o := q.2) hq h' (h es 10) e.symm
/-- other objects alone have turned -/
theorem Nds.other {n n' : Led} {S : Sh} {pv nx : Nat → Nat} {ds : List Addr} (N : Nds n S pv nx) (h : Only ds n n') (h1 : ∀ i, i < S.k → S.a i ∉ ds) (h2 : ∀ i, i < S.k → S.d i ∉ ds) : Nds n' S pv nx := ⟨fun i hi => (N.node i hi).other h (h1 i hi) (h2 i hi)⟩
theorem Nds.setPrev {n n' : Led} {S : Sh} {pv nx : Nat → Nat} {i j : Nat} (G : S.Good) (N : Nds n S pv nx) (nd : Keys n) (hi : i < S.k) (h : Only [S.d i] n n') (hn : NodeIn n' (S.a i) (S.d i) (S.p i) (S.P i).1 (S.P i).2 (.ref (S.a j)) (.ref (S.a (nx i)))) : Nds n' S (updf pv i j) nx := ⟨fun l hl => by
  by_cases e : l = i
  · subst e; unfold updf; rw [if_pos rfl]; exact hn
  · have : updf pv i j l = pv l := by unfold updf; rw [if_neg e]
    rw [this]
    refine (N.node l hl).other h ?_ ?_
    · simpa using N.a_ne_d nd hl hi
    · simp only [List.mem_singleton]; exact fun e' => e (G.id _ _ hl hi e')⟩
theorem Nds.setNext {n n' : Led} {S : Sh} {pv nx : Nat → Nat} {i j : Nat} (G : S.Good) (N : Nds n S pv nx) (nd : Keys n) (hi : i < S.k) (h : Only [S.d i] n n') (hn : NodeIn n' (S.a i) (S.d i) (S.p i) (S.P i).1 (S.P i).2 (.ref (S.a (pv i))) (.ref (S.a j))) : Nds n' S pv (updf nx i j) := ⟨fun l hl => by
  by_cases e : l = i
  · subst e; unfold updf; rw [if_pos rfl]; exact hn
  · have : updf nx i j l = nx l := by unfold updf; rw [if_neg e]
    rw [this]
    refine (N.node l hl).other h ?_ ?_
    · simpa using N.a_ne_d nd hl hi
    · simp only [List.mem_singleton]; exact fun e' => e (G.id _ _ hl hi e')⟩

theorem c_remove {n : Led} {S : Sh} {pv nx : Nat → Nat} {i : Nat} (G : S.Good) (N : Nds n S pv nx) (hi : i < S.k) (hp : pv i < S.k) (hx : nx i < S.k) :
    Fn 1 126 [.ref (S.a i)] [] n (fun v n' => v = .none ∧ Only S.ds n n' ∧ Nds n' S (updf pv (nx i) (pv i)) (updf nx (pv i) (nx i))) := by
  refine fn_enter (binds := [("p", .ref (S.a i))]) (fun _ => by rfl) (fun _ => by rfl) (fun _ _ _ => BindsTo.of_eq (by rfl)) (by rfl) (by rfl) (by rfl) (by rfl) (by rfl) ?_
  intro c ok rm nd
  have hN := N.node i hi
  refine run_cons (run_assignattr (useV (v := .ref (S.a (pv i))) (by ktd_rel) (useV (v := .ref (S.a (nx i))) (by ktd_rel) (run_setprev (N.node _ hx) fun n₁ nd₁ o₁ h₁ => ?_))))
  have N₁ := N.setPrev G nd hx o₁ h₁
  have hN₁ := N₁.node i hi
  have e1 : updf pv (nx i) (pv i) i = pv i := by unfold updf; split <;> rfl
  rw [e1] at hN₁
  refine run_cons (run_assignattr (useV (v := .ref (S.a (nx i))) (by ktd_rel) (useV (v := .ref (S.a (pv i))) (by ktd_rel) (run_setnext (N₁.node _ hp) fun n₂ nd₂ o₂ h₂ => ?_))))
  have N₂ := N₁.setNext G nd₁ hp o₂ h₂
  have hN₂ := N₂.node i hi
  have o : Only S.ds n n₂ := (o₁.mono (by simpa using Sh.mem_ds hx)).trans (o₂.mono (by simpa using Sh.mem_ds hp))
  refine run_cons (run_if (is_plain (useV (ev_pz (ev_local (by rfl)) hN₂) (truth_none ?_))))
  refine run_nil (run_cons (run_if (is_plain (useV (ev_nz (ev_local (by rfl)) hN₂) (truth_none ?_)))))
  exact run_nil (run_nil ⟨rfl, o, N₂⟩)
end Mine
namespace Mine
-- rings
def Pth (pv nx : Nat → Nat) : Nat → List Nat → Prop
  | _, [] => True
  | x, y :: l => nx x = y ∧ pv y = x ∧ Pth pv nx y l
/-- the ring l, its first one the one at hand -/
def Lk (pv nx : Nat → Nat) : List Nat → Prop
  | [] => False
  | x :: l => (x :: l).Nodup ∧ Pth pv nx x (l ++ [x])
theorem Pth.snoc {pv nx : Nat → Nat} : ∀ {l : List Nat} {x y z : Nat}, Pth pv nx x (l ++ [y]) → nx y = z → pv z = y → Pth pv nx x (l ++ [y] ++ [z])
  | [], _, _, _, h, h1, h2 => ⟨h.1, h.2.1, h1, h2, trivial⟩
  | _ :: l, _, _, _, h, h1, h2 => ⟨h.1, h.2.1, Pth.snoc (l := l) h.2.2 h1 h2⟩
theorem Lk.rot {pv nx : Nat → Nat} {x : Nat} {l : List Nat} (h : Lk pv nx (x :: l)) : Lk pv nx (l ++ [x]) := by
  cases l with
  | nil => exact h
  | cons y r =>
    obtain ⟨nd, p⟩ := h
    refine ⟨?_, Pth.snoc p.2.2 p.1 p.2.1⟩
    have : (y :: (r ++ [x])).Perm (x :: y :: r) := (List.perm_append_comm (l₁ := y :: r) (l₂ := [x]))
    exact this.symm.nodup nd
theorem Pth.append {pv nx : Nat → Nat} : ∀ {l r : List Nat} {x y : Nat}, Pth pv nx x (l ++ y :: r) → Pth pv nx x (l ++ [y]) ∧ Pth pv nx y r
  | [], _, _, _, h => ⟨⟨h.1, h.2.1, trivial⟩, h.2.2⟩
  | _ :: l, _, _, _, h => let ⟨a, b⟩ := Pth.append (l := l) h.2.2; ⟨⟨h.1, h.2.1, a⟩, b⟩
theorem Pth.init {pv nx : Nat → Nat} : ∀ {l r : List Nat} {x : Nat}, Pth pv nx x (l ++ r) → Pth pv nx x l
  | [], _, _, _ => trivial
  | _ :: l, _, _, h => ⟨h.1, h.2.1, Pth.init (l := l) h.2.2⟩
/-- the last one of x :: l -/
def lst (x : Nat) (l : List Nat) : Nat := (x :: l).getLast (List.cons_ne_nil _ _)
theorem lst_cons {x y : Nat} {l : List Nat} : lst x (y :: l) = lst y l := List.getLast_cons (List.cons_ne_nil _ _)
theorem lst_mem {x : Nat} {l : List Nat} : lst x l ∈ x :: l := List.getLast_mem _
theorem lst_snoc {z : Nat} : ∀ {l : List Nat} {x : Nat}, lst x (l ++ [z]) = z
  | [], _ => rfl
  | _ :: l, _ => by rw [List.cons_append, lst_cons]; exact lst_snoc (l := l)
theorem Pth.last {pv nx : Nat → Nat} : ∀ {l : List Nat} {x z : Nat}, Pth pv nx x (l ++ [z]) → nx (lst x l) = z ∧ pv z = lst x l
  | [], _, _, h => ⟨h.1, h.2.1⟩
  | y :: l, _, _, h => by rw [lst_cons]; exact Pth.last (l := l) h.2.2
theorem Lk.prev {pv nx : Nat → Nat} {x : Nat} {l : List Nat} (h : Lk pv nx (x :: l)) : pv x = lst x l := (Pth.last h.2).2
theorem Lk.lnext {pv nx : Nat → Nat} {x : Nat} {l : List Nat} (h : Lk pv nx (x :: l)) : nx (lst x l) = x := (Pth.last h.2).1
theorem Lk.next {pv nx : Nat → Nat} {x y : Nat} {l : List Nat} (h : Lk pv nx (x :: y :: l)) : nx x = y := h.2.1
theorem Lk.next1 {pv nx : Nat → Nat} {x : Nat} (h : Lk pv nx [x]) : nx x = x ∧ pv x = x := ⟨h.2.1, h.2.2.1⟩

def anyHit (f : Nat → Nat → Nat → Bool) : Nat → List Nat → Bool
  | u, s :: w :: r => f u s w || anyHit f s (w :: r)
  | _, _ => false
def bbox (A B C p : Pt) : Bool := (decide (min A.1 (min B.1 C.1) ≤ p.1) && decide (p.1 ≤ max A.1 (max B.1 C.1))) && (decide (min A.2 (min B.2 C.2) ≤ p.2) && decide (p.2 ≤ max A.2 (max B.2 C.2)))
def hitP (P : Nat → Pt) (a b c u s w : Nat) : Bool := (decide (min (P a).1 (min (P b).1 (P c).1) ≤ (P s).1) && decide ((P s).1 ≤ max (P a).1 (max (P b).1 (P c).1))) && ((decide (min (P a).2 (min (P b).2 (P c).2) ≤ (P s).2) && decide ((P s).2 ≤ max (P a).2 (max (P b).2 (P c).2))) && (pit (P a) (P b) (P c) (P s) && decide (0 ≤ ar (P u) (P s) (P w))))
/-- what is_ear says of the first one of a ring -/
def earP (P : Nat → Pt) : List Nat → Bool
  | b :: c :: d :: r => if decide (0 ≤ ar (P (lst d r)) (P b) (P c)) then false else !anyHit (hitP P (lst d r) b c) c (d :: r)
  | _ => false
theorem earP_cons {P : Nat → Pt} {b c d : Nat} {r : List Nat} : earP P (b :: c :: d :: r) = if decide (0 ≤ ar (P (lst d r)) (P b) (P c)) then false else !anyHit (hitP P (lst d r) b c) c (d :: r) := rfl
local macro_rules | `(tactic| ktd_rel) => `(tactic| first
  | with_reducible exact ev_int
  | with_reducible exact ev_none
  | with_reducible exact ev_bool
  | ((with_reducible refine' ev_localI ?ka ?kl ?kk ?kx ?kd); (case ka => rfl); (case kl => rfl); (case kk => rfl); (case kx => rfl); (case kd => decide))
  | ((with_reducible refine' ev_local ?ka ?kl ?kk ?kx ?kd); (case ka => rfl); (case kl => rfl); (case kk => rfl); (case kx => rfl); (case kd => decide))
  | ((with_reducible refine' ev_add ?ka ?kb); (case ka => ktd_rel); (case kb => ktd_rel))
  | ((with_reducible refine' ev_sub ?ka ?kb); (case ka => ktd_rel); (case kb => ktd_rel))
  | ((with_reducible refine' ev_lt ?ka ?kb); (case ka => ktd_rel); (case kb => ktd_rel))
  | ((with_reducible refine' ev_le ?ka ?kb); (case ka => ktd_rel); (case kb => ktd_rel))
  | ((with_reducible refine' ev_gt ?ka ?kb); (case ka => ktd_rel); (case kb => ktd_rel))
  | ((with_reducible refine' ev_ge ?ka ?kb); (case ka => ktd_rel); (case kb => ktd_rel))
  | ((with_reducible refine' ev_eq ?ka ?kb); (case ka => ktd_rel); (case kb => ktd_rel))
  | ((with_reducible refine' ev_ne ?ka ?kb); (case ka => ktd_rel); (case kb => ktd_rel))
  | ((with_reducible refine' ev_neg ?ka); (case ka => ktd_rel))
  | ((with_reducible refine' ev_x ?ka ?kN ?kb); (case ka => ktd_rel); (case kN => with_reducible assumption); (case kb => rfl))
  | ((with_reducible refine' ev_y ?ka ?kN ?kb); (case ka => ktd_rel); (case kN => with_reducible assumption); (case kb => rfl))
  | ((with_reducible refine' ev_prev ?ka ?kN ?kb); (case ka => ktd_rel); (case kN => with_reducible assumption); (case kb => rfl))
  | ((with_reducible refine' ev_next ?ka ?kN ?kb); (case ka => ktd_rel); (case kN => with_reducible assumption); (case kb => rfl))
  | ((with_reducible refine' tr_cmp ?ka ?kb); (case ka => ktd_rel); (case kb => rfl))
  | fail "ev")


section
variable {c : Cfg} {m : Loc} {n : Led} {env : Env}
theorem upd_upd {m : Loc} {x : Str} {v w : Value} : upd (upd m x v) x w = upd m x w := by
  funext y; unfold upd; split <;> rfl
theorem ev_is {l r : Expr} {pos : Pos} {x y : Addr} {ox oy : Obj} (h1 : EvV c m n env l (.ref x)) (h2 : EvV c m n env r (.ref y)) (hx : (x, ox) ∈ n) (hy : (y, oy) ∈ n) (hb : ox.cls ≠ .type "tuple") : EvB c m n env (.Compare l [.Is] [r] pos) (decide (x = y)) :=
  run_cmp (useV h1 (useV h2 (run_isref hx hy hb ⟨rfl, rfl, rfl⟩)))
theorem ev_isnot {l r : Expr} {pos : Pos} {x y : Addr} {ox oy : Obj} (h1 : EvV c m n env l (.ref x)) (h2 : EvV c m n env r (.ref y)) (hx : (x, ox) ∈ n) (hy : (y, oy) ∈ n) (hb : ox.cls ≠ .type "tuple") : EvB c m n env (.Compare l [.IsNot] [r] pos) (!decide (x = y)) :=
  run_cmp (useV h1 (useV h2 (run_isnotref hx hy hb ⟨rfl, rfl, rfl⟩)))
theorem inst_nt {d : Addr} : (instObj 59 d).cls ≠ .type "tuple" := by simp [instObj]
theorem Sh.Good.dec {S : Sh} (G : S.Good) {i j : Nat} (hi : i < S.k) (hj : j < S.k) : decide (S.a i = S.a j) = decide (i = j) := decide_eq_decide.mpr ⟨G.ia _ _ hi hj, fun e => e ▸ rfl⟩
theorem ev_isN {S : Sh} {pv nx : Nat → Nat} {l r : Expr} {pos : Pos} {i j : Nat} (G : S.Good) (N : Nds n S pv nx) (h1 : EvV c m n env l (.ref (S.a i))) (h2 : EvV c m n env r (.ref (S.a j))) (hi : i < S.k) (hj : j < S.k) : EvB c m n env (.Compare l [.Is] [r] pos) (decide (i = j)) :=
  G.dec hi hj ▸ ev_is h1 h2 (N.node i hi).inst (N.node j hj).inst inst_nt
theorem ev_isnotN {S : Sh} {pv nx : Nat → Nat} {l r : Expr} {pos : Pos} {i j : Nat} (G : S.Good) (N : Nds n S pv nx) (h1 : EvV c m n env l (.ref (S.a i))) (h2 : EvV c m n env r (.ref (S.a j))) (hi : i < S.k) (hj : j < S.k) : EvB c m n env (.Compare l [.IsNot] [r] pos) (!decide (i = j)) :=
  G.dec hi hj ▸ ev_isnot h1 h2 (N.node i hi).inst (N.node j hj).inst inst_nt
theorem ev_pitc {e1 e2 e3 e4 e5 e6 e7 e8 : Expr} {np pos : Pos} {A B C P : Pt} (h1 : EvI c m n env e1 A.1) (h2 : EvI c m n env e2 A.2) (h3 : EvI c m n env e3 B.1) (h4 : EvI c m n env e4 B.2) (h5 : EvI c m n env e5 C.1) (h6 : EvI c m n env e6 C.2) (h7 : EvI c m n env e7 P.1) (h8 : EvI c m n env e8 P.2)
    (sA : SmP A) (sB : SmP B) (sC : SmP C) (sP : SmP P) (rm : Room 1 c) (hg : env.globals = mainGlobals := by rfl) (hke : env.scope.kind = .function := by rfl)
    (hx : env.kindOf "point_in_triangle" = some .globalImplicit := by rfl) (n1 : NotStar e1 := by intro _ _; rfl) (n2 : NotStar e2 := by intro _ _; rfl) (n3 : NotStar e3 := by intro _ _; rfl) (n4 : NotStar e4 := by intro _ _; rfl) (n5 : NotStar e5 := by intro _ _; rfl) (n6 : NotStar e6 := by intro _ _; rfl) (n7 : NotStar e7 := by intro _ _; rfl) (n8 : NotStar e8 := by intro _ _; rfl) :
    EvB c m n env (.Call (.Name "point_in_triangle" np) [e1, e2, e3, e4, e5, e6, e7, e8] [] pos) (pit A B C P) :=
  ev_call g_point_in_triangle k_point_in_triangle (.consI h1 n1 (.consI h2 n2 (.consI h3 n3 (.consI h4 n4 (.consI h5 n5 (.consI h6 n6 (.consI h7 n7 (.consI h8 n8 .nil)))))))) (fun vs h => by
    obtain ⟨t1, _, rfl, t2, _, rfl, t3, _, rfl, t4, _, rfl, t5, _, rfl, t6, _, rfl, t7, _, rfl, t8, _, rfl, rfl⟩ := h
    exact c_pit sA sB sC sP) rm hg hke hx

theorem loop_list {test : Expr} {body : List Stmt} {Q : Flow → Loc → Led → Prop} {M0 : Loc} {x : Str} {val : Nat → Value} (I : Nat → List Nat → Nat → Prop)
    (turn : ∀ u s q, I u q s → (∀ u' s' q', I u' q' s' → q'.length < q.length → Loop c env test body Q (upd M0 x (val s')) n) → Loop c env test body Q (upd M0 x (val s)) n)
    (u s : Nat) (q : List Nat) (h : I u q s) : Loop c env test body Q (upd M0 x (val s)) n := by
  have all : ∀ k u s q, q.length < k → I u q s → Loop c env test body Q (upd M0 x (val s)) n := by
    intro k
    induction k with
    | zero => intro _ _ _ h; exact absurd h (Nat.not_lt_zero _)
    | succ k ih => exact fun u s q hq hI => turn u s q hI fun u' s' q' hI' hlt => ih u' s' q' (by omega) hI'
  exact all _ u s q (Nat.lt_succ_self _) h

theorem c_isear {n : Led} {S : Sh} {pv nx : Nat → Nat} {b e d : Nat} {r : List Nat} (G : S.Good) (N : Nds n S pv nx) (hL : Lk pv nx (b :: e :: d :: r)) (hin : ∀ i ∈ b :: e :: d :: r, i < S.k) :
    Fn 2 148 [.ref (S.a b)] [] n (fun v n' => n' = n ∧ v = .bool (earP S.P (b :: e :: d :: r))) := by
  refine fn_enter (binds := [("ear", .ref (S.a b))]) (fun _ => by rfl) (fun _ => by rfl) (fun _ _ _ => BindsTo.of_eq (by rfl)) (by rfl) (by rfl) (by rfl) (by rfl) (by rfl) ?_
  intro c ok rm nd
  have hb : b < S.k := hin b (by simp)
  have he : e < S.k := hin e (by simp)
  have hd : d < S.k := hin d (by simp)
  have hpb : pv b = lst d r := by rw [hL.prev, lst_cons, lst_cons]
  have hnb : nx b = e := hL.next
  have hne : nx e = d := hL.rot.next
  have ha : lst d r < S.k := hin _ (by have := lst_mem (x := d) (l := r); simp only [List.mem_cons] at this ⊢; rcases this with h | h; exact .inr (.inr (.inl h)); exact .inr (.inr (.inr h)))
  have Nb := N.node b hb
  rw [hpb, hnb] at Nb
  have Ne := N.node e he
  rw [hne] at Ne
  have Na := N.node _ ha
  refine run_cons (run_assign (useV (v := .ref (S.a (lst d r))) (by ktd_rel) ?_))
  refine run_cons (run_assign (useV (v := .ref (S.a b)) (by ktd_rel) ?_))
  refine run_cons (run_assign (useV (v := .ref (S.a e)) (by ktd_rel) ?_))
  refine run_cons (run_ifb (tr_cmp (ev_ge (ev_area (by ktd_rel) Na (by ktd_rel) Nb (by ktd_rel) Ne (G.sm _ ha) (G.sm _ hb) (G.sm _ he) rm) ev_int)) (fun h => ?_) (fun h => ?_))
  · refine run_cons (run_ret (useV ev_bool ⟨rfl, ?_⟩))
    rw [earP_cons, h]; rfl
  refine run_nil ?_
  refine run_cons (run_assign (useI (i := (S.P (lst d r)).1) (by ktd_rel) fun t1 => ?_))
  refine run_cons (run_assign (useI (i := (S.P b).1) (by ktd_rel) fun t2 => ?_))
  refine run_cons (run_assign (useI (i := (S.P e).1) (by ktd_rel) fun t3 => ?_))
  refine run_cons (run_assign (useI (i := (S.P (lst d r)).2) (by ktd_rel) fun t4 => ?_))
  refine run_cons (run_assign (useI (i := (S.P b).2) (by ktd_rel) fun t5 => ?_))
  refine run_cons (run_assign (useI (i := (S.P e).2) (by ktd_rel) fun t6 => ?_))
  refine run_cons (run_assign (useI (ev_min3 (by ktd_rel) (by ktd_rel) (by ktd_rel)) fun t7 => ?_))
  refine run_cons (run_assign (useI (ev_max3 (by ktd_rel) (by ktd_rel) (by ktd_rel)) fun t8 => ?_))
  refine run_cons (run_assign (useI (ev_min3 (by ktd_rel) (by ktd_rel) (by ktd_rel)) fun t9 => ?_))
  refine run_cons (run_assign (useI (ev_max3 (by ktd_rel) (by ktd_rel) (by ktd_rel)) fun t10 => ?_))
  refine run_cons (run_assign (useV (v := .ref (S.a d)) (by ktd_rel) ?_))
  refine run_cons (run_while ?_)
  refine loop_list (val := fun s => .ref (S.a s)) (fun u q s => Pth pv nx u (s :: q) ∧ lst s q = lst d r ∧ (s :: q).Nodup ∧ (∀ i ∈ s :: q, i < S.k) ∧ u < S.k ∧ anyHit (hitP S.P (lst d r) b e) u (s :: q) = anyHit (hitP S.P (lst d r) b e) e (d :: r)) ?_ e d r
    ⟨⟨hne, hL.2.2.2.2.1, (Pth.append (r := []) (y := b) (l := r) hL.2.2.2.2.2).1.init⟩, rfl, ?_, ?_, he, rfl⟩
  · rintro u s q ⟨h1, h2, h3, h4, h5, h6⟩ ih
    have hs : s < S.k := h4 s (by simp)
    have Ns := N.node s hs
    refine loop_turn (useT (tr_cmp (ev_isnotN G N (i := s) (j := lst d r) (by ktd_rel) (by ktd_rel) hs ha)) ?_)
    cases q with
    | nil =>
      have e1 : s = lst d r := h2
      rw [decide_eq_true e1]
      refine run_cons (run_ret (useV ev_bool ⟨rfl, ?_⟩))
      rw [earP_cons, h, ← h6]; rfl
    | cons w q =>
      have hw : w < S.k := h4 w (by simp)
      have hsl : s ≠ lst d r := fun e1 => by
        have := lst_mem (x := w) (l := q)
        rw [lst_cons] at h2
        rw [h2, ← e1] at this
        exact (List.nodup_cons.mp h3).1 this
      have hnw : nx s = w := h1.2.2.1
      have hpu : pv s = u := h1.2.1
      rw [hnw, hpu] at Ns
      have Nu := N.node u h5
      have Nw := N.node w hw
      rw [decide_eq_false hsl]
      refine run_cons (run_ifb (tr_and (tr_chain2 (by ktd_rel) (by ktd_rel) (fun _ => by ktd_rel)) fun _ => tr_and (tr_chain2 (by ktd_rel) (by ktd_rel) (fun _ => by ktd_rel)) fun _ =>
        tr_and (tr_val (ev_pitc (by ktd_rel) (by ktd_rel) (by ktd_rel) (by ktd_rel) (by ktd_rel) (by ktd_rel) (by ktd_rel) (by ktd_rel) (G.sm _ ha) (G.sm _ hb) (G.sm _ he) (G.sm _ hs) rm)) fun _ =>
        tr_and (tr_cmp (ev_ge (ev_area (by ktd_rel) Nu (by ktd_rel) Ns (by ktd_rel) Nw (G.sm _ h5) (G.sm _ hs) (G.sm _ hw) rm) ev_int)) fun _ => tr_and0) (fun h7 => ?_) (fun h7 => ?_))
      · refine run_cons (run_ret (useV ev_bool ⟨rfl, ?_⟩))
        have e2 : hitP S.P (lst d r) b e u s w = true := by rw [Bool.and_true] at h7; exact h7
        rw [earP_cons, h, ← h6]
        show Value.bool false = Value.bool (!(hitP S.P (lst d r) b e u s w || _))
        rw [e2]; rfl
      · refine run_nil (run_cons (run_assign (useV (v := .ref (S.a w)) (by ktd_rel) (run_nil ?_))))
        have e2 : hitP S.P (lst d r) b e u s w = false := by rw [Bool.and_true] at h7; exact h7
        show Loop c _ _ _ _ (upd (upd _ "p" _) "p" _) n
        rw [upd_upd]
        refine ih s w q ⟨h1.2.2, by rw [← lst_cons]; exact h2, (List.nodup_cons.mp h3).2, fun i hi => h4 i (List.mem_cons_of_mem _ hi), hs, ?_⟩ (Nat.lt_succ_self _)
        rw [← h6]
        show _ = (hitP S.P (lst d r) b e u s w || _)
        rw [e2]; rfl
  · exact (List.nodup_cons.mp (List.nodup_cons.mp hL.1).2).2
  · exact fun i hi => hin i (List.mem_cons_of_mem _ (List.mem_cons_of_mem _ hi))
end
end Mine
namespace Mine
def nth (l : List Nat) (i : Nat) : Nat := l.getD (i % l.length) 0
def rot : List Nat → List Nat
  | [] => []
  | x :: l => l ++ [x]
def back : List Nat → List Nat
  | [] => []
  | [x] => [x]
  | _ :: y :: r => lst y r :: (y :: r).dropLast
theorem rot_length {l : List Nat} : (rot l).length = l.length := by cases l <;> simp [rot]
theorem rot_ne {l : List Nat} (h : l ≠ []) : rot l ≠ [] := by cases l <;> simp_all [rot]
theorem mem_rot {l : List Nat} {i : Nat} : i ∈ rot l ↔ i ∈ l := by cases l <;> simp [rot, or_comm]
theorem rot_nodup {l : List Nat} (h : l.Nodup) : (rot l).Nodup := by
  cases l with
  | nil => exact h
  | cons x l => exact (List.perm_append_comm (l₁ := l) (l₂ := [x])).symm.nodup h
theorem nth_zero {x : Nat} {l : List Nat} : nth (x :: l) 0 = x := by simp [nth]
theorem nth_lt {l : List Nat} {i : Nat} (h : i < l.length) : nth l i = l[i] := by
  unfold nth; rw [Nat.mod_eq_of_lt h]; simp [List.getD, h]
theorem nth_mod {l : List Nat} {i j : Nat} (h : i % l.length = j % l.length) : nth l i = nth l j := by unfold nth; rw [h]
theorem nth_mem {l : List Nat} {i : Nat} (h : l ≠ []) : nth l i ∈ l := by
  have h0 : 0 < l.length := List.length_pos_iff.mpr h
  have := Nat.mod_lt i h0
  unfold nth; simp only [List.getD, List.getElem?_eq_getElem this, Option.getD_some]; exact List.getElem_mem _
theorem nth_rot {l : List Nat} {i : Nat} : nth (rot l) i = nth l (i + 1) := by
  cases l with
  | nil => rfl
  | cons x l =>
    have hp : 0 < l.length + 1 := Nat.succ_pos _
    have hj := Nat.mod_lt i hp
    unfold nth
    simp only [rot, List.length_append, List.length_cons, List.length_nil]
    have e : (i + 1) % (l.length + 1) = (i % (l.length + 1) + 1) % (l.length + 1) := by rw [Nat.mod_add_mod]
    rw [Nat.zero_add, e]
    generalize i % (l.length + 1) = j at hj
    by_cases h : j = l.length
    · subst h; simp [List.getD]
    · have : j < l.length := by omega
      rw [Nat.mod_eq_of_lt (by omega)]
      simp [List.getD, List.getElem?_append_left this]
theorem lst_nth {x : Nat} {l : List Nat} : lst x l = nth (x :: l) l.length := by
  rw [nth_lt (by simp)]
  unfold lst
  rw [List.getLast_eq_getElem]; simp
theorem Lk.rot' {pv nx : Nat → Nat} {l : List Nat} (h : Lk pv nx l) : Lk pv nx (Mine.rot l) := by
  cases l with
  | nil => exact h
  | cons x l => exact h.rot
theorem Lk.ne {pv nx : Nat → Nat} {l : List Nat} (h : Lk pv nx l) : l ≠ [] := by cases l with
  | nil => exact h.elim
  | cons x l => exact List.cons_ne_nil _ _
theorem Lk.nodup {pv nx : Nat → Nat} {l : List Nat} (h : Lk pv nx l) : l.Nodup := by cases l with
  | nil => exact h.elim
  | cons x l => exact h.1
theorem Lk.nth {pv nx : Nat → Nat} (i : Nat) {l : List Nat} (h : Lk pv nx l) : nx (nth l i) = Mine.nth l (i + 1) ∧ pv (Mine.nth l (i + 1)) = Mine.nth l i := by
  induction i generalizing l with
  | zero =>
    cases l with
    | nil => exact h.elim
    | cons x l =>
      cases l with
      | nil => simpa [Mine.nth] using h.next1
      | cons y l =>
        have e : Mine.nth (x :: y :: l) 1 = y := by rw [nth_lt (by simp)]; rfl
        rw [nth_zero, e]
        exact ⟨h.2.1, h.2.2.1⟩
  | succ i ih =>
    have := ih h.rot'
    rwa [nth_rot, nth_rot] at this
theorem Lk.nxt {pv nx : Nat → Nat} {l : List Nat} (h : Lk pv nx l) (i : Nat) : nx (Mine.nth l i) = Mine.nth l (i + 1) := (h.nth i).1
theorem Lk.prv {pv nx : Nat → Nat} {l : List Nat} (h : Lk pv nx l) (i : Nat) : pv (Mine.nth l (i + 1)) = Mine.nth l i := (h.nth i).2
theorem Lk.prv0 {pv nx : Nat → Nat} {l : List Nat} (h : Lk pv nx l) : pv (Mine.nth l 0) = Mine.nth l (l.length - 1) := by
  have hp : 0 < l.length := List.length_pos_iff.mpr h.ne
  rw [← h.prv (l.length - 1)]
  congr 1
  exact nth_mod (by rw [Nat.sub_add_cancel hp]; simp)
theorem Lk.prv00 {pv nx : Nat → Nat} {l : List Nat} (h : Lk pv nx l) : pv (Mine.nth l (l.length - 1)) = Mine.nth l (2 * l.length - 2) := by
  have hp : 0 < l.length := List.length_pos_iff.mpr h.ne
  rw [← h.prv (2 * l.length - 2)]
  congr 1
  exact nth_mod (by rw [show 2 * l.length - 2 + 1 = l.length - 1 + l.length by omega]; simp)
theorem Lk.unrot {pv nx : Nat → Nat} {x : Nat} {l : List Nat} (h : Lk pv nx (l ++ [x])) : Lk pv nx (x :: l) := by
  cases l with
  | nil => exact h
  | cons y r =>
    obtain ⟨nd, p⟩ := h
    refine ⟨?_, ?_⟩
    · exact (List.perm_append_comm (l₁ := y :: r) (l₂ := [x])).nodup nd
    · have p' : Pth pv nx y (r ++ x :: [y]) := by simpa using p
      have := Pth.append p'
      exact ⟨this.2.1, this.2.2.1, this.1⟩
theorem Pth.snoc' {pv nx : Nat → Nat} : ∀ {l : List Nat} {x w : Nat}, Pth pv nx x l → nx (lst x l) = w → pv w = lst x l → Pth pv nx x (l ++ [w])
  | [], _, _, _, h1, h2 => ⟨h1, h2, trivial⟩
  | y :: l, _, _, h, h1, h2 => ⟨h.1, h.2.1, Pth.snoc' (l := l) h.2.2 (by rwa [lst_cons] at h1) (by rwa [lst_cons] at h2)⟩
theorem Pth.upd {pv nx pv' nx' : Nat → Nat} : ∀ {l : List Nat} {y : Nat}, Pth pv nx y l → (y :: l).Nodup → (∀ i ∈ y :: l, i ≠ lst y l → nx' i = nx i) → (∀ i ∈ l, pv' i = pv i) → Pth pv' nx' y l
  | [], _, _, _, _, _ => trivial
  | z :: l, y, h, nd, h1, h2 => by
    refine ⟨?_, ?_, ?_⟩
    · rw [h1 y (by simp) (fun e => ?_)]; exact h.1
      have := lst_mem (x := z) (l := l)
      rw [lst_cons] at e
      rw [← e] at this
      exact (List.nodup_cons.mp nd).1 this
    · rw [h2 z (by simp)]; exact h.2.1
    · refine Pth.upd h.2.2 (List.nodup_cons.mp nd).2 (fun i hi e => h1 i (List.mem_cons_of_mem _ hi) (by rwa [lst_cons])) (fun i hi => h2 i (List.mem_cons_of_mem _ hi))
/-- a node goes -/
theorem Lk.drop {pv nx : Nat → Nat} {x y : Nat} {r : List Nat} (h : Lk pv nx (x :: y :: r)) : Lk (updf pv (nx x) (pv x)) (updf nx (pv x) (nx x)) (y :: r) := by
  have e1 : nx x = y := h.next
  have e2 : pv x = lst y r := by rw [h.prev, lst_cons]
  rw [e1, e2]
  obtain ⟨nd, p⟩ := h
  have nd' := (List.nodup_cons.mp nd).2
  refine ⟨nd', Pth.snoc' (Pth.upd (p.2.2.init) nd' (fun i _ e => ?_) (fun i hi => ?_)) ?_ ?_⟩
  · unfold updf; rw [if_neg e]
  · unfold updf; rw [if_neg (fun e : i = y => (List.nodup_cons.mp nd').1 (e ▸ hi))]
  · unfold updf; rw [if_pos rfl]
  · unfold updf; rw [if_pos rfl]
theorem Lk.back {pv nx : Nat → Nat} {l : List Nat} (h : Lk pv nx l) : Lk (updf pv (nx (Mine.nth l 0)) (pv (Mine.nth l 0))) (updf nx (pv (Mine.nth l 0)) (nx (Mine.nth l 0))) (back l) := by
  match l, h with
  | [x], h =>
    have e := h.next1
    rw [nth_zero, e.1, e.2]
    refine ⟨by simp, ?_, ?_, trivial⟩ <;> (unfold updf; rw [if_pos rfl])
  | x :: y :: r, h =>
    rw [nth_zero]
    have := h.drop
    unfold Mine.back
    refine Lk.unrot ?_
    unfold lst
    rw [List.dropLast_concat_getLast]
    exact this
theorem back_length {l : List Nat} : (back l).length = if l.length ≤ 1 then l.length else l.length - 1 := by
  match l with
  | [] => rfl
  | [x] => rfl
  | x :: y :: r => simp [back]
theorem back_ne {l : List Nat} (h : l ≠ []) : back l ≠ [] := by
  match l, h with
  | [x], _ => simp [back]
  | x :: y :: r, _ => simp [back]
theorem mem_back {l : List Nat} {i : Nat} (h : i ∈ back l) : i ∈ l := by
  match l, h with
  | [x], h => exact h
  | x :: y :: r, h =>
    rcases List.mem_cons.mp h with h | h
    · exact List.mem_cons_of_mem _ (h ▸ lst_mem)
    · exact List.mem_cons_of_mem _ (List.dropLast_subset _ h)
theorem back_nodup {l : List Nat} (h : l.Nodup) : (back l).Nodup := by
  match l, h with
  | [], _ => exact List.nodup_nil
  | [x], h => exact h
  | x :: y :: r, h =>
    have h' := (List.nodup_cons.mp h).2
    have e : (y :: r) = (y :: r).dropLast ++ [lst y r] := (List.dropLast_concat_getLast (List.cons_ne_nil _ _)).symm
    rw [e] at h'
    exact (List.perm_append_comm (l₁ := (y :: r).dropLast) (l₂ := [lst y r])).nodup h'

abbrev Tri := Nat × Nat × Nat
def zeroP (P : Nat → Pt) (l : List Nat) : Bool := decide (ar (P (nth l (l.length - 1))) (P (nth l 0)) (P (nth l 1)) = 0)
def cutP (P : Nat → Pt) (l : List Nat) : Bool :=
  !decide (P (nth l (l.length - 1)) = P (nth l 2)) && (inters (P (nth l (l.length - 1))) (P (nth l 0)) (P (nth l 1)) (P (nth l 2)) &&
    (locIn (P (nth l (2 * l.length - 2))) (P (nth l (l.length - 1))) (P (nth l 0)) (P (nth l 2)) && locIn (P (nth l 1)) (P (nth l 2)) (P (nth l 3)) (P (nth l (l.length - 1)))))
inductive Filt (P : Nat → Pt) : List Nat → Nat → List Nat → Prop
  | one {l : List Nat} {s : Nat} : zeroP P l = true → (back l).length = 1 → Filt P l s (back l)
  | drop {l : List Nat} {s : Nat} {o : List Nat} : zeroP P l = true → (back l).length ≠ 1 → Filt P (back l) (nth (back l) 0) o → Filt P l s o
  | stop {l : List Nat} {s : Nat} : zeroP P l = false → nth (rot l) 0 = s → Filt P l s (rot l)
  | turn {l : List Nat} {s : Nat} {o : List Nat} : zeroP P l = false → nth (rot l) 0 ≠ s → Filt P (rot l) s o → Filt P l s o
inductive Swp (P : Nat → Pt) : List Nat → Nat → List Tri → List Nat → Prop
  | cut {p q b c : Nat} {r : List Nat} {s : Nat} {t : List Tri} {o : List Nat} : cutP P (p :: q :: b :: c :: r) = true → c ≠ b → Swp P (c :: (r ++ [b])) b t o → Swp P (p :: q :: b :: c :: r) s ((lst c r, p, b) :: t) o
  | stop {l : List Nat} {s : Nat} : cutP P l = false → nth (rot l) 0 = s → Swp P l s [] (rot l)
  | turn {l : List Nat} {s : Nat} {t : List Tri} {o : List Nat} : cutP P l = false → nth (rot l) 0 ≠ s → Swp P (rot l) s t o → Swp P l s t o
inductive RunR (P : Nat → Pt) : Nat → List Nat → Nat → List Tri → List Nat → Prop
  | short {g : Nat} {l : List Nat} {s : Nat} : l.length ≤ 2 → RunR P g l s [] l
  | ear {g b c d : Nat} {r : List Nat} {s : Nat} {t : List Tri} {o : List Nat} : earP P (b :: c :: d :: r) = true → RunR P g (d :: (r ++ [c])) d t o → RunR P g (b :: c :: d :: r) s ((lst d r, b, c) :: t) o
  | turn {g : Nat} {l : List Nat} {s : Nat} {t : List Tri} {o : List Nat} : 2 < l.length → earP P l = false → nth (rot l) 0 ≠ s → RunR P g (rot l) s t o → RunR P g l s t o
  | last {g : Nat} {l : List Nat} {s : Nat} : 2 < l.length → earP P l = false → nth (rot l) 0 = s → g ≠ 0 → g ≠ 1 → RunR P g l s [] (rot l)
  | zero {l : List Nat} {s : Nat} {f : List Nat} {t : List Tri} {o : List Nat} : 2 < l.length → earP P l = false → nth (rot l) 0 = s → Filt P (rot l) s f → RunR P 1 f (nth f 0) t o → RunR P 0 l s t o
  | one {l : List Nat} {s : Nat} {f g h : List Nat} {cs t : List Tri} {o : List Nat} : 2 < l.length → earP P l = false → nth (rot l) 0 = s → Filt P (rot l) s f → Swp P f (nth f 0) cs g → Filt P g (nth g 0) h → RunR P 2 h (nth h 0) t o → RunR P 1 l s (cs ++ t) o

-- they end
theorem zero_one {P : Nat → Pt} {x : Nat} : zeroP P [x] = true := by simp [zeroP, nth, ar]
theorem nth_head {l : List Nat} (u v : List Nat) (s : Nat) (h : l = u ++ s :: v) (hu : u = []) : nth l 0 = s := by subst hu; subst h; exact nth_zero
/-- what comes of a ring: no more ones, no new ones -/
structure Sub (l o : List Nat) : Prop where
  ne : o ≠ []
  nd : o.Nodup
  len : o.length ≤ l.length
  mem : ∀ i ∈ o, i ∈ l
theorem Sub.trans {l o q : List Nat} (h : Sub l o) (h' : Sub o q) : Sub l q := ⟨h'.ne, h'.nd, Nat.le_trans h'.len h.len, fun i hi => h.mem i (h'.mem i hi)⟩
theorem Sub.rot {l : List Nat} (hn : l ≠ []) (nd : l.Nodup) : Sub l (rot l) := ⟨rot_ne hn, rot_nodup nd, by rw [rot_length]; exact Nat.le_refl _, fun i hi => mem_rot.mp hi⟩
theorem Sub.back {l : List Nat} (hn : l ≠ []) (nd : l.Nodup) : Sub l (back l) := ⟨back_ne hn, back_nodup nd, by rw [back_length]; split <;> omega, fun i hi => mem_back hi⟩
theorem Sub.refl {l : List Nat} (hn : l ≠ []) (nd : l.Nodup) : Sub l l := ⟨hn, nd, Nat.le_refl _, fun i hi => hi⟩

theorem rot_split {l : List Nat} (hn : l ≠ []) : ∃ u, rot l = u ++ nth l 0 :: [] := by
  cases l with
  | nil => exact absurd rfl hn
  | cons x l => exact ⟨l, by rw [nth_zero]; rfl⟩
theorem turn_split {l u v : List Nat} {y s : Nat} (h : rot l = (y :: u) ++ s :: v) : rot (rot l) = u ++ s :: (v ++ [y]) := by rw [h]; simp [rot]
theorem turn_ne {l u v : List Nat} {y s : Nat} (nd : l.Nodup) (h : rot l = (y :: u) ++ s :: v) : nth (rot l) 0 ≠ s := by
  have := rot_nodup nd
  rw [h] at this ⊢
  rw [List.cons_append, nth_zero]
  rw [List.cons_append, List.nodup_cons] at this
  exact fun e => this.1 (by simp [e])

theorem filt_all {P : Nat → Pt} : ∀ (k : Nat) (l : List Nat), l.length = k → l ≠ [] → l.Nodup → ∀ (u v : List Nat) (s : Nat), rot l = u ++ s :: v → ∃ o, Filt P l s o ∧ Sub l o := by
  intro k
  induction k using Nat.strongRecOn with
  | _ k ih =>
    intro l hk hn nd u
    induction u generalizing l with
    | nil =>
      intro v s h
      cases hz : zeroP P l with
      | true =>
        by_cases h1 : (back l).length = 1
        · exact ⟨_, .one hz h1, Sub.back hn nd⟩
        · obtain ⟨w, hw⟩ := rot_split (back_ne hn)
          have h2 := back_length (l := l)
          have h3 : 0 < l.length := List.length_pos_iff.mpr hn
          obtain ⟨o, ho, so⟩ := ih (back l).length (by split at h2 <;> omega) (back l) rfl (back_ne hn) (back_nodup nd) w [] _ hw
          exact ⟨o, .drop hz h1 ho, (Sub.back hn nd).trans so⟩
      | false => exact ⟨_, .stop hz (nth_head [] v s h rfl), Sub.rot hn nd⟩
    | cons y u ihu =>
      intro v s h
      cases hz : zeroP P l with
      | true =>
        by_cases h1 : (back l).length = 1
        · exact ⟨_, .one hz h1, Sub.back hn nd⟩
        · obtain ⟨w, hw⟩ := rot_split (back_ne hn)
          have h2 := back_length (l := l)
          have h3 : 0 < l.length := List.length_pos_iff.mpr hn
          obtain ⟨o, ho, so⟩ := ih (back l).length (by split at h2 <;> omega) (back l) rfl (back_ne hn) (back_nodup nd) w [] _ hw
          exact ⟨o, .drop hz h1 ho, (Sub.back hn nd).trans so⟩
      | false =>
        obtain ⟨o, ho, so⟩ := ihu (rot l) (by rw [rot_length, hk]) (rot_ne hn) (rot_nodup nd) _ s (turn_split h)
        exact ⟨o, .turn hz (turn_ne nd h) ho, (Sub.rot hn nd).trans so⟩
theorem filt_total {P : Nat → Pt} {l : List Nat} (hn : l ≠ []) (nd : l.Nodup) : ∃ o, Filt P l (nth l 0) o ∧ Sub l o :=
  let ⟨u, hu⟩ := rot_split hn
  filt_all _ l rfl hn nd u [] _ hu
theorem cut2 {P : Nat → Pt} {x y : Nat} : cutP P [x, y] = false := by
  have e0 : nth [x, y] 0 = x := by simp [nth]
  have e1 : nth [x, y] 1 = y := by simp [nth]
  have e2 : nth [x, y] 2 = x := by simp [nth]
  have e3 : nth [x, y] 3 = y := by simp [nth]
  unfold cutP
  simp only [List.length_cons, List.length_nil, e0, e1, e2, e3, Nat.zero_add, Nat.reduceAdd, Nat.reduceSub, Nat.reduceMul]
  have z : ∀ A B : Pt, locIn A B A A = false := by
    intro A B
    have h1 : ar A B A = 0 := by unfold ar; grind
    have h2 : ar B A A = 0 := by unfold ar; grind
    unfold locIn; simp [h1, h2]
  simp [z]
theorem cut_len {P : Nat → Pt} {l : List Nat} (hn : l ≠ []) (h : cutP P l = true) : ∃ p q b c r, l = p :: q :: b :: c :: r := by
  match l, hn, h with
  | [x], _, h => exfalso; simp [cutP, nth] at h
  | [x, y], _, h => rw [cut2] at h; cases h
  | [x, y, z], _, h => exfalso; simp [cutP, nth] at h
  | p :: q :: b :: c :: r, _, _ => exact ⟨p, q, b, c, r, rfl⟩
theorem swp_all {P : Nat → Pt} : ∀ (k : Nat) (l : List Nat), l.length = k → l ≠ [] → l.Nodup → ∀ (u v : List Nat) (s : Nat), rot l = u ++ s :: v → ∃ t o, Swp P l s t o ∧ Sub l o ∧ t.length ≤ l.length ∧ ∀ q ∈ t, q.1 ∈ l ∧ q.2.1 ∈ l ∧ q.2.2 ∈ l := by
  intro k
  induction k using Nat.strongRecOn with
  | _ k ih =>
    have cut : ∀ l : List Nat, l.length = k → l ≠ [] → l.Nodup → ∀ s, cutP P l = true → ∃ t o, Swp P l s t o ∧ Sub l o ∧ t.length ≤ l.length ∧ ∀ q ∈ t, q.1 ∈ l ∧ q.2.1 ∈ l ∧ q.2.2 ∈ l := by
      intro l hk hn nd s hz
      obtain ⟨p, q, b, c, r, rfl⟩ := cut_len hn hz
      have nd2 : (b :: c :: r).Nodup := (List.nodup_cons.mp (List.nodup_cons.mp nd).2).2
      have nd3 : (c :: (r ++ [b])).Nodup := rot_nodup nd2
      obtain ⟨t, o, ho, so, lo, mo⟩ := ih (c :: (r ++ [b])).length (by simp at hk ⊢; omega) (c :: (r ++ [b])) rfl (List.cons_ne_nil _ _) nd3 r [c] b (by simp [rot])
      have hcb : c ≠ b := fun e => (List.nodup_cons.mp nd2).1 (by simp [e])
      have sub : Sub (p :: q :: b :: c :: r) (c :: (r ++ [b])) := ⟨List.cons_ne_nil _ _, nd3, by simp, by intro i hi; simp at hi ⊢; rcases hi with h | h | h <;> simp [h]⟩
      refine ⟨_, o, .cut hz hcb ho, sub.trans so, ?_, ?_⟩
      · simp at lo ⊢; omega
      · intro q' hq'
        rcases List.mem_cons.mp hq' with rfl | hq'
        · refine ⟨?_, by simp, by simp⟩
          have := lst_mem (x := c) (l := r)
          simp only [List.mem_cons] at this ⊢
          exact .inr (.inr (.inr this))
        · have := mo q' hq'
          exact ⟨sub.mem _ this.1, sub.mem _ this.2.1, sub.mem _ this.2.2⟩
    intro l hk hn nd u
    induction u generalizing l with
    | nil =>
      intro v s h
      cases hz : cutP P l with
      | true => exact cut l hk hn nd s hz
      | false => exact ⟨[], _, .stop hz (nth_head [] v s h rfl), Sub.rot hn nd, Nat.zero_le _, fun q hq => nomatch hq⟩
    | cons y u ihu =>
      intro v s h
      cases hz : cutP P l with
      | true => exact cut l hk hn nd s hz
      | false =>
        obtain ⟨t, o, ho, so, lo, mo⟩ := ihu (rot l) (by rw [rot_length, hk]) (rot_ne hn) (rot_nodup nd) _ s (turn_split h)
        exact ⟨t, o, .turn hz (turn_ne nd h) ho, (Sub.rot hn nd).trans so, by rwa [rot_length] at lo, fun q hq => by have := mo q hq; simp only [mem_rot] at this; exact this⟩
theorem swp_total {P : Nat → Pt} {l : List Nat} (hn : l ≠ []) (nd : l.Nodup) : ∃ t o, Swp P l (nth l 0) t o ∧ Sub l o ∧ t.length ≤ l.length ∧ ∀ q ∈ t, q.1 ∈ l ∧ q.2.1 ∈ l ∧ q.2.2 ∈ l :=
  let ⟨u, hu⟩ := rot_split hn
  swp_all _ l rfl hn nd u [] _ hu
structure Runs (P : Nat → Pt) (g : Nat) (l : List Nat) (s : Nat) (t : List Tri) (o : List Nat) : Prop where
  run : RunR P g l s t o
  sub : Sub l o
  len : t.length ≤ (3 - g) * l.length
  mem : ∀ q ∈ t, q.1 ∈ l ∧ q.2.1 ∈ l ∧ q.2.2 ∈ l
theorem run_all {P : Nat → Pt} (g : Nat) (hg : g ≤ 2)
    (next0 : g = 0 → ∀ l : List Nat, l ≠ [] → l.Nodup → ∃ t o, Runs P 1 l (nth l 0) t o) (next1 : g = 1 → ∀ l : List Nat, l ≠ [] → l.Nodup → ∃ t o, Runs P 2 l (nth l 0) t o) :
    ∀ (k : Nat) (l : List Nat), l.length = k → l ≠ [] → l.Nodup → ∀ (u v : List Nat) (s : Nat), rot l = u ++ s :: v → ∃ t o, Runs P g l s t o := by
  intro k
  induction k using Nat.strongRecOn with
  | _ k ih =>
    have cut : ∀ l : List Nat, l.length = k → l ≠ [] → l.Nodup → 2 < l.length → ∀ s, earP P l = true → ∃ t o, Runs P g l s t o := by
      intro l hk hn nd h2 s hz
      match l, h2 with
      | b :: c :: d :: r, _ =>
      have nd2 : (c :: d :: r).Nodup := (List.nodup_cons.mp nd).2
      have nd3 : (d :: (r ++ [c])).Nodup := rot_nodup nd2
      obtain ⟨u, hu⟩ := rot_split (List.cons_ne_nil d (r ++ [c]))
      rw [nth_zero] at hu
      obtain ⟨t, o, ho, so, lo, mo⟩ := ih (d :: (r ++ [c])).length (by simp at hk ⊢; omega) (d :: (r ++ [c])) rfl (List.cons_ne_nil _ _) nd3 u [] d hu
      have sub : Sub (b :: c :: d :: r) (d :: (r ++ [c])) := ⟨List.cons_ne_nil _ _, nd3, by simp, by intro i hi; simp at hi ⊢; rcases hi with h | h | h <;> simp [h]⟩
      refine ⟨_, o, .ear hz ho, sub.trans so, ?_, ?_⟩
      · have : (d :: (r ++ [c])).length + 1 = (b :: c :: d :: r).length := by simp
        rw [← this, List.length_cons, Nat.mul_succ]
        omega
      · intro q' hq'
        rcases List.mem_cons.mp hq' with rfl | hq'
        · refine ⟨?_, by simp, by simp⟩
          have := lst_mem (x := d) (l := r)
          simp only [List.mem_cons] at this ⊢
          exact .inr (.inr this)
        · have := mo q' hq'
          exact ⟨sub.mem _ this.1, sub.mem _ this.2.1, sub.mem _ this.2.2⟩
    intro l hk hn nd u
    induction u generalizing l with
    | nil =>
      intro v s h
      by_cases h2 : 2 < l.length
      · cases hz : earP P l with
        | true => exact cut l hk hn nd h2 s hz
        | false =>
          have hs := nth_head [] v s h rfl
          by_cases g0 : g = 0
          · subst g0
            obtain ⟨f, hf, sf⟩ := filt_total (P := P) (rot_ne hn) (rot_nodup nd)
            rw [hs] at hf
            obtain ⟨t, o, ho, so, lo, mo⟩ := next0 rfl f sf.ne sf.nd
            have s1 := (Sub.rot hn nd).trans sf
            exact ⟨t, o, .zero h2 hz hs hf ho, s1.trans so, by have := s1.len; omega, fun q hq => by have := mo q hq; exact ⟨s1.mem _ this.1, s1.mem _ this.2.1, s1.mem _ this.2.2⟩⟩
          · by_cases g1 : g = 1
            · subst g1
              obtain ⟨f, hf, sf⟩ := filt_total (P := P) (rot_ne hn) (rot_nodup nd)
              rw [hs] at hf
              obtain ⟨cs, w, hc, sc, lc, mc⟩ := swp_total (P := P) sf.ne sf.nd
              obtain ⟨x, hx, sx⟩ := filt_total (P := P) sc.ne sc.nd
              obtain ⟨t, o, ho, so, lo, mo⟩ := next1 rfl x sx.ne sx.nd
              have s1 := (Sub.rot hn nd).trans sf
              have s2 := (s1.trans sc).trans sx
              refine ⟨cs ++ t, o, .one h2 hz hs hf hc hx ho, s2.trans so, ?_, fun q hq => ?_⟩
              · have := s1.len; have := s2.len
                rw [List.length_append]; omega
              · rcases List.mem_append.mp hq with hq | hq
                · have := mc q hq; exact ⟨s1.mem _ this.1, s1.mem _ this.2.1, s1.mem _ this.2.2⟩
                · have := mo q hq; exact ⟨s2.mem _ this.1, s2.mem _ this.2.1, s2.mem _ this.2.2⟩
            · exact ⟨[], _, .last h2 hz hs g0 g1, Sub.rot hn nd, Nat.zero_le _, fun q hq => nomatch hq⟩
      · exact ⟨[], l, .short (by omega), Sub.refl hn nd, Nat.zero_le _, fun q hq => nomatch hq⟩
    | cons y u ihu =>
      intro v s h
      by_cases h2 : 2 < l.length
      · cases hz : earP P l with
        | true => exact cut l hk hn nd h2 s hz
        | false =>
          obtain ⟨t, o, ho, so, lo, mo⟩ := ihu (rot l) (by rw [rot_length, hk]) (rot_ne hn) (rot_nodup nd) _ s (turn_split h)
          exact ⟨t, o, .turn h2 hz (turn_ne nd h) ho, (Sub.rot hn nd).trans so, by rwa [rot_length] at lo, fun q hq => by have := mo q hq; simp only [mem_rot] at this; exact this⟩
      · exact ⟨[], l, .short (by omega), Sub.refl hn nd, Nat.zero_le _, fun q hq => nomatch hq⟩
theorem run_total2 {P : Nat → Pt} (l : List Nat) (hn : l ≠ []) (nd : l.Nodup) : ∃ t o, Runs P 2 l (nth l 0) t o :=
  let ⟨u, hu⟩ := rot_split hn
  run_all 2 (by decide) (fun h => by cases h) (fun h => by cases h) _ l rfl hn nd u [] _ hu
theorem run_total1 {P : Nat → Pt} (l : List Nat) (hn : l ≠ []) (nd : l.Nodup) : ∃ t o, Runs P 1 l (nth l 0) t o :=
  let ⟨u, hu⟩ := rot_split hn
  run_all 1 (by decide) (fun h => by cases h) (fun _ => run_total2) _ l rfl hn nd u [] _ hu
theorem run_total {P : Nat → Pt} {g : Nat} (hg : g ≤ 2) {l : List Nat} (hn : l ≠ []) (nd : l.Nodup) : ∃ t o, Runs P g l (nth l 0) t o := by
  match g, hg with
  | 0, _ =>
    obtain ⟨u, hu⟩ := rot_split hn
    exact run_all 0 (by decide) (fun _ => run_total1) (fun h => by cases h) _ l rfl hn nd u [] _ hu
  | 1, _ => exact run_total1 l hn nd
  | 2, _ => exact run_total2 l hn nd
end Mine
namespace Mine
local macro_rules | `(tactic| ktd_rel) => `(tactic| first
  | with_reducible exact ev_int
  | with_reducible exact ev_none
  | with_reducible exact ev_bool
  | ((with_reducible refine' ev_localI ?ka ?kl ?kk ?kx ?kd); (case ka => first | rfl | assumption); (case kl => rfl); (case kk => rfl); (case kx => rfl); (case kd => decide))
  | ((with_reducible refine' ev_local ?ka ?kl ?kk ?kx ?kd); (case ka => first | rfl | assumption); (case kl => rfl); (case kk => rfl); (case kx => rfl); (case kd => decide))
  | ((with_reducible refine' ev_add ?ka ?kb); (case ka => ktd_rel); (case kb => ktd_rel))
  | ((with_reducible refine' ev_sub ?ka ?kb); (case ka => ktd_rel); (case kb => ktd_rel))
  | ((with_reducible refine' ev_lt ?ka ?kb); (case ka => ktd_rel); (case kb => ktd_rel))
  | ((with_reducible refine' ev_le ?ka ?kb); (case ka => ktd_rel); (case kb => ktd_rel))
  | ((with_reducible refine' ev_gt ?ka ?kb); (case ka => ktd_rel); (case kb => ktd_rel))
  | ((with_reducible refine' ev_ge ?ka ?kb); (case ka => ktd_rel); (case kb => ktd_rel))
  | ((with_reducible refine' ev_eq ?ka ?kb); (case ka => ktd_rel); (case kb => ktd_rel))
  | ((with_reducible refine' ev_ne ?ka ?kb); (case ka => ktd_rel); (case kb => ktd_rel))
  | ((with_reducible refine' ev_neg ?ka); (case ka => ktd_rel))
  | ((with_reducible refine' ev_x ?ka ?kN ?kb); (case ka => ktd_rel); (case kN => with_reducible assumption); (case kb => rfl))
  | ((with_reducible refine' ev_y ?ka ?kN ?kb); (case ka => ktd_rel); (case kN => with_reducible assumption); (case kb => rfl))
  | ((with_reducible refine' ev_pt ?ka ?kN ?kb); (case ka => ktd_rel); (case kN => with_reducible assumption); (case kb => rfl))
  | ((with_reducible refine' ev_prev ?ka ?kN ?kb); (case ka => ktd_rel); (case kN => with_reducible assumption); (case kb => rfl))
  | ((with_reducible refine' ev_next ?ka ?kN ?kb); (case ka => ktd_rel); (case kN => with_reducible assumption); (case kb => rfl))
  | ((with_reducible refine' tr_cmp ?ka ?kb); (case ka => ktd_rel); (case kb => rfl))
  | fail "ev")
section
variable {c : Cfg} {m : Loc} {n : Led} {env : Env}
theorem loop_of {test : Expr} {body : List Stmt} {Q : Flow → Loc → Led → Prop} (J : Loc → Led → Prop) (h : ∀ m n, J m n → Loop c env test body Q m n) (j : J m n) : Loop c env test body Q m n := h _ _ j
theorem ev_isNone {e : Expr} {v : Value} {k : Nat} {p pos : Pos} (h : EvV c m n env e v) : EvB c m n env (.Compare e [.Is] [.Constant .none k p] pos) (v == .none) := run_cmp (useV h (useV ev_none (run_isnone ⟨rfl, rfl, rfl⟩)))
theorem nth01 {l : List Nat} (nd : l.Nodup) (h : l ≠ []) : decide (nth l 0 = nth l 1) = decide (l.length = 1) := by
  match l, h with
  | [x], _ => simp [nth]
  | x :: y :: r, _ =>
    have e : nth (x :: y :: r) 1 = y := by rw [nth_lt (by simp)]; rfl
    rw [nth_zero, e]
    have : x ≠ y := fun e => (List.nodup_cons.mp nd).1 (by simp [e])
    simp [this]
theorem zeroP_of {P : Nat → Pt} {l : List Nat} {z : Bool} (hz : zeroP P l = z) : (decide (P (nth l 0) = P (nth l 1)) || (decide (ar (P (nth l (l.length - 1))) (P (nth l 0)) (P (nth l 1)) = 0) || false)) = z := by
  rw [Bool.or_false]
  unfold zeroP at hz
  rw [← hz]
  by_cases e : P (nth l 0) = P (nth l 1)
  · have : ar (P (nth l (l.length - 1))) (P (nth l 0)) (P (nth l 1)) = 0 := by rw [e]; unfold ar; grind
    rw [this]; simp [e]
  · simp [e]
theorem Ev.cast {α : Type} {t : Sem α} {x y : α} (h : Ev c m n t (fun b => b = x)) (e : x = y) : Ev c m n t (fun b => b = y) := e ▸ h
theorem and_tt {z : Bool} (h : (true && (z && true)) = z') : z = z' := by simpa using h
theorem c_filter {n : Led} {S : Sh} {pv nx : Nat → Nat} {l o : List Nat} (G : S.Good) (N : Nds n S pv nx) (hL : Lk pv nx l) (hin : ∀ i ∈ l, i < S.k) (hF : Filt S.P l (nth l 0) o) :
    Fn 2 134 [.ref (S.a (nth l 0))] [] n (fun v n' => v = .ref (S.a (nth o 0)) ∧ Only S.ds n n' ∧ ∃ pv' nx', Nds n' S pv' nx' ∧ Lk pv' nx' o) := by
  refine fn_enter (binds := [("start", .ref (S.a (nth l 0))), ("end", .none)]) (fun _ => by rfl) (fun _ => by rfl) (fun w s h => binds_K h rfl (by rfl) rfl rfl rfl) (by rfl) (by rfl) (by rfl) (by rfl) (by rfl) ?_
  intro c ok rm nd
  refine run_cons (run_ifb (tr_cmp (ev_isNone (v := .ref (S.a (nth l 0))) (by ktd_rel))) (fun h => by cases h) (fun _ => run_nil ?_))
  refine run_cons (run_ifb (tr_cmp (ev_isNone (v := .none) (by ktd_rel))) (fun _ => ?_) (fun h => by cases h))
  refine run_cons (run_assign (useV (v := .ref (S.a (nth l 0))) (by ktd_rel) (run_nil ?_)))
  refine run_cons (run_assign (useV (v := .ref (S.a (nth l 0))) (by ktd_rel) ?_))
  refine run_cons (run_while ?_)
  have hl0 := hin _ (nth_mem (i := 0) hL.ne)
  generalize hs : nth l 0 = s at *
  refine loop_of (fun m n' => m "p" = some (.ref (S.a (nth l 0))) ∧ m "end" = some (.ref (S.a s)) ∧ s < S.k ∧ (∀ i ∈ l, i < S.k) ∧ Only S.ds n n' ∧ ∃ pv nx, Nds n' S pv nx ∧ Lk pv nx l) ?_ ⟨by rw [hs]; rfl, rfl, hl0, hin, Only.refl, pv, nx, N, hL⟩
  clear hs N hL hin hl0
  clear pv nx
  induction hF with
  | @one l s hz h1 =>
    rintro m n' ⟨hp, he, hs, hin, ho, pv, nx, N, hL⟩
    have i0 := hin _ (nth_mem (i := 0) hL.ne)
    have i1 := hin _ (nth_mem (i := 1) hL.ne)
    have i2 := hin _ (nth_mem (i := l.length - 1) hL.ne)
    have N0 := N.node _ i0
    have N1 := N.node _ i1
    have N2 := N.node _ i2
    rw [hL.nxt 0, hL.prv0] at N0
    refine loop_turn (useT (tr_val ev_bool) (run_cons (run_assign (useV ev_bool ?_))))
    refine run_cons (run_ifb (tr_and (tr_not (tr_val (ev_st (by ktd_rel) N0))) fun _ => tr_and (Ev.cast (tr_or (tr_cmp (ev_eqN (by ktd_rel) N0 (by ktd_rel) N1 rm)) fun _ => tr_or (tr_cmp (ev_eq (ev_area (by ktd_rel) N2 (by ktd_rel) N0 (by ktd_rel) N1 (G.sm _ i2) (G.sm _ i0) (G.sm _ i1) rm) ev_int)) fun _ => tr_or0) (zeroP_of hz)) fun _ => tr_and0) (fun _ => ?_) (fun h => by cases h))
    refine run_cons (run_expr (run_callF g_remove_node k_remove_node (.consV (v := .ref (S.a (nth l 0))) (by ktd_rel) (by intro _ _; rfl) .nil) (fun vs ⟨_, e, e'⟩ => by subst e'; subst e; exact c_remove G N i0 (by rw [hL.prv0]; exact i2) (by rw [hL.nxt 0]; exact i1)) rm ?_))
    rintro v n₁ nd₁ ⟨rfl, o₁, N'⟩
    have L' := hL.back
    have hb : (back l)[0]? = some (nth l (l.length - 1)) := by
      match l, hL.ne with
      | [x], _ => simp [back, nth]
      | x :: y :: r, _ => simp [back, lst_nth, nth_lt]
    have hin' : ∀ i ∈ back l, i < S.k := fun i hi => hin i (mem_back hi)
    have hb0 : nth (back l) 0 = nth l (l.length - 1) := by rw [nth_lt (List.length_pos_iff.mpr L'.ne)]; exact Option.some.inj ((List.getElem?_eq_getElem (List.length_pos_iff.mpr L'.ne)).symm.trans hb)
    have j0 := hin' _ (nth_mem (i := 0) L'.ne)
    have j1 := hin' _ (nth_mem (i := 1) L'.ne)
    have M0 := N'.node _ j0
    rw [L'.nxt 0] at M0
    have M00 := N'.node _ i0
    have e00 : updf pv (nx (nth l 0)) (pv (nth l 0)) (nth l 0) = nth (back l) 0 := by rw [hb0, ← hL.prv0]; unfold updf; split <;> rfl
    rw [e00] at M00
    refine run_cons (run_assign2 (useV (v := .ref (S.a (nth (back l) 0))) (by ktd_rel) (run_asname (run_asname ?_))))
    refine run_cons (run_ifb (b := true) (tr_cmp (Ev.cast (ev_isN G N' (i := nth (back l) 0) (j := nth (back l) 1) (by ktd_rel) (by ktd_rel) j0 j1) (by rw [nth01 L'.nodup L'.ne, h1]; rfl))) (fun _ => ?_) (fun h => by cases h))
    refine run_cons (run_brk ?_)
    refine run_cons (run_ret (useV (v := .ref (S.a (nth (back l) 0))) (by ktd_rel) ⟨rfl, ho.trans o₁, _, _, N', L'⟩))
  | @drop l s o hz h1 hF ih =>
    rintro m n' ⟨hp, he, hs, hin, ho, pv, nx, N, hL⟩
    have i0 := hin _ (nth_mem (i := 0) hL.ne)
    have i1 := hin _ (nth_mem (i := 1) hL.ne)
    have i2 := hin _ (nth_mem (i := l.length - 1) hL.ne)
    have N0 := N.node _ i0
    have N1 := N.node _ i1
    have N2 := N.node _ i2
    rw [hL.nxt 0, hL.prv0] at N0
    refine loop_turn (useT (tr_val ev_bool) (run_cons (run_assign (useV ev_bool ?_))))
    refine run_cons (run_ifb (tr_and (tr_not (tr_val (ev_st (by ktd_rel) N0))) fun _ => tr_and (Ev.cast (tr_or (tr_cmp (ev_eqN (by ktd_rel) N0 (by ktd_rel) N1 rm)) fun _ => tr_or (tr_cmp (ev_eq (ev_area (by ktd_rel) N2 (by ktd_rel) N0 (by ktd_rel) N1 (G.sm _ i2) (G.sm _ i0) (G.sm _ i1) rm) ev_int)) fun _ => tr_or0) (zeroP_of hz)) fun _ => tr_and0) (fun _ => ?_) (fun h => by cases h))
    refine run_cons (run_expr (run_callF g_remove_node k_remove_node (.consV (v := .ref (S.a (nth l 0))) (by ktd_rel) (by intro _ _; rfl) .nil) (fun vs ⟨_, e, e'⟩ => by subst e'; subst e; exact c_remove G N i0 (by rw [hL.prv0]; exact i2) (by rw [hL.nxt 0]; exact i1)) rm ?_))
    rintro v n₁ nd₁ ⟨rfl, o₁, N'⟩
    have L' := hL.back
    have hb : (back l)[0]? = some (nth l (l.length - 1)) := by
      match l, hL.ne with
      | [x], _ => simp [back, nth]
      | x :: y :: r, _ => simp [back, lst_nth, nth_lt]
    have hin' : ∀ i ∈ back l, i < S.k := fun i hi => hin i (mem_back hi)
    have hb0 : nth (back l) 0 = nth l (l.length - 1) := by rw [nth_lt (List.length_pos_iff.mpr L'.ne)]; exact Option.some.inj ((List.getElem?_eq_getElem (List.length_pos_iff.mpr L'.ne)).symm.trans hb)
    have j0 := hin' _ (nth_mem (i := 0) L'.ne)
    have j1 := hin' _ (nth_mem (i := 1) L'.ne)
    have M0 := N'.node _ j0
    rw [L'.nxt 0] at M0
    have M00 := N'.node _ i0
    have e00 : updf pv (nx (nth l 0)) (pv (nth l 0)) (nth l 0) = nth (back l) 0 := by rw [hb0, ← hL.prv0]; unfold updf; split <;> rfl
    rw [e00] at M00
    refine run_cons (run_assign2 (useV (v := .ref (S.a (nth (back l) 0))) (by ktd_rel) (run_asname (run_asname ?_))))
    refine run_cons (run_ifb (b := false) (tr_cmp (Ev.cast (ev_isN G N' (i := nth (back l) 0) (j := nth (back l) 1) (by ktd_rel) (by ktd_rel) j0 j1) (by rw [nth01 L'.nodup L'.ne, decide_eq_false h1]))) (fun h => by cases h) (fun _ => run_nil ?_))
    refine run_cons (run_assign (useV ev_bool (run_nil ?_)))
    refine run_cons (run_ifb (b := false) (tr_not (b' := true) (tr_or (b₁ := true) (b₂ := true) (tr_val (by ktd_rel)) fun h => by cases h)) (fun h => by cases h) (fun _ => run_nil (run_nil ?_)))
    exact ih rfl _ _ ⟨rfl, rfl, j0, hin', ho.trans o₁, _, _, N', L'⟩
  | @stop l s hz h1 =>
    rintro m n' ⟨hp, he, hs, hin, ho, pv, nx, N, hL⟩
    have i0 := hin _ (nth_mem (i := 0) hL.ne)
    have i1 := hin _ (nth_mem (i := 1) hL.ne)
    have i2 := hin _ (nth_mem (i := l.length - 1) hL.ne)
    have N0 := N.node _ i0
    have N1 := N.node _ i1
    have N2 := N.node _ i2
    rw [hL.nxt 0, hL.prv0] at N0
    refine loop_turn (useT (tr_val ev_bool) (run_cons (run_assign (useV ev_bool ?_))))
    refine run_cons (run_ifb (tr_and (tr_not (tr_val (ev_st (by ktd_rel) N0))) fun _ => tr_and (Ev.cast (tr_or (tr_cmp (ev_eqN (by ktd_rel) N0 (by ktd_rel) N1 rm)) fun _ => tr_or (tr_cmp (ev_eq (ev_area (by ktd_rel) N2 (by ktd_rel) N0 (by ktd_rel) N1 (G.sm _ i2) (G.sm _ i0) (G.sm _ i1) rm) ev_int)) fun _ => tr_or0) (zeroP_of hz)) fun _ => tr_and0) (fun h => by cases h) (fun _ => ?_))
    refine run_cons (run_assign (useV (v := .ref (S.a (nth l 1))) (by ktd_rel) (run_nil ?_)))
    rw [← nth_rot (i := 0)] at *
    have j0 := hin _ (mem_rot.mp (nth_mem (i := 0) (rot_ne hL.ne)))
    refine run_cons (run_ifb (b := true) (tr_not (b' := false) (tr_or (b₁ := false) (b₂ := false) (tr_val (by ktd_rel)) fun _ => tr_or (b₁ := false) (tr_cmp (Ev.cast (ev_isnotN G N (i := nth (rot l) 0) (j := s) (by ktd_rel) (by ktd_rel) j0 hs) (by rw [decide_eq_true h1]; rfl))) fun _ => tr_or0)) (fun _ => ?_) (fun h => by cases h))
    refine run_cons (run_brk ?_)
    refine run_cons (run_ret (useV (v := .ref (S.a s)) (by ktd_rel) ⟨by rw [h1]; rfl, ho, _, _, N, hL.rot'⟩))
  | @turn l s o hz h1 hF ih =>
    rintro m n' ⟨hp, he, hs, hin, ho, pv, nx, N, hL⟩
    have i0 := hin _ (nth_mem (i := 0) hL.ne)
    have i1 := hin _ (nth_mem (i := 1) hL.ne)
    have i2 := hin _ (nth_mem (i := l.length - 1) hL.ne)
    have N0 := N.node _ i0
    have N1 := N.node _ i1
    have N2 := N.node _ i2
    rw [hL.nxt 0, hL.prv0] at N0
    refine loop_turn (useT (tr_val ev_bool) (run_cons (run_assign (useV ev_bool ?_))))
    refine run_cons (run_ifb (tr_and (tr_not (tr_val (ev_st (by ktd_rel) N0))) fun _ => tr_and (Ev.cast (tr_or (tr_cmp (ev_eqN (by ktd_rel) N0 (by ktd_rel) N1 rm)) fun _ => tr_or (tr_cmp (ev_eq (ev_area (by ktd_rel) N2 (by ktd_rel) N0 (by ktd_rel) N1 (G.sm _ i2) (G.sm _ i0) (G.sm _ i1) rm) ev_int)) fun _ => tr_or0) (zeroP_of hz)) fun _ => tr_and0) (fun h => by cases h) (fun _ => ?_))
    refine run_cons (run_assign (useV (v := .ref (S.a (nth l 1))) (by ktd_rel) (run_nil ?_)))
    rw [← nth_rot (i := 0)] at *
    have j0 := hin _ (mem_rot.mp (nth_mem (i := 0) (rot_ne hL.ne)))
    refine run_cons (run_ifb (b := false) (tr_not (b' := true) (tr_or (b₁ := false) (b₂ := true) (tr_val (by ktd_rel)) fun _ => tr_or (b₁ := true) (b₂ := true) (tr_cmp (Ev.cast (ev_isnotN G N (i := nth (rot l) 0) (j := s) (by ktd_rel) (by ktd_rel) j0 hs) (by rw [decide_eq_false h1]; rfl))) fun h => by cases h)) (fun h => by cases h) (fun _ => run_nil (run_nil ?_)))
    exact ih rfl _ _ ⟨rfl, he, hs, fun i hi => hin i (mem_rot.mp hi), ho, _, _, N, hL.rot'⟩
end
end Mine
namespace Mine
local macro_rules | `(tactic| ktd_rel) => `(tactic| first
  | with_reducible exact ev_int
  | with_reducible exact ev_none
  | with_reducible exact ev_bool
  | ((with_reducible refine' ev_localI ?ka ?kl ?kk ?kx ?kd); (case ka => first | rfl | assumption); (case kl => rfl); (case kk => rfl); (case kx => rfl); (case kd => decide))
  | ((with_reducible refine' ev_local ?ka ?kl ?kk ?kx ?kd); (case ka => first | rfl | assumption); (case kl => rfl); (case kk => rfl); (case kx => rfl); (case kd => decide))
  | ((with_reducible refine' ev_add ?ka ?kb); (case ka => ktd_rel); (case kb => ktd_rel))
  | ((with_reducible refine' ev_sub ?ka ?kb); (case ka => ktd_rel); (case kb => ktd_rel))
  | ((with_reducible refine' ev_lt ?ka ?kb); (case ka => ktd_rel); (case kb => ktd_rel))
  | ((with_reducible refine' ev_le ?ka ?kb); (case ka => ktd_rel); (case kb => ktd_rel))
  | ((with_reducible refine' ev_gt ?ka ?kb); (case ka => ktd_rel); (case kb => ktd_rel))
  | ((with_reducible refine' ev_ge ?ka ?kb); (case ka => ktd_rel); (case kb => ktd_rel))
  | ((with_reducible refine' ev_eq ?ka ?kb); (case ka => ktd_rel); (case kb => ktd_rel))
  | ((with_reducible refine' ev_ne ?ka ?kb); (case ka => ktd_rel); (case kb => ktd_rel))
  | ((with_reducible refine' ev_neg ?ka); (case ka => ktd_rel))
  | ((with_reducible refine' ev_x ?ka ?kN ?kb); (case ka => ktd_rel); (case kN => with_reducible assumption); (case kb => rfl))
  | ((with_reducible refine' ev_y ?ka ?kN ?kb); (case ka => ktd_rel); (case kN => with_reducible assumption); (case kb => rfl))
  | ((with_reducible refine' ev_pt ?ka ?kN ?kb); (case ka => ktd_rel); (case kN => with_reducible assumption); (case kb => rfl))
  | ((with_reducible refine' ev_prev ?ka ?kN ?kb); (case ka => ktd_rel); (case kN => with_reducible assumption); (case kb => rfl))
  | ((with_reducible refine' ev_next ?ka ?kN ?kb); (case ka => ktd_rel); (case kN => with_reducible assumption); (case kb => rfl))
  | ((with_reducible refine' tr_cmp ?ka ?kb); (case ka => ktd_rel); (case kb => rfl))
  | fail "ev")
section
variable {c : Cfg} {m : Loc} {n : Led} {env : Env}
theorem EvA.args {es : List Expr} {P : List Value → Prop} {pos : Pos} (h : EvA c m n env es P) {Q : List Value → Loc → Led → Prop} (q : ∀ vs, P vs → Q vs m n) : Args c m n env pos es Q := h.run q
theorem run_push {o : Expr} {p1 p2 p3 pos : Pos} {k : Nat} {e : Expr} {es : List Expr} {A : List Value → Prop} {T : Addr} {vs : List Value} {kk : Nat} {rest : List Stmt} {Q : Flow → Loc → Led → Prop} (hb : EvV c m n env o (.ref T)) (h : (T, listO vs kk) ∈ n) (hz : vs.length ≤ 1000000) (hA : EvA c m n env (e :: es) A)
    (hlen : es.length ≤ 100) (hAl : ∀ ws, A ws → ws.length = es.length + 1)
    (pl : Sem Bool) (he : eval (.Call (.Attribute o "append" p2) [.Tuple (e :: es) k p1] [] p3) env = (do
      let ov ← eval o env
      standAt p2.atName
      let (f, first) ← holding [ov] (getMethod ov "append" pl)
      callWith p3 f first (backTo p3 (starEach [.Tuple (e :: es) k p1] env)) []))
    (q : ∀ ws, A ws → ∀ D n', Keys n' → Only [T] n n' → (T, listO (vs ++ [.ref D]) (kk + 1)) ∈ n' → (D, tupO ws 0) ∈ n' → (∀ p ∈ n, p.1 < D) → Run c m n' (execs rest env) Q)
    (hi : interactive env = false := by rfl) (hs : swapsWith (.Call (.Attribute o "append" p2) [.Tuple (e :: es) k p1] [] p3) none pos.line env = Pure.pure false := by rfl) : Run c m n (execs (.Expr (.Call (.Attribute o "append" p2) [.Tuple (e :: es) k p1] [] p3) pos :: rest) env) Q := by
  refine run_cons (run_expr (run_meth hb h PySem.F.slot_list_append PySem.F.type_list_append ?_ pl he) hi hs)
  refine args_cons (run_tuple (hA.args fun ws hw => ⟨by rw [hAl ws hw]; omega, fun D hD => ?_⟩))
  refine args_nil (Run.nd fun nd => run_append (List.mem_cons_of_mem _ h) hz ?_)
  have hne : T ≠ D := Nat.ne_of_lt (hD _ h)
  refine Run.nd fun nd' => q ws hw D _ nd' ?_ (mem_put_same (List.mem_cons_of_mem _ h)) (mem_put_other (List.mem_cons_self ..) (Ne.symm hne)) hD
  exact fun p hp e => mem_put_other (List.mem_cons_of_mem _ hp) (by simpa using e)
/-- the tuples of points told -/
inductive TriAre (n : Led) (p : Nat → Addr) : List Value → List Tri → Prop
  | nil : TriAre n p [] []
  | cons {D : Addr} {vs : List Value} {t : Tri} {ts : List Tri} : (D, tupO [.ref (p t.1), .ref (p t.2.1), .ref (p t.2.2)] 0) ∈ n → TriAre n p vs ts → TriAre n p (.ref D :: vs) (t :: ts)
theorem TriAre.length {n : Led} {p : Nat → Addr} {vs : List Value} {ts : List Tri} (h : TriAre n p vs ts) : vs.length = ts.length := by induction h <;> simp_all
theorem TriAre.append {n : Led} {p : Nat → Addr} {vs ws : List Value} {ts us : List Tri} (h : TriAre n p vs ts) (h' : TriAre n p ws us) : TriAre n p (vs ++ ws) (ts ++ us) := by
  induction h with
  | nil => exact h'
  | cons a _ ih => exact .cons a ih
theorem TriAre.other {n n' : Led} {p : Nat → Addr} {vs : List Value} {ts : List Tri} {ds : List Addr} (h : TriAre n p vs ts) (o : Only ds n n') (hd : ∀ D ws, (D, tupO ws 0) ∈ n → D ∉ ds) : TriAre n' p vs ts := by
  induction h with
  | nil => exact .nil
  | cons a _ ih => exact .cons (o _ a (hd _ _ a)) ih
structure TrisIn (n : Led) (p : Nat → Addr) (T : Addr) (base : List Value) (ts : List Tri) : Prop where
  list : ∃ vs k, (T, listO (base ++ vs) k) ∈ n ∧ TriAre n p vs ts
theorem tup_ne_list {a b : List Value} {k k' : Nat} : tupO a k ≠ listO b k' := fun h => by have := congrArg Obj.cls h; simp at this
theorem tup_ne_dict {a : List Value} {k : Nat} {es : List DictEntry} {k' : Nat} : tupO a k ≠ dictOf es k' := fun h => by have := congrArg Obj.data h; simp at this
theorem list_ne_dict {a : List Value} {k : Nat} {es : List DictEntry} {k' : Nat} : listO a k ≠ dictOf es k' := fun h => by have := congrArg Obj.data h; simp at this
theorem inst_ne_list {d C : Addr} {a : List Value} {k : Nat} : instObj C d ≠ listO a k := fun h => by have := congrArg Obj.data h; simp at this
theorem TrisIn.node {n n' : Led} {S : Sh} {pv nx : Nat → Nat} {T : Addr} {base : List Value} {ts : List Tri} (h : TrisIn n S.p T base ts) (N : Nds n S pv nx) (nd : Keys n) (o : Only S.ds n n') : TrisIn n' S.p T base ts :=
  let ⟨vs, k, h1, h2⟩ := h.list
  ⟨vs, k, o _ h1 (N.off nd h1 fun _ _ => list_ne_dict), h2.other o fun D ws hD => N.off nd hD fun _ _ => tup_ne_dict⟩
theorem TrisIn.push {n n' : Led} {p : Nat → Addr} {T D : Addr} {base vs : List Value} {k : Nat} {ts : List Tri} {t : Tri} (h : (T, listO (base ++ vs) k) ∈ n) (h2 : TriAre n p vs ts) (nd : Keys n) (o : Only [T] n n') (h' : (T, listO ((base ++ vs) ++ [.ref D]) (k + 1)) ∈ n') (hD : (D, tupO [.ref (p t.1), .ref (p t.2.1), .ref (p t.2.2)] 0) ∈ n') : TrisIn n' p T base (ts ++ [t]) :=
  ⟨vs ++ [.ref D], k + 1, by rw [← List.append_assoc]; exact h', (h2.other o fun D ws hD e => key_ne nd hD h tup_ne_list (by simpa using e)).append (.cons hD .nil)⟩
theorem TrisIn.nodes {n n' : Led} {S : Sh} {pv nx : Nat → Nat} {T : Addr} {base : List Value} {vs : List Value} {k : Nat} (h : (T, listO (base ++ vs) k) ∈ n) (N : Nds n S pv nx) (nd : Keys n) (o : Only [T] n n') : Nds n' S pv nx := by
  refine N.other o (fun i hi e => ?_) (fun i hi e => ?_)
  · exact key_ne nd (N.node i hi).inst h inst_ne_list (by simpa using e)
  · obtain ⟨es, h', _⟩ := (N.node i hi).dict
    exact key_ne nd h' h (fun e => list_ne_dict e.symm) (by simpa using e)

theorem cut_nths {p q b c : Nat} {r : List Nat} : nth (p :: q :: b :: c :: r) 0 = p ∧ nth (p :: q :: b :: c :: r) 1 = q ∧ nth (p :: q :: b :: c :: r) 2 = b ∧ nth (p :: q :: b :: c :: r) ((p :: q :: b :: c :: r).length - 1) = lst c r := by
  refine ⟨nth_zero, ?_, ?_, ?_⟩
  · rw [nth_lt (by simp)]; rfl
  · rw [nth_lt (by simp)]; rfl
  · rw [← lst_cons (x := b), ← lst_cons (x := q), ← lst_cons (x := p), lst_nth]; rfl
theorem c_cure {n : Led} {S : Sh} {pv nx : Nat → Nat} {l g o : List Nat} {T : Addr} {base : List Value} {ts t : List Tri} (G : S.Good) (N : Nds n S pv nx) (hL : Lk pv nx l) (hin : ∀ i ∈ l, i < S.k) (hS : Swp S.P l (nth l 0) t g) (hF : Filt S.P g (nth g 0) o)
    (hT : TrisIn n S.p T base ts) (hz : base.length + ts.length + t.length ≤ 1000000) :
    Fn 3 162 [.ref (S.a (nth l 0)), .ref T] [] n (fun v n' => v = .ref (S.a (nth o 0)) ∧ Only (T :: S.ds) n n' ∧ (∃ pv' nx', Nds n' S pv' nx' ∧ Lk pv' nx' o) ∧ TrisIn n' S.p T base (ts ++ t)) := by
  refine fn_enter (binds := [("start", .ref (S.a (nth l 0))), ("triangles", .ref T)]) (fun _ => by rfl) (fun _ => by rfl) (fun _ _ _ => BindsTo.of_eq (by rfl)) (by rfl) (by rfl) (by rfl) (by rfl) (by rfl) ?_
  intro c ok rm nd
  refine run_cons (run_assign (useV (v := .ref (S.a (nth l 0))) (by ktd_rel) ?_))
  refine run_cons (run_while ?_)
  have hl0 := hin _ (nth_mem (i := 0) hL.ne)
  have rm1 : Room 1 c := rm.le (by decide)
  generalize hs : nth l 0 = s at *
  refine loop_of (fun m n' => m "p" = some (.ref (S.a (nth l 0))) ∧ m "start" = some (.ref (S.a s)) ∧ m "triangles" = some (.ref T) ∧ s < S.k ∧ (∀ i ∈ l, i < S.k) ∧ Only (T :: S.ds) n n' ∧ ∃ ts', TrisIn n' S.p T base ts' ∧ base.length + ts'.length + t.length ≤ 1000000 ∧ ts' ++ t = ts ++ t ∧ Keys n' ∧ ∃ pv nx, Nds n' S pv nx ∧ Lk pv nx l) ?_ ⟨by rw [hs]; rfl, rfl, rfl, hl0, hin, Only.refl, ts, hT, hz, rfl, nd, pv, nx, N, hL⟩
  generalize hres : ts ++ t = res
  clear hs N hL hin hl0 hT hz
  clear pv nx
  have sT : ∀ d ∈ S.ds, d ∈ T :: S.ds := fun d h => List.mem_cons_of_mem _ h
  have tT : ∀ d ∈ [T], d ∈ T :: S.ds := fun d h => by simp at h; simp [h]
  have hres' : True := trivial
  clear hres
  induction hS with
  | @cut p q b cc r s t g hz hcb hS ih =>
    rintro m n' ⟨hp, he, htr, hs, hin, ho, ts', hT, hzz, htt, nd', pv, nx, N, hL⟩
    obtain ⟨c0, c1, c2, c3⟩ := @cut_nths p q b cc r
    have i0 := hin _ (nth_mem (i := 0) hL.ne)
    have i1 := hin _ (nth_mem (i := 1) hL.ne)
    have i2 := hin _ (nth_mem (i := 2) hL.ne)
    have i3 := hin _ (nth_mem (i := 3) hL.ne)
    have i4 := hin _ (nth_mem (i := (p :: q :: b :: cc :: r).length - 1) hL.ne)
    have i5 := hin _ (nth_mem (i := 2 * (p :: q :: b :: cc :: r).length - 2) hL.ne)
    have N0 := N.node _ i0
    have N1 := N.node _ i1
    have N2 := N.node _ i2
    have N3 := N.node _ i3
    have N4 := N.node _ i4
    have N5 := N.node _ i5
    rw [hL.nxt 0, hL.prv0] at N0
    rw [hL.nxt 1, hL.prv 0] at N1
    rw [hL.nxt 2, hL.prv 1] at N2
    have e4 : nx (nth (p :: q :: b :: cc :: r) ((p :: q :: b :: cc :: r).length - 1)) = nth (p :: q :: b :: cc :: r) 0 := by
      rw [hL.nxt]; exact nth_mod (by rw [Nat.sub_add_cancel (List.length_pos_iff.mpr hL.ne)]; simp)
    rw [e4, hL.prv00] at N4
    refine loop_turn (useT (tr_val ev_bool) ?_)
    refine run_cons (run_assign (useV (v := .ref (S.a (nth (p :: q :: b :: cc :: r) ((p :: q :: b :: cc :: r).length - 1)))) (by ktd_rel) ?_))
    refine run_cons (run_assign (useV (v := .ref (S.a (nth (p :: q :: b :: cc :: r) 2))) (by ktd_rel) ?_))
    refine run_cons (run_ifb (b := cutP S.P (p :: q :: b :: cc :: r)) (Ev.cast (tr_and (tr_not (tr_cmp (ev_eqN (by ktd_rel) N4 (by ktd_rel) N2 rm1))) fun _ => tr_and (tr_val (ev_inters (by ktd_rel) N4 (by ktd_rel) N0 (by ktd_rel) N1 (by ktd_rel) N2 (G.sm _ i4) (G.sm _ i0) (G.sm _ i1) (G.sm _ i2) rm)) fun _ =>
      tr_and (tr_val (ev_locin (by ktd_rel) N4 (by ktd_rel) N2 N5 N0 (G.sm _ i4) (G.sm _ i2) (G.sm _ i5) (G.sm _ i0) rm)) fun _ => tr_and (tr_val (ev_locin (by ktd_rel) N2 (by ktd_rel) N4 N1 N3 (G.sm _ i2) (G.sm _ i4) (G.sm _ i1) (G.sm _ i3) rm)) fun _ => tr_and0) (by rw [Bool.and_true]; rfl)) (fun _ => ?_) (fun h => by rw [hz] at h; cases h))
    obtain ⟨vs, kk, hTl, hTt⟩ := hT.list
    refine run_push (by ktd_rel) hTl (by rw [List.length_append, hTt.length]; simp at hzz; omega) (.consV (v := .ref (S.p (nth (p :: q :: b :: cc :: r) ((p :: q :: b :: cc :: r).length - 1)))) (by ktd_rel) (by intro _ _; rfl) (.consV (v := .ref (S.p (nth (p :: q :: b :: cc :: r) 0))) (by ktd_rel) (by intro _ _; rfl) (.consV (v := .ref (S.p (nth (p :: q :: b :: cc :: r) 2))) (by ktd_rel) (by intro _ _; rfl) .nil))) (by decide) (by rintro _ ⟨_, rfl, _, rfl, _, rfl, rfl⟩; rfl) _ (by rfl) ?_
    rintro _ ⟨_, rfl, _, rfl, _, rfl, rfl⟩ D n₁ nd₁ o₁ h₁ hD _
    have N₁ := TrisIn.nodes hTl N nd' o₁
    have T₁ := TrisIn.push (t := (nth (p :: q :: b :: cc :: r) ((p :: q :: b :: cc :: r).length - 1), nth (p :: q :: b :: cc :: r) 0, nth (p :: q :: b :: cc :: r) 2)) hTl hTt nd' o₁ h₁ hD
    have hqi : q < S.k := c1 ▸ i1
    have hbi : b < S.k := c2 ▸ i2
    have hci : cc < S.k := hin _ (by simp)
    have hpi : p < S.k := hin _ (by simp)
    have f1 : nx p = q := hL.next
    have f2 : pv p = nth (p :: q :: b :: cc :: r) ((p :: q :: b :: cc :: r).length - 1) := by rw [← hL.prv0, c0]
    have L₁ := hL.drop
    refine run_cons (run_expr (run_callF g_remove_node k_remove_node (.consV (v := .ref (S.a p)) (by rw [← c0]; ktd_rel) (by intro _ _; rfl) .nil) (fun vs ⟨_, e, e'⟩ => by subst e'; subst e; exact c_remove G N₁ hpi (by rw [f2]; exact i4) (by rw [f1]; exact hqi)) rm1 ?_))
    rintro v n₂ nd₂ ⟨rfl, o₂, N₂'⟩
    have T₂ := T₁.node N₁ nd₁ o₂
    have M0 := N₂'.node p hpi
    have f3 : updf nx (pv p) (nx p) p = q := by rw [← f1]; unfold updf; split <;> rfl
    rw [f3] at M0
    have f4 := L₁.next
    have f5 := L₁.prev
    have L₂ := L₁.drop
    refine run_cons (run_expr (run_callF g_remove_node k_remove_node (.consV (v := .ref (S.a q)) (ev_next (by rw [← c0]; ktd_rel) M0) (by intro _ _; rfl) .nil) (fun vs ⟨_, e, e'⟩ => by subst e'; subst e; exact c_remove G N₂' hqi (by rw [f5, lst_cons, lst_cons, ← c3]; exact i4) (by rw [f4]; exact hbi)) rm1 ?_))
    rintro v n₃ nd₃ ⟨rfl, o₃, N₃'⟩
    have T₃ := T₂.node N₂' nd₂ o₃
    have M1 := N₃'.node b hbi
    rw [L₂.next] at M1
    rw [c2]
    refine run_cons (run_assign2 (useV (v := .ref (S.a b)) (by ktd_rel) (run_asname (run_asname (run_nil ?_)))))
    refine run_cons (run_assign (useV (v := .ref (S.a cc)) (by ktd_rel) ?_))
    refine run_cons (run_ifb (b := false) (tr_cmp (Ev.cast (ev_isN G N₃' (i := cc) (j := b) (by ktd_rel) (by ktd_rel) hci hbi) (by rw [decide_eq_false hcb]))) (fun h => by cases h) (fun _ => run_nil (run_nil ?_)))
    refine ih hF _ _ ⟨by rw [nth_zero]; rfl, rfl, htr, hbi, fun i hi => hin i ?_, ((ho.trans (o₁.mono tT)).trans (o₂.mono sT)).trans (o₃.mono sT), _, T₃, ?_, ?_, nd₃, _, _, N₃', L₂.rot⟩
    · simp at hi ⊢; rcases hi with h | h | h <;> simp [h]
    · simp at hzz ⊢; omega
    · rw [← htt, List.append_assoc]; rw [c0, c2, c3]; rfl
  | @stop l s hz h1 =>
    rintro m n' ⟨hp, he, htr, hs, hin, ho, ts', hT, hzz, htt, nd', pv, nx, N, hL⟩
    have i0 := hin _ (nth_mem (i := 0) hL.ne)
    have i1 := hin _ (nth_mem (i := 1) hL.ne)
    have i2 := hin _ (nth_mem (i := 2) hL.ne)
    have i3 := hin _ (nth_mem (i := 3) hL.ne)
    have i4 := hin _ (nth_mem (i := l.length - 1) hL.ne)
    have i5 := hin _ (nth_mem (i := 2 * l.length - 2) hL.ne)
    have N0 := N.node _ i0
    have N1 := N.node _ i1
    have N2 := N.node _ i2
    have N3 := N.node _ i3
    have N4 := N.node _ i4
    have N5 := N.node _ i5
    rw [hL.nxt 0, hL.prv0] at N0
    rw [hL.nxt 1, hL.prv 0] at N1
    rw [hL.nxt 2, hL.prv 1] at N2
    have e4 : nx (nth l (l.length - 1)) = nth l 0 := by
      rw [hL.nxt]; exact nth_mod (by rw [Nat.sub_add_cancel (List.length_pos_iff.mpr hL.ne)]; simp)
    rw [e4, hL.prv00] at N4
    refine loop_turn (useT (tr_val ev_bool) ?_)
    refine run_cons (run_assign (useV (v := .ref (S.a (nth l (l.length - 1)))) (by ktd_rel) ?_))
    refine run_cons (run_assign (useV (v := .ref (S.a (nth l 2))) (by ktd_rel) ?_))
    refine run_cons (run_ifb (b := cutP S.P l) (Ev.cast (tr_and (tr_not (tr_cmp (ev_eqN (by ktd_rel) N4 (by ktd_rel) N2 rm1))) fun _ => tr_and (tr_val (ev_inters (by ktd_rel) N4 (by ktd_rel) N0 (by ktd_rel) N1 (by ktd_rel) N2 (G.sm _ i4) (G.sm _ i0) (G.sm _ i1) (G.sm _ i2) rm)) fun _ =>
      tr_and (tr_val (ev_locin (by ktd_rel) N4 (by ktd_rel) N2 N5 N0 (G.sm _ i4) (G.sm _ i2) (G.sm _ i5) (G.sm _ i0) rm)) fun _ => tr_and (tr_val (ev_locin (by ktd_rel) N2 (by ktd_rel) N4 N1 N3 (G.sm _ i2) (G.sm _ i4) (G.sm _ i1) (G.sm _ i3) rm)) fun _ => tr_and0) (by rw [Bool.and_true]; rfl)) (fun h => by rw [hz] at h; cases h) (fun _ => run_nil ?_))
    refine run_cons (run_assign (useV (v := .ref (S.a (nth l 1))) (by ktd_rel) ?_))
    rw [← nth_rot (i := 0)] at *
    have j0 := hin _ (mem_rot.mp (nth_mem (i := 0) (rot_ne hL.ne)))
    refine run_cons (run_ifb (b := true) (tr_cmp (Ev.cast (ev_isN G N (i := nth (rot l) 0) (j := s) (by ktd_rel) (by ktd_rel) j0 hs) (by rw [decide_eq_true h1]))) (fun _ => ?_) (fun h => by cases h))
    refine run_cons (run_brk ?_)
    refine run_cons (run_ret (run_callF g_filter_points k_filter_points (.consV (v := .ref (S.a (nth (rot l) 0))) (by ktd_rel) (by intro _ _; rfl) .nil) (fun vs ⟨_, e, e'⟩ => by subst e'; subst e; exact c_filter G N hL.rot' (fun i hi => hin i (mem_rot.mp hi)) hF) rm ?_))
    rintro v n₁ nd₁ ⟨rfl, o₁, pv', nx', N', L'⟩
    exact ⟨rfl, ho.trans (o₁.mono sT), ⟨_, _, N', L'⟩, by rw [← htt, List.append_nil]; exact hT.node N nd' o₁⟩
  | @turn l s t o hz h1 hS ih =>
    rintro m n' ⟨hp, he, htr, hs, hin, ho, ts', hT, hzz, htt, nd', pv, nx, N, hL⟩
    have i0 := hin _ (nth_mem (i := 0) hL.ne)
    have i1 := hin _ (nth_mem (i := 1) hL.ne)
    have i2 := hin _ (nth_mem (i := 2) hL.ne)
    have i3 := hin _ (nth_mem (i := 3) hL.ne)
    have i4 := hin _ (nth_mem (i := l.length - 1) hL.ne)
    have i5 := hin _ (nth_mem (i := 2 * l.length - 2) hL.ne)
    have N0 := N.node _ i0
    have N1 := N.node _ i1
    have N2 := N.node _ i2
    have N3 := N.node _ i3
    have N4 := N.node _ i4
    have N5 := N.node _ i5
    rw [hL.nxt 0, hL.prv0] at N0
    rw [hL.nxt 1, hL.prv 0] at N1
    rw [hL.nxt 2, hL.prv 1] at N2
    have e4 : nx (nth l (l.length - 1)) = nth l 0 := by
      rw [hL.nxt]; exact nth_mod (by rw [Nat.sub_add_cancel (List.length_pos_iff.mpr hL.ne)]; simp)
    rw [e4, hL.prv00] at N4
    refine loop_turn (useT (tr_val ev_bool) ?_)
    refine run_cons (run_assign (useV (v := .ref (S.a (nth l (l.length - 1)))) (by ktd_rel) ?_))
    refine run_cons (run_assign (useV (v := .ref (S.a (nth l 2))) (by ktd_rel) ?_))
    refine run_cons (run_ifb (b := cutP S.P l) (Ev.cast (tr_and (tr_not (tr_cmp (ev_eqN (by ktd_rel) N4 (by ktd_rel) N2 rm1))) fun _ => tr_and (tr_val (ev_inters (by ktd_rel) N4 (by ktd_rel) N0 (by ktd_rel) N1 (by ktd_rel) N2 (G.sm _ i4) (G.sm _ i0) (G.sm _ i1) (G.sm _ i2) rm)) fun _ =>
      tr_and (tr_val (ev_locin (by ktd_rel) N4 (by ktd_rel) N2 N5 N0 (G.sm _ i4) (G.sm _ i2) (G.sm _ i5) (G.sm _ i0) rm)) fun _ => tr_and (tr_val (ev_locin (by ktd_rel) N2 (by ktd_rel) N4 N1 N3 (G.sm _ i2) (G.sm _ i4) (G.sm _ i1) (G.sm _ i3) rm)) fun _ => tr_and0) (by rw [Bool.and_true]; rfl)) (fun h => by rw [hz] at h; cases h) (fun _ => run_nil ?_))
    refine run_cons (run_assign (useV (v := .ref (S.a (nth l 1))) (by ktd_rel) ?_))
    rw [← nth_rot (i := 0)] at *
    have j0 := hin _ (mem_rot.mp (nth_mem (i := 0) (rot_ne hL.ne)))
    refine run_cons (run_ifb (b := false) (tr_cmp (Ev.cast (ev_isN G N (i := nth (rot l) 0) (j := s) (by ktd_rel) (by ktd_rel) j0 hs) (by rw [decide_eq_false h1]))) (fun h => by cases h) (fun _ => run_nil (run_nil ?_)))
    exact ih hF _ _ ⟨rfl, he, htr, hs, fun i hi => hin i (mem_rot.mp hi), ho, ts', hT, hzz, htt, nd', _, _, N, hL.rot'⟩
end
end Mine
namespace Mine
local macro_rules | `(tactic| ktd_rel) => `(tactic| first
  | with_reducible exact ev_int
  | with_reducible exact ev_none
  | with_reducible exact ev_bool
  | ((with_reducible refine' ev_localI ?ka ?kl ?kk ?kx ?kd); (case ka => first | rfl | assumption); (case kl => rfl); (case kk => rfl); (case kx => rfl); (case kd => decide))
  | ((with_reducible refine' ev_local ?ka ?kl ?kk ?kx ?kd); (case ka => first | rfl | assumption); (case kl => rfl); (case kk => rfl); (case kx => rfl); (case kd => decide))
  | ((with_reducible refine' ev_add ?ka ?kb); (case ka => ktd_rel); (case kb => ktd_rel))
  | ((with_reducible refine' ev_sub ?ka ?kb); (case ka => ktd_rel); (case kb => ktd_rel))
  | ((with_reducible refine' ev_lt ?ka ?kb); (case ka => ktd_rel); (case kb => ktd_rel))
  | ((with_reducible refine' ev_le ?ka ?kb); (case ka => ktd_rel); (case kb => ktd_rel))
  | ((with_reducible refine' ev_gt ?ka ?kb); (case ka => ktd_rel); (case kb => ktd_rel))
  | ((with_reducible refine' ev_ge ?ka ?kb); (case ka => ktd_rel); (case kb => ktd_rel))
  | ((with_reducible refine' ev_eq ?ka ?kb); (case ka => ktd_rel); (case kb => ktd_rel))
  | ((with_reducible refine' ev_ne ?ka ?kb); (case ka => ktd_rel); (case kb => ktd_rel))
  | ((with_reducible refine' ev_neg ?ka); (case ka => ktd_rel))
  | ((with_reducible refine' ev_x ?ka ?kN ?kb); (case ka => ktd_rel); (case kN => with_reducible assumption); (case kb => rfl))
  | ((with_reducible refine' ev_y ?ka ?kN ?kb); (case ka => ktd_rel); (case kN => with_reducible assumption); (case kb => rfl))
  | ((with_reducible refine' ev_pt ?ka ?kN ?kb); (case ka => ktd_rel); (case kN => with_reducible assumption); (case kb => rfl))
  | ((with_reducible refine' ev_prev ?ka ?kN ?kb); (case ka => ktd_rel); (case kN => with_reducible assumption); (case kb => rfl))
  | ((with_reducible refine' ev_next ?ka ?kN ?kb); (case ka => ktd_rel); (case kN => with_reducible assumption); (case kb => rfl))
  | ((with_reducible refine' tr_cmp ?ka ?kb); (case ka => ktd_rel); (case kb => rfl))
  | fail "ev")
section
variable {c : Cfg} {m : Loc} {n : Led} {env : Env}
theorem tr_valI {e : Expr} {i : Int} (h : EvI c m n env e i) (he : isTrue e env (eval e env) = (do let v ← eval e env; standAt e.pos; holding [v] (truthy v)) := by rfl) : TrB c m n env e (i != 0) :=
  is_plain (h.use fun v ⟨t, e⟩ => by subst e; exact truth_int ⟨rfl, rfl, rfl⟩) he
theorem nth_len {l : List Nat} (nd : l.Nodup) (h : l ≠ []) : decide (nth l (l.length - 1) = nth l 1) = decide (l.length ≤ 2) := by
  match l, h with
  | [x], _ => simp [nth]
  | [x, y], _ => simp [nth]
  | x :: y :: z :: r, _ =>
    have e : nth (x :: y :: z :: r) 1 = y := by rw [nth_lt (by simp)]; rfl
    have e2 : nth (x :: y :: z :: r) ((x :: y :: z :: r).length - 1) = lst z r := by rw [← lst_cons (x := y), ← lst_cons (x := x), lst_nth]; rfl
    rw [e, e2]
    have : lst z r ≠ y := fun e => (List.nodup_cons.mp (List.nodup_cons.mp nd).2).1 (e ▸ lst_mem)
    simp [this]
theorem c_isear' {n : Led} {S : Sh} {pv nx : Nat → Nat} {l : List Nat} (G : S.Good) (N : Nds n S pv nx) (hL : Lk pv nx l) (hin : ∀ i ∈ l, i < S.k) (h2 : 2 < l.length) :
    Fn 2 148 [.ref (S.a (nth l 0))] [] n (fun v n' => n' = n ∧ v = .bool (earP S.P l)) := by
  match l, h2 with
  | b :: e :: d :: r, _ => rw [nth_zero]; exact c_isear G N hL hin
theorem ev_isear {e : Expr} {np pos : Pos} {S : Sh} {pv nx : Nat → Nat} {l : List Nat} (G : S.Good) (N : Nds n S pv nx) (hL : Lk pv nx l) (hin : ∀ i ∈ l, i < S.k) (h2 : 2 < l.length) (he : EvV c m n env e (.ref (S.a (nth l 0)))) (rm : Room 2 c) (hg : env.globals = mainGlobals := by rfl) (hke : env.scope.kind = .function := by rfl)
    (hx : env.kindOf "is_ear" = some .globalImplicit := by rfl) (n1 : NotStar e := by intro _ _; rfl) : EvB c m n env (.Call (.Name "is_ear" np) [e] [] pos) (earP S.P l) :=
  ev_call g_is_ear k_is_ear (.consV he n1 .nil) (fun vs ⟨_, e, e'⟩ => by subst e'; subst e; exact c_isear' G N hL hin h2) rm hg hke hx

def LinkPost (S : Sh) (T : Addr) (base : List Value) (res : List Tri) (o : List Nat) (n : Led) (v : Value) (n' : Led) : Prop :=
  v = .none ∧ Only (T :: S.ds) n n' ∧ (∃ pv' nx', Nds n' S pv' nx' ∧ Lk pv' nx' o) ∧ TrisIn n' S.p T base res
def LinkOk (S : Sh) (T : Addr) (base : List Value) (g : Nat) : Prop := ∀ (n : Led) (pv nx : Nat → Nat) (l o : List Nat) (ts t : List Tri) (v1 v2 v3 : Value) (tk : Tok), Nds n S pv nx → Lk pv nx l → (∀ i ∈ l, i < S.k) → RunR S.P g l (nth l 0) t o → TrisIn n S.p T base ts → base.length + ts.length + t.length ≤ 1000000 →
  Fn (6 - g) 141 [.ref (S.a (nth l 0)), .ref T, v1, v2, v3, .int g tk] [] n (LinkPost S T base (ts ++ t) o n)
theorem filt_len {P : Nat → Pt} {l o : List Nat} {s : Nat} (h : Filt P l s o) : o.length ≤ l.length := by
  induction h with
  | one _ h => rename_i l _ _; have := back_length (l := l); split at this <;> omega
  | drop _ _ _ ih => rename_i l _ _ _ _ _; have := back_length (l := l); split at this <;> omega
  | stop => rw [rot_length]; exact Nat.le_refl _
  | turn _ _ _ ih => rwa [rot_length] at ih
theorem filt_mem {P : Nat → Pt} {l o : List Nat} {s : Nat} (h : Filt P l s o) : ∀ i ∈ o, i ∈ l := by
  induction h with
  | one _ h => exact fun i hi => mem_back hi
  | drop _ _ _ ih => exact fun i hi => mem_back (ih i hi)
  | stop => exact fun i hi => mem_rot.mp hi
  | turn _ _ _ ih => exact fun i hi => mem_rot.mp (ih i hi)
theorem swp_mem {P : Nat → Pt} {l o : List Nat} {s : Nat} {t : List Tri} (h : Swp P l s t o) : ∀ i ∈ o, i ∈ l := by
  induction h with
  | cut _ _ _ ih => intro i hi; have := ih i hi; simp at this ⊢; rcases this with h | h | h <;> simp [h]
  | stop => exact fun i hi => mem_rot.mp hi
  | turn _ _ _ ih => exact fun i hi => mem_rot.mp (ih i hi)
theorem c_link {S : Sh} {T : Addr} {base : List Value} {g : Nat} (G : S.Good) (hg : g ≤ 2) (next : g < 2 → LinkOk S T base (g + 1)) : LinkOk S T base g := by
  intro n pv nx l o ts t v1 v2 v3 tk N hL hin hR hT hz
  have h5 : 6 - g = (5 - g) + 1 := by omega
  rw [h5]
  refine fn_enter (binds := [("ear", .ref (S.a (nth l 0))), ("triangles", .ref T), ("min_x", v1), ("min_y", v2), ("inv_size", v3), ("pass_", .int g tk)]) (fun _ => by rfl) (fun _ => by rfl) (fun _ _ _ => BindsTo.of_eq (by rfl)) (by rfl) (by rfl) (by rfl) (by rfl) (by rfl) ?_
  intro c ok rm nd
  refine run_cons (run_ifb (tr_cmp (ev_isNone (v := .ref (S.a (nth l 0))) (by ktd_rel))) (fun h => by cases h) (fun _ => run_nil ?_))
  refine run_cons (run_assign (useV (v := .ref (S.a (nth l 0))) (by ktd_rel) ?_))
  refine run_cons (run_while ?_)
  have hl0 := hin _ (nth_mem (i := 0) hL.ne)
  have rm1 : Room 1 c := rm.le (by omega)
  have rm2 : Room 2 c := rm.le (by omega)
  have rm3 : Room 3 c := rm.le (by omega)
  generalize hs : nth l 0 = s at *
  refine loop_of (fun m n' => m "ear" = some (.ref (S.a (nth l 0))) ∧ m "stop" = some (.ref (S.a s)) ∧ m "triangles" = some (.ref T) ∧ (m "min_x" = some v1 ∧ m "min_y" = some v2 ∧ m "inv_size" = some v3 ∧ m "pass_" = some (.int g tk)) ∧ s < S.k ∧ (∀ i ∈ l, i < S.k) ∧ Only (T :: S.ds) n n' ∧ ∃ ts', TrisIn n' S.p T base ts' ∧ base.length + ts'.length + t.length ≤ 1000000 ∧ ts' ++ t = ts ++ t ∧ Keys n' ∧ ∃ pv nx, Nds n' S pv nx ∧ Lk pv nx l) ?_ ⟨by rw [hs]; rfl, rfl, rfl, ⟨rfl, rfl, rfl, rfl⟩, hl0, hin, Only.refl, ts, hT, hz, rfl, nd, pv, nx, N, hL⟩
  generalize hres : ts ++ t = res
  clear hs N hL hin hl0 hT hz hres
  clear pv nx h5
  have sT : ∀ d ∈ S.ds, d ∈ T :: S.ds := fun d h => List.mem_cons_of_mem _ h
  have tT : ∀ d ∈ [T], d ∈ T :: S.ds := fun d h => by simp at h; simp [h]
  induction hR with
  | @short g l s hlen =>
    rintro m n' ⟨hp, he, htr, ⟨hv1, hv2, hv3, hv4⟩, hs, hin, ho, ts', hT, hzz, htt, nd', pv, nx, N, hL⟩
    have i0 := hin _ (nth_mem (i := 0) hL.ne)
    have i1 := hin _ (nth_mem (i := 1) hL.ne)
    have i4 := hin _ (nth_mem (i := l.length - 1) hL.ne)
    have N0 := N.node _ i0
    have N1 := N.node _ i1
    have N4 := N.node _ i4
    rw [hL.nxt 0, hL.prv0] at N0
    rw [hL.nxt 1, hL.prv 0] at N1
    refine loop_turn (useT (b := false) (tr_cmp (Ev.cast (ev_isnotN G N (i := nth l (l.length - 1)) (j := nth l 1) (by ktd_rel) (by ktd_rel) i4 i1) (by rw [nth_len hL.nodup hL.ne, decide_eq_true hlen]; rfl))) ?_)
    exact run_nil ⟨rfl, ho, ⟨_, _, N, hL⟩, by rw [← htt, List.append_nil]; exact hT⟩
  | @ear g b e d r s t o hz hR ih =>
    rintro m n' ⟨hp, he, htr, ⟨hv1, hv2, hv3, hv4⟩, hs, hin, ho, ts', hT, hzz, htt, nd', pv, nx, N, hL⟩
    have h2 : 2 < (b :: e :: d :: r).length := by simp
    have i0 := hin _ (nth_mem (i := 0) hL.ne)
    have i1 := hin _ (nth_mem (i := 1) hL.ne)
    have i4 := hin _ (nth_mem (i := (b :: e :: d :: r).length - 1) hL.ne)
    have N0 := N.node _ i0
    have N1 := N.node _ i1
    have N4 := N.node _ i4
    rw [hL.nxt 0, hL.prv0] at N0
    rw [hL.nxt 1, hL.prv 0] at N1
    have hlen : ¬ (b :: e :: d :: r).length ≤ 2 := by omega
    refine loop_turn (useT (b := true) (tr_cmp (Ev.cast (ev_isnotN G N (i := nth (b :: e :: d :: r) ((b :: e :: d :: r).length - 1)) (j := nth (b :: e :: d :: r) 1) (by ktd_rel) (by ktd_rel) i4 i1) (by rw [nth_len hL.nodup hL.ne, decide_eq_false hlen]; rfl))) ?_)
    refine run_cons (run_assign (useV (v := .ref (S.a (nth (b :: e :: d :: r) ((b :: e :: d :: r).length - 1)))) (by ktd_rel) ?_))
    refine run_cons (run_assign (useV (v := .ref (S.a (nth (b :: e :: d :: r) 1))) (by ktd_rel) ?_))
    refine run_cons (run_assign (useV (ev_isear G N hL hin h2 (by ktd_rel) rm2) ?_))
    refine run_cons (run_ifb (b := true) (tr_val (Ev.cast (x := .bool (earP S.P (b :: e :: d :: r))) (by ktd_rel) (by rw [hz]))) (fun _ => ?_) (fun h => by cases h))
    obtain ⟨vs, kk, hTl, hTt⟩ := hT.list
    refine run_push (by ktd_rel) hTl (by rw [List.length_append, hTt.length]; simp at hzz; omega) (.consV (v := .ref (S.p (nth (b :: e :: d :: r) ((b :: e :: d :: r).length - 1)))) (by ktd_rel) (by intro _ _; rfl) (.consV (v := .ref (S.p (nth (b :: e :: d :: r) 0))) (by ktd_rel) (by intro _ _; rfl) (.consV (v := .ref (S.p (nth (b :: e :: d :: r) 1))) (by ktd_rel) (by intro _ _; rfl) .nil))) (by decide) (by rintro _ ⟨_, rfl, _, rfl, _, rfl, rfl⟩; rfl) _ (by rfl) ?_
    rintro _ ⟨_, rfl, _, rfl, _, rfl, rfl⟩ D n₁ nd₁ o₁ h₁ hD _
    have N₁ := TrisIn.nodes hTl N nd' o₁
    have T₁ := TrisIn.push (t := (nth (b :: e :: d :: r) ((b :: e :: d :: r).length - 1), nth (b :: e :: d :: r) 0, nth (b :: e :: d :: r) 1)) hTl hTt nd' o₁ h₁ hD
    have c0 : nth (b :: e :: d :: r) 0 = b := nth_zero
    have c1 : nth (b :: e :: d :: r) 1 = e := by rw [nth_lt (by simp)]; rfl
    have c3 : nth (b :: e :: d :: r) ((b :: e :: d :: r).length - 1) = lst d r := by rw [← lst_cons (x := e), ← lst_cons (x := b), lst_nth]; rfl
    have hei : e < S.k := c1 ▸ i1
    have hbi : b < S.k := c0 ▸ i0
    have hdi : d < S.k := hin _ (by simp)
    have f1 : nx b = e := hL.next
    have f2 : pv b = nth (b :: e :: d :: r) ((b :: e :: d :: r).length - 1) := by rw [← hL.prv0, c0]
    have L₁ := hL.drop
    refine run_cons (run_expr (run_callF g_remove_node k_remove_node (.consV (v := .ref (S.a b)) (by rw [← c0]; ktd_rel) (by intro _ _; rfl) .nil) (fun vs ⟨_, e, e'⟩ => by subst e'; subst e; exact c_remove G N₁ hbi (by rw [f2]; exact i4) (by rw [f1]; exact hei)) rm1 ?_))
    rintro v n₂ nd₂ ⟨rfl, o₂, N₂'⟩
    have T₂ := T₁.node N₁ nd₁ o₂
    have M1 := N₂'.node e hei
    rw [L₁.next] at M1
    rw [c1]
    refine run_cons (run_assign (useV (v := .ref (S.a d)) (by ktd_rel) ?_))
    refine run_cons (run_assign (useV (v := .ref (S.a d)) (by ktd_rel) ?_))
    refine run_cons (run_cont ?_)
    refine ih hg next rm rfl _ _ ⟨by rw [nth_zero]; rfl, rfl, htr, ⟨hv1, hv2, hv3, hv4⟩, hdi, fun i hi => hin i ?_, (ho.trans (o₁.mono tT)).trans (o₂.mono sT), _, T₂, ?_, ?_, nd₂, _, _, N₂', L₁.rot⟩
    · simp at hi ⊢; rcases hi with h | h | h <;> simp [h]
    · simp at hzz ⊢; omega
    · rw [← htt, List.append_assoc]; rw [c0, c1, c3]; rfl
  | @turn g l s t o h2 hz h1 hR ih =>
    rintro m n' ⟨hp, he, htr, ⟨hv1, hv2, hv3, hv4⟩, hs, hin, ho, ts', hT, hzz, htt, nd', pv, nx, N, hL⟩
    have i0 := hin _ (nth_mem (i := 0) hL.ne)
    have i1 := hin _ (nth_mem (i := 1) hL.ne)
    have i4 := hin _ (nth_mem (i := l.length - 1) hL.ne)
    have N0 := N.node _ i0
    have N1 := N.node _ i1
    have N4 := N.node _ i4
    rw [hL.nxt 0, hL.prv0] at N0
    rw [hL.nxt 1, hL.prv 0] at N1
    have hlen : ¬ l.length ≤ 2 := by omega
    refine loop_turn (useT (b := true) (tr_cmp (Ev.cast (ev_isnotN G N (i := nth l (l.length - 1)) (j := nth l 1) (by ktd_rel) (by ktd_rel) i4 i1) (by rw [nth_len hL.nodup hL.ne, decide_eq_false hlen]; rfl))) ?_)
    refine run_cons (run_assign (useV (v := .ref (S.a (nth l (l.length - 1)))) (by ktd_rel) ?_))
    refine run_cons (run_assign (useV (v := .ref (S.a (nth l 1))) (by ktd_rel) ?_))
    refine run_cons (run_assign (useV (ev_isear G N hL hin h2 (by ktd_rel) rm2) ?_))
    refine run_cons (run_ifb (b := false) (tr_val (Ev.cast (x := .bool (earP S.P l)) (by ktd_rel) (by rw [hz]))) (fun h => by cases h) (fun _ => run_nil ?_))
    refine run_cons (run_assign (useV (v := .ref (S.a (nth l 1))) (by ktd_rel) ?_))
    rw [← nth_rot (i := 0)] at *
    have hin' : ∀ i ∈ rot l, i < S.k := fun i hi => hin i (mem_rot.mp hi)
    have j0 := hin' _ (nth_mem (i := 0) (rot_ne hL.ne))
    refine run_cons (run_ifb (b := false) (tr_cmp (Ev.cast (ev_isN G N (i := nth (rot l) 0) (j := s) (by ktd_rel) (by ktd_rel) j0 hs) (by rw [decide_eq_false h1]))) (fun h => by cases h) (fun _ => run_nil (run_nil ?_)))
    exact ih hg next rm rfl _ _ ⟨rfl, he, htr, ⟨hv1, hv2, hv3, hv4⟩, hs, hin', ho, ts', hT, hzz, htt, nd', _, _, N, hL.rot'⟩
  | @last g l s h2 hz h1 g0 g1 =>
    rintro m n' ⟨hp, he, htr, ⟨hv1, hv2, hv3, hv4⟩, hs, hin, ho, ts', hT, hzz, htt, nd', pv, nx, N, hL⟩
    have i0 := hin _ (nth_mem (i := 0) hL.ne)
    have i1 := hin _ (nth_mem (i := 1) hL.ne)
    have i4 := hin _ (nth_mem (i := l.length - 1) hL.ne)
    have N0 := N.node _ i0
    have N1 := N.node _ i1
    have N4 := N.node _ i4
    rw [hL.nxt 0, hL.prv0] at N0
    rw [hL.nxt 1, hL.prv 0] at N1
    have hlen : ¬ l.length ≤ 2 := by omega
    refine loop_turn (useT (b := true) (tr_cmp (Ev.cast (ev_isnotN G N (i := nth l (l.length - 1)) (j := nth l 1) (by ktd_rel) (by ktd_rel) i4 i1) (by rw [nth_len hL.nodup hL.ne, decide_eq_false hlen]; rfl))) ?_)
    refine run_cons (run_assign (useV (v := .ref (S.a (nth l (l.length - 1)))) (by ktd_rel) ?_))
    refine run_cons (run_assign (useV (v := .ref (S.a (nth l 1))) (by ktd_rel) ?_))
    refine run_cons (run_assign (useV (ev_isear G N hL hin h2 (by ktd_rel) rm2) ?_))
    refine run_cons (run_ifb (b := false) (tr_val (Ev.cast (x := .bool (earP S.P l)) (by ktd_rel) (by rw [hz]))) (fun h => by cases h) (fun _ => run_nil ?_))
    refine run_cons (run_assign (useV (v := .ref (S.a (nth l 1))) (by ktd_rel) ?_))
    rw [← nth_rot (i := 0)] at *
    have hin' : ∀ i ∈ rot l, i < S.k := fun i hi => hin i (mem_rot.mp hi)
    have j0 := hin' _ (nth_mem (i := 0) (rot_ne hL.ne))
    refine run_cons (run_ifb (b := true) (tr_cmp (Ev.cast (ev_isN G N (i := nth (rot l) 0) (j := s) (by ktd_rel) (by ktd_rel) j0 hs) (by rw [decide_eq_true h1]))) (fun _ => ?_) (fun h => by cases h))
    refine run_cons (run_ifb (b := false) (tr_not (b' := true) (Ev.cast (tr_valI (i := g) (by ktd_rel)) (by simp; omega))) (fun h => by cases h) (fun _ => ?_))
    refine run_cons (run_ifb (b := false) (tr_cmp (Ev.cast (ev_eq (a := g) (by ktd_rel) ev_int) (by congr 1; simp; omega))) (fun h => by cases h) (fun _ => run_nil (run_nil ?_)))
    refine run_cons (run_brk (run_nil ?_))
    exact ⟨rfl, ho, ⟨_, _, N, hL.rot'⟩, by rw [← htt, List.append_nil]; exact hT⟩
  | @zero l s f t o h2 hz h1 hF hR ih =>
    rintro m n' ⟨hp, he, htr, ⟨hv1, hv2, hv3, hv4⟩, hs, hin, ho, ts', hT, hzz, htt, nd', pv, nx, N, hL⟩
    have i0 := hin _ (nth_mem (i := 0) hL.ne)
    have i1 := hin _ (nth_mem (i := 1) hL.ne)
    have i4 := hin _ (nth_mem (i := l.length - 1) hL.ne)
    have N0 := N.node _ i0
    have N1 := N.node _ i1
    have N4 := N.node _ i4
    rw [hL.nxt 0, hL.prv0] at N0
    rw [hL.nxt 1, hL.prv 0] at N1
    have hlen : ¬ l.length ≤ 2 := by omega
    refine loop_turn (useT (b := true) (tr_cmp (Ev.cast (ev_isnotN G N (i := nth l (l.length - 1)) (j := nth l 1) (by ktd_rel) (by ktd_rel) i4 i1) (by rw [nth_len hL.nodup hL.ne, decide_eq_false hlen]; rfl))) ?_)
    refine run_cons (run_assign (useV (v := .ref (S.a (nth l (l.length - 1)))) (by ktd_rel) ?_))
    refine run_cons (run_assign (useV (v := .ref (S.a (nth l 1))) (by ktd_rel) ?_))
    refine run_cons (run_assign (useV (ev_isear G N hL hin h2 (by ktd_rel) rm2) ?_))
    refine run_cons (run_ifb (b := false) (tr_val (Ev.cast (x := .bool (earP S.P l)) (by ktd_rel) (by rw [hz]))) (fun h => by cases h) (fun _ => run_nil ?_))
    refine run_cons (run_assign (useV (v := .ref (S.a (nth l 1))) (by ktd_rel) ?_))
    rw [← nth_rot (i := 0)] at *
    have hin' : ∀ i ∈ rot l, i < S.k := fun i hi => hin i (mem_rot.mp hi)
    have j0 := hin' _ (nth_mem (i := 0) (rot_ne hL.ne))
    refine run_cons (run_ifb (b := true) (tr_cmp (Ev.cast (ev_isN G N (i := nth (rot l) 0) (j := s) (by ktd_rel) (by ktd_rel) j0 hs) (by rw [decide_eq_true h1]))) (fun _ => ?_) (fun h => by cases h))
    refine run_cons (run_ifb (b := true) (tr_not (b' := false) (Ev.cast (tr_valI (i := (0 : Nat)) (by ktd_rel)) (by rfl))) (fun _ => ?_) (fun h => by cases h))
    refine run_cons (run_expr (run_call g_earcut_linked k_earcut_linked (args_cons (run_callF g_filter_points k_filter_points (.consV (v := .ref (S.a (nth (rot l) 0))) (by ktd_rel) (by intro _ _; rfl) .nil) (fun vs ⟨_, e, e'⟩ => by subst e'; subst e; exact c_filter G N hL.rot' hin' (by rw [h1]; exact hF)) rm2 ?_))))
    rintro v n₁ nd₁ ⟨rfl, o₁, pv₁, nx₁, N₁, L₁⟩
    have T₁ := hT.node N nd' o₁
    have hin₁ : ∀ i ∈ f, i < S.k := fun i hi => hin' i (filt_mem hF i hi)
    refine EvA.args (.consV (v := .ref T) (by ktd_rel) (by intro _ _; rfl) (.consV (v := v1) (by ktd_rel) (by intro _ _; rfl) (.consV (v := v2) (by ktd_rel) (by intro _ _; rfl) (.consV (v := v3) (by ktd_rel) (by intro _ _; rfl) (.consI ev_int (by intro _ _; rfl) .nil))))) ?_
    rintro _ ⟨_, rfl, _, rfl, _, rfl, _, rfl, tk', _, rfl, rfl⟩
    refine (next (by decide) _ _ _ _ _ _ _ v1 v2 v3 tk' N₁ L₁ hin₁ hR T₁ hzz).run (rm.le (by decide)) ?_
    rintro v n₂ nd₂ ⟨rfl, o₂, ex₂, T₂⟩
    refine run_nil ?_
    refine run_cons (run_brk ?_)
    refine run_nil ?_
    exact ⟨rfl, (ho.trans (o₁.mono sT)).trans o₂, ex₂, by rw [← htt]; exact T₂⟩
  | @one l s f g h cs t o h2 hz h1 hF hS hF' hR ih =>
    rintro m n' ⟨hp, he, htr, ⟨hv1, hv2, hv3, hv4⟩, hs, hin, ho, ts', hT, hzz, htt, nd', pv, nx, N, hL⟩
    have i0 := hin _ (nth_mem (i := 0) hL.ne)
    have i1 := hin _ (nth_mem (i := 1) hL.ne)
    have i4 := hin _ (nth_mem (i := l.length - 1) hL.ne)
    have N0 := N.node _ i0
    have N1 := N.node _ i1
    have N4 := N.node _ i4
    rw [hL.nxt 0, hL.prv0] at N0
    rw [hL.nxt 1, hL.prv 0] at N1
    have hlen : ¬ l.length ≤ 2 := by omega
    refine loop_turn (useT (b := true) (tr_cmp (Ev.cast (ev_isnotN G N (i := nth l (l.length - 1)) (j := nth l 1) (by ktd_rel) (by ktd_rel) i4 i1) (by rw [nth_len hL.nodup hL.ne, decide_eq_false hlen]; rfl))) ?_)
    refine run_cons (run_assign (useV (v := .ref (S.a (nth l (l.length - 1)))) (by ktd_rel) ?_))
    refine run_cons (run_assign (useV (v := .ref (S.a (nth l 1))) (by ktd_rel) ?_))
    refine run_cons (run_assign (useV (ev_isear G N hL hin h2 (by ktd_rel) rm2) ?_))
    refine run_cons (run_ifb (b := false) (tr_val (Ev.cast (x := .bool (earP S.P l)) (by ktd_rel) (by rw [hz]))) (fun h => by cases h) (fun _ => run_nil ?_))
    refine run_cons (run_assign (useV (v := .ref (S.a (nth l 1))) (by ktd_rel) ?_))
    rw [← nth_rot (i := 0)] at *
    have hin' : ∀ i ∈ rot l, i < S.k := fun i hi => hin i (mem_rot.mp hi)
    have j0 := hin' _ (nth_mem (i := 0) (rot_ne hL.ne))
    refine run_cons (run_ifb (b := true) (tr_cmp (Ev.cast (ev_isN G N (i := nth (rot l) 0) (j := s) (by ktd_rel) (by ktd_rel) j0 hs) (by rw [decide_eq_true h1]))) (fun _ => ?_) (fun h => by cases h))
    refine run_cons (run_ifb (b := false) (tr_not (b' := true) (Ev.cast (tr_valI (i := (1 : Nat)) (by ktd_rel)) (by rfl))) (fun h => by cases h) (fun _ => ?_))
    refine run_cons (run_ifb (b := true) (tr_cmp (Ev.cast (ev_eq (a := (1 : Nat)) (by ktd_rel) ev_int) (by rfl))) (fun _ => ?_) (fun h => by cases h))
    refine run_cons (run_assign (run_call g_cure_local_intersections k_cure_local_intersections (args_cons (run_callF g_filter_points k_filter_points (.consV (v := .ref (S.a (nth (rot l) 0))) (by ktd_rel) (by intro _ _; rfl) .nil) (fun vs ⟨_, e, e'⟩ => by subst e'; subst e; exact c_filter G N hL.rot' hin' (by rw [h1]; exact hF)) rm2 ?_))))
    rintro v n₁ nd₁ ⟨rfl, o₁, pv₁, nx₁, N₁, L₁⟩
    have T₁ := hT.node N nd' o₁
    have hin₁ : ∀ i ∈ f, i < S.k := fun i hi => hin' i (filt_mem hF i hi)
    have hin₂ : ∀ i ∈ h, i < S.k := fun i hi => hin₁ i (swp_mem hS i (filt_mem hF' i hi))
    refine EvA.args (.consV (v := .ref T) (by ktd_rel) (by intro _ _; rfl) .nil) ?_
    rintro _ ⟨_, rfl, rfl⟩
    refine (c_cure G N₁ L₁ hin₁ hS hF' T₁ (by rw [List.length_append] at hzz; omega)).run rm3 ?_
    rintro v n₂ nd₂ ⟨rfl, o₂, ⟨pv₂, nx₂, N₂, L₂⟩, T₂⟩
    refine run_cons (run_expr (run_callF g_earcut_linked k_earcut_linked (.consV (v := .ref (S.a (nth h 0))) (by ktd_rel) (by intro _ _; rfl) (.consV (v := .ref T) (by ktd_rel) (by intro _ _; rfl) (.consV (v := v1) (by ktd_rel) (by intro _ _; rfl) (.consV (v := v2) (by ktd_rel) (by intro _ _; rfl) (.consV (v := v3) (by ktd_rel) (by intro _ _; rfl) (.consI ev_int (by intro _ _; rfl) .nil)))))) ?_ (rm.le (by decide)) ?_ (k := 4) (Post := LinkPost S T base ((ts' ++ cs) ++ t) o n₂)))
    · rintro _ ⟨_, rfl, _, rfl, _, rfl, _, rfl, _, rfl, tk', _, rfl, rfl⟩
      exact next (by decide) _ _ _ _ _ _ _ v1 v2 v3 tk' N₂ L₂ hin₂ hR T₂ (by rw [List.length_append] at hzz ⊢; omega)
    rintro v n₃ nd₃ ⟨rfl, o₃, ex₃, T₃⟩
    refine run_nil ?_
    refine run_nil ?_
    refine run_cons (run_brk ?_)
    refine run_nil ?_
    exact ⟨rfl, ((ho.trans (o₁.mono sT)).trans o₂).trans o₃, ex₃, by rw [← htt, ← List.append_assoc]; exact T₃⟩
theorem link2 {S : Sh} {T : Addr} {base : List Value} (G : S.Good) : LinkOk S T base 2 := c_link G (by decide) fun h => absurd h (by decide)
theorem link1 {S : Sh} {T : Addr} {base : List Value} (G : S.Good) : LinkOk S T base 1 := c_link G (by decide) fun _ => link2 G
theorem link {S : Sh} {T : Addr} {base : List Value} {g : Nat} (G : S.Good) (hg : g ≤ 2) : LinkOk S T base g := by
  match g, hg with
  | 0, _ => exact c_link G (by decide) fun _ => link1 G
  | 1, _ => exact link1 G
  | 2, _ => exact link2 G
end
end Mine
namespace Mine
local macro_rules | `(tactic| ktd_rel) => `(tactic| first
  | with_reducible exact ev_int
  | with_reducible exact ev_none
  | with_reducible exact ev_bool
  | ((with_reducible refine' ev_localI ?ka ?kl ?kk ?kx ?kd); (case ka => first | rfl | assumption); (case kl => rfl); (case kk => rfl); (case kx => rfl); (case kd => decide))
  | ((with_reducible refine' ev_local ?ka ?kl ?kk ?kx ?kd); (case ka => first | rfl | assumption); (case kl => rfl); (case kk => rfl); (case kx => rfl); (case kd => decide))
  | ((with_reducible refine' ev_add ?ka ?kb); (case ka => ktd_rel); (case kb => ktd_rel))
  | ((with_reducible refine' ev_sub ?ka ?kb); (case ka => ktd_rel); (case kb => ktd_rel))
  | ((with_reducible refine' ev_lt ?ka ?kb); (case ka => ktd_rel); (case kb => ktd_rel))
  | ((with_reducible refine' ev_le ?ka ?kb); (case ka => ktd_rel); (case kb => ktd_rel))
  | ((with_reducible refine' ev_gt ?ka ?kb); (case ka => ktd_rel); (case kb => ktd_rel))
  | ((with_reducible refine' ev_ge ?ka ?kb); (case ka => ktd_rel); (case kb => ktd_rel))
  | ((with_reducible refine' ev_eq ?ka ?kb); (case ka => ktd_rel); (case kb => ktd_rel))
  | ((with_reducible refine' ev_ne ?ka ?kb); (case ka => ktd_rel); (case kb => ktd_rel))
  | ((with_reducible refine' ev_neg ?ka); (case ka => ktd_rel))
  | ((with_reducible refine' ev_x ?ka ?kN ?kb); (case ka => ktd_rel); (case kN => with_reducible assumption); (case kb => rfl))
  | ((with_reducible refine' ev_y ?ka ?kN ?kb); (case ka => ktd_rel); (case kN => with_reducible assumption); (case kb => rfl))
  | ((with_reducible refine' ev_pt ?ka ?kN ?kb); (case ka => ktd_rel); (case kN => with_reducible assumption); (case kb => rfl))
  | ((with_reducible refine' ev_prev ?ka ?kN ?kb); (case ka => ktd_rel); (case kN => with_reducible assumption); (case kb => rfl))
  | ((with_reducible refine' ev_next ?ka ?kN ?kb); (case ka => ktd_rel); (case kN => with_reducible assumption); (case kb => rfl))
  | ((with_reducible refine' tr_cmp ?ka ?kb); (case ka => ktd_rel); (case kb => rfl))
  | fail "ev")
section
variable {c : Cfg} {m : Loc} {n : Led} {env : Env}
theorem putN_new {es : List DictEntry} {name : Str} {k : Nat} (h : getL name es = some none) : putN name es k = k + 1 := by
  unfold putN
  rw [if_neg]
  intro ha
  obtain ⟨e, he, hk⟩ := List.any_eq_true.mp ha
  unfold getL at h
  cases hf : List.find? (fun x => x.key.isStr name) es with
  | some e => rw [hf] at h; simp at h
  | none => have := List.find?_eq_none.mp hf e he; exact this hk
theorem putL_length_new {es : List DictEntry} {name : Str} {hsh : Int} {key v : Value} (h : getL name es = some none) : (putL name hsh key v es).length = es.length + 1 := by
  induction es with
  | nil => rfl
  | cons e r ih =>
    rw [getL_cons] at h
    unfold putL
    by_cases hk : e.key.isStr name = true
    · rw [if_pos hk] at h; simp at h
    · rw [if_neg hk] at h ⊢
      rw [List.length_cons, List.length_cons, ih]
      revert h
      cases getL name r with
      | none => intro h; simp at h
      | some o => cases o with
        | none => intro _; rfl
        | some x => intro h; simp at h
/-- a fresh field -/
theorem run_setnew {a d C : Addr} {es : List DictEntry} {k : Nat} {name : Str} {v : Value} {Q : Unit → Loc → Led → Prop} (hs : SetOk C name) (hi : (a, instObj C d) ∈ n) (hdd : (d, dictOf es k) ∈ n)
    (hl : getL name es = some none) (hz : es.length ≤ 900)
    (h : ∀ es' n', Keys n' → Only [d] n n' → (a, instObj C d) ∈ n' → (d, dictOf es' (k + 1)) ∈ n' → es'.length = es.length + 1 → (∀ x, getL x es' = if x = name then some (some v) else getL x es) → Q () m n') : Run c m n (setAttr (.ref a) name v) Q := Run.nd fun nd => by
  refine run_setattr hs hi hdd (by rw [hl]; rfl) hz fun hsh t => ?_
  rw [putN_new hl]
  exact h _ _ (nd.put _ _) (fun r hr e => mem_put_other hr (by simpa using e)) (mem_put_other hi (key_ne nd hi hdd inst_ne_dict)) (mem_put_same hdd) (putL_length_new hl) fun x => getL_put
theorem m_Point : ∀ P, makesIn (hd.heap_39 P) 31 = true := fun _ => by rfl
theorem i_Point : ∀ P, findIn (hd.heap_39 P) (.ref 31) "__init__" = some (some (.ref 28)) := fun _ => by rfl
theorem f_Point : ∀ P, isFn (hd.heap_39 P) (.ref 28) = true := fun _ => by rfl
theorem m_Node : ∀ P, makesIn (hd.heap_39 P) 59 = true := fun _ => by rfl
theorem i_Node : ∀ P, findIn (hd.heap_39 P) (.ref 59) "__init__" = some (some (.ref 49)) := fun _ => by rfl
theorem f_Node : ∀ P, isFn (hd.heap_39 P) (.ref 49) = true := fun _ => by rfl
theorem c_ptinit {n : Led} {a d : Addr} {x y : Int} {t u : Tok} (hi : (a, instObj 31 d) ∈ n) (hdd : (d, dictOf [] 0) ∈ n) : Fn 1 28 [.ref a, .int x t, .int y u] [] n (fun v n' => v = .none ∧ Only [d] n n' ∧ PtIn n' a d x y) := by
  refine fn_enter (binds := [("self", .ref a), ("x", .int x t), ("y", .int y u)]) (fun _ => by rfl) (fun _ => by rfl) (fun _ _ _ => BindsTo.of_eq (by rfl)) (by rfl) (by rfl) (by rfl) (by rfl) (by rfl) ?_
  intro c ok rm nd
  refine run_cons (run_assignattr (useI (i := x) (by ktd_rel) fun t' => useV (v := .ref a) (by ktd_rel) (run_setnew sp_x hi hdd (by rfl) (by decide) fun es₁ n₁ nd₁ o₁ hi₁ hd₁ l₁ F₁ => ?_)))
  refine run_cons (run_assignattr (useI (i := y) (by ktd_rel) fun t'' => useV (v := .ref a) (by ktd_rel) (run_setnew sp_y hi₁ hd₁ (by rw [F₁]; rfl) (by rw [l₁]; decide) fun es₂ n₂ nd₂ o₂ hi₂ hd₂ l₂ F₂ => ?_)))
  exact run_nil ⟨rfl, o₁.trans o₂, ⟨hi₂, es₂, _, hd₂, ⟨t', by rw [F₂, F₁]; rfl⟩, t'', by rw [F₂]; rfl⟩⟩
theorem c_ninit {n : Led} {a d p dp : Addr} {x y i : Int} {t : Tok} (hi : (a, instObj 59 d) ∈ n) (hdd : (d, dictOf [] 0) ∈ n) (hp : PtIn n p dp x y) (hne : dp ≠ d) (hne' : p ≠ d) : Fn 1 49 [.ref a, .int i t, .ref p] [] n (fun v n' => v = .none ∧ Only [d] n n' ∧ NodeIn n' a d p x y .none .none) := by
  refine fn_enter (binds := [("self", .ref a), ("i", .int i t), ("point", .ref p)]) (fun _ => by rfl) (fun _ => by rfl) (fun _ _ _ => BindsTo.of_eq (by rfl)) (by rfl) (by rfl) (by rfl) (by rfl) (by rfl) ?_
  intro c ok rm nd
  have keep : ∀ {n'}, Only [d] n n' → PtIn n' p dp x y := fun o => let ⟨es, k, h1, h2⟩ := hp.dict; ⟨o _ hp.inst (by simpa using hne'), es, k, o _ h1 (by simpa using hne), h2⟩
  refine run_cons (run_assignattr (useI (i := i) (by ktd_rel) fun t1 => useV (v := .ref a) (by ktd_rel) (run_setnew so_i hi hdd (by rfl) (by decide) fun es₁ n₁ nd₁ o₁ hi₁ hd₁ l₁ F₁ => ?_)))
  refine run_cons (run_assignattr (useV (v := .ref p) (by ktd_rel) (useV (v := .ref a) (by ktd_rel) (run_setnew so_point hi₁ hd₁ (by rw [F₁]; rfl) (by rw [l₁]; decide) fun es₂ n₂ nd₂ o₂ hi₂ hd₂ l₂ F₂ => ?_))))
  have p₂ := keep (o₁.trans o₂)
  refine run_cons (run_assignattr (useI (i := x) (ev_px (a := p) (by ktd_rel) p₂) fun t3 => useV (v := .ref a) (by ktd_rel) (run_setnew so_x hi₂ hd₂ (by rw [F₂, F₁]; rfl) (by rw [l₂, l₁]; decide) fun es₃ n₃ nd₃ o₃ hi₃ hd₃ l₃ F₃ => ?_)))
  have p₃ := keep ((o₁.trans o₂).trans o₃)
  refine run_cons (run_assignattr (useI (i := y) (ev_py (a := p) (by ktd_rel) p₃) fun t4 => useV (v := .ref a) (by ktd_rel) (run_setnew so_y hi₃ hd₃ (by rw [F₃, F₂, F₁]; rfl) (by rw [l₃, l₂, l₁]; decide) fun es₄ n₄ nd₄ o₄ hi₄ hd₄ l₄ F₄ => ?_)))
  refine run_cons (run_assignattr (useV ev_none (useV (v := .ref a) (by ktd_rel) (run_setnew so_prev hi₄ hd₄ (by rw [F₄, F₃, F₂, F₁]; rfl) (by rw [l₄, l₃, l₂, l₁]; decide) fun es₅ n₅ nd₅ o₅ hi₅ hd₅ l₅ F₅ => ?_))))
  refine run_cons (run_assignattr (useV ev_none (useV (v := .ref a) (by ktd_rel) (run_setnew so_next hi₅ hd₅ (by rw [F₅, F₄, F₃, F₂, F₁]; rfl) (by rw [l₅, l₄, l₃, l₂, l₁]; decide) fun es₆ n₆ nd₆ o₆ hi₆ hd₆ l₆ F₆ => ?_))))
  refine run_cons (run_assignattr (useI ev_int fun t7 => (useV (v := .ref a) (by ktd_rel) (run_setnew so_z hi₆ hd₆ (by rw [F₆, F₅, F₄, F₃, F₂, F₁]; rfl) (by rw [l₆, l₅, l₄, l₃, l₂, l₁]; decide) fun es₇ n₇ nd₇ o₇ hi₇ hd₇ l₇ F₇ => ?_))))
  refine run_cons (run_assignattr (useV ev_none (useV (v := .ref a) (by ktd_rel) (run_setnew so_pz hi₇ hd₇ (by rw [F₇, F₆, F₅, F₄, F₃, F₂, F₁]; rfl) (by rw [l₇, l₆, l₅, l₄, l₃, l₂, l₁]; decide) fun es₈ n₈ nd₈ o₈ hi₈ hd₈ l₈ F₈ => ?_))))
  refine run_cons (run_assignattr (useV ev_none (useV (v := .ref a) (by ktd_rel) (run_setnew so_nz hi₈ hd₈ (by rw [F₈, F₇, F₆, F₅, F₄, F₃, F₂, F₁]; rfl) (by rw [l₈, l₇, l₆, l₅, l₄, l₃, l₂, l₁]; decide) fun es₉ n₉ nd₉ o₉ hi₉ hd₉ l₉ F₉ => ?_))))
  refine run_cons (run_assignattr (useV ev_bool (useV (v := .ref a) (by ktd_rel) (run_setnew so_st hi₉ hd₉ (by rw [F₉, F₈, F₇, F₆, F₅, F₄, F₃, F₂, F₁]; rfl) (by rw [l₉, l₈, l₇, l₆, l₅, l₄, l₃, l₂, l₁]; decide) fun es n' nd' o' hi' hd' l' F' => ?_))))
  have o := ((((((((o₁.trans o₂).trans o₃).trans o₄).trans o₅).trans o₆).trans o₇).trans o₈).trans o₉).trans o'
  refine run_nil ⟨rfl, o, hi', es, hd', ?_⟩
  constructor
  · rw [l', l₉, l₈, l₇, l₆, l₅, l₄, l₃, l₂, l₁]; rfl
  · rw [F', F₉, F₈, F₇, F₆, F₅, F₄, F₃, F₂]; rfl
  · exact ⟨t3, by rw [F', F₉, F₈, F₇, F₆, F₅, F₄, F₃]; rfl⟩
  · exact ⟨t4, by rw [F', F₉, F₈, F₇, F₆, F₅, F₄]; rfl⟩
  · rw [F', F₉, F₈, F₇, F₆, F₅]; rfl
  · rw [F', F₉, F₈, F₇, F₆]; rfl
  · rw [F', F₉, F₈]; rfl
  · rw [F', F₉]; rfl
  · rw [F']; rfl
end
end Mine
namespace Mine
local macro_rules | `(tactic| ktd_rel) => `(tactic| first
  | with_reducible exact ev_int
  | with_reducible exact ev_none
  | with_reducible exact ev_bool
  | ((with_reducible refine' ev_localI ?ka ?kl ?kk ?kx ?kd); (case ka => first | rfl | assumption); (case kl => rfl); (case kk => rfl); (case kx => rfl); (case kd => decide))
  | ((with_reducible refine' ev_local ?ka ?kl ?kk ?kx ?kd); (case ka => first | rfl | assumption); (case kl => rfl); (case kk => rfl); (case kx => rfl); (case kd => decide))
  | ((with_reducible refine' ev_add ?ka ?kb); (case ka => ktd_rel); (case kb => ktd_rel))
  | ((with_reducible refine' ev_sub ?ka ?kb); (case ka => ktd_rel); (case kb => ktd_rel))
  | ((with_reducible refine' ev_lt ?ka ?kb); (case ka => ktd_rel); (case kb => ktd_rel))
  | ((with_reducible refine' ev_le ?ka ?kb); (case ka => ktd_rel); (case kb => ktd_rel))
  | ((with_reducible refine' ev_gt ?ka ?kb); (case ka => ktd_rel); (case kb => ktd_rel))
  | ((with_reducible refine' ev_ge ?ka ?kb); (case ka => ktd_rel); (case kb => ktd_rel))
  | ((with_reducible refine' ev_eq ?ka ?kb); (case ka => ktd_rel); (case kb => ktd_rel))
  | ((with_reducible refine' ev_ne ?ka ?kb); (case ka => ktd_rel); (case kb => ktd_rel))
  | ((with_reducible refine' ev_neg ?ka); (case ka => ktd_rel))
  | ((with_reducible refine' ev_x ?ka ?kN ?kb); (case ka => ktd_rel); (case kN => with_reducible assumption); (case kb => rfl))
  | ((with_reducible refine' ev_y ?ka ?kN ?kb); (case ka => ktd_rel); (case kN => with_reducible assumption); (case kb => rfl))
  | ((with_reducible refine' ev_pt ?ka ?kN ?kb); (case ka => ktd_rel); (case kN => with_reducible assumption); (case kb => rfl))
  | ((with_reducible refine' ev_prev ?ka ?kN ?kb); (case ka => ktd_rel); (case kN => with_reducible assumption); (case kb => rfl))
  | ((with_reducible refine' ev_next ?ka ?kN ?kb); (case ka => ktd_rel); (case kN => with_reducible assumption); (case kb => rfl))
  | ((with_reducible refine' tr_cmp ?ka ?kb); (case ka => ktd_rel); (case kb => rfl))
  | fail "ev")
def Sh.set (S : Sh) (q : Nat) (a d : Addr) : Sh := { S with a := updf S.a q a, d := updf S.d q d }
theorem updf_same {f : Nat → Nat} {i v : Nat} : updf f i v i = v := by unfold updf; rw [if_pos rfl]
theorem updf_ne {f : Nat → Nat} {i j v : Nat} (h : j ≠ i) : updf f i v j = f j := by unfold updf; rw [if_neg h]
structure NdsOn (n : Led) (S : Sh) (pv nx : Nat → Nat) (l : List Nat) : Prop where
  node : ∀ i, i ∈ l → NodeIn n (S.a i) (S.d i) (S.p i) (S.P i).1 (S.P i).2 (.ref (S.a (pv i))) (.ref (S.a (nx i)))
  ia : ∀ i j, i ∈ l → j ∈ l → S.a i = S.a j → i = j
  id : ∀ i j, i ∈ l → j ∈ l → S.d i = S.d j → i = j
def RingOn (n : Led) (S : Sh) (l : List Nat) (last : Value) : Prop := (l = [] ∧ last = .none) ∨ ∃ x r pv nx, l = x :: r ∧ NdsOn n S pv nx l ∧ Lk pv nx l ∧ last = .ref (S.a (lst x r))
theorem NdsOn.a_ne_d {n : Led} {S : Sh} {pv nx : Nat → Nat} {l : List Nat} (N : NdsOn n S pv nx l) (nd : Keys n) {i j : Nat} (hi : i ∈ l) (hj : j ∈ l) : S.a i ≠ S.d j := by
  obtain ⟨es, h, _⟩ := (N.node j hj).dict
  exact key_ne nd (N.node i hi).inst h (inst_ne_dict)
theorem NdsOn.setPrev {n n' : Led} {S : Sh} {pv nx : Nat → Nat} {l : List Nat} {i j : Nat} (N : NdsOn n S pv nx l) (nd : Keys n) (hi : i ∈ l) (h : Only [S.d i] n n') (hn : NodeIn n' (S.a i) (S.d i) (S.p i) (S.P i).1 (S.P i).2 (.ref (S.a j)) (.ref (S.a (nx i)))) : NdsOn n' S (updf pv i j) nx l := ⟨fun q hq => by
  by_cases e : q = i
  · subst e; rw [updf_same]; exact hn
  · rw [updf_ne e]
    refine (N.node q hq).other h ?_ ?_
    · simpa using N.a_ne_d nd hq hi
    · simp only [List.mem_singleton]; exact fun e' => e (N.id _ _ hq hi e'), N.ia, N.id⟩
theorem NdsOn.setNext {n n' : Led} {S : Sh} {pv nx : Nat → Nat} {l : List Nat} {i j : Nat} (N : NdsOn n S pv nx l) (nd : Keys n) (hi : i ∈ l) (h : Only [S.d i] n n') (hn : NodeIn n' (S.a i) (S.d i) (S.p i) (S.P i).1 (S.P i).2 (.ref (S.a (pv i))) (.ref (S.a j))) : NdsOn n' S pv (updf nx i j) l := ⟨fun q hq => by
  by_cases e : q = i
  · subst e; rw [updf_same]; exact hn
  · rw [updf_ne e]
    refine (N.node q hq).other h ?_ ?_
    · simpa using N.a_ne_d nd hq hi
    · simp only [List.mem_singleton]; exact fun e' => e (N.id _ _ hq hi e'), N.ia, N.id⟩
theorem mem_nth {l : List Nat} {i : Nat} (h : i ∈ l) : ∃ j, j < l.length ∧ nth l j = i := by
  obtain ⟨j, hj, e⟩ := List.mem_iff_getElem.mp h
  exact ⟨j, hj, by rw [nth_lt hj, e]⟩
theorem Lk.nx_mem {pv nx : Nat → Nat} {l : List Nat} (h : Lk pv nx l) {i : Nat} (hi : i ∈ l) : nx i ∈ l := by
  obtain ⟨j, hj, e⟩ := mem_nth hi
  rw [← e, h.nxt j]; exact nth_mem h.ne
theorem Lk.pv_mem {pv nx : Nat → Nat} {l : List Nat} (h : Lk pv nx l) {i : Nat} (hi : i ∈ l) : pv i ∈ l := by
  obtain ⟨j, hj, e⟩ := mem_nth hi
  cases j with
  | zero => rw [← e, h.prv0]; exact nth_mem h.ne
  | succ j => rw [← e, h.prv j]; exact nth_mem h.ne
/-- a node comes in behind the last one -/
theorem Lk.ins {pv nx : Nat → Nat} {x q : Nat} {r : List Nat} (h : Lk pv nx (x :: r)) (hq : q ∉ x :: r) : Lk (updf (updf pv q (lst x r)) x q) (updf (updf nx q x) (lst x r) q) (x :: (r ++ [q])) := by
  obtain ⟨nd, p⟩ := h
  have hxq : x ≠ q := fun e => hq (by simp [e])
  have hlq : lst x r ≠ q := fun e => hq (e ▸ lst_mem)
  refine ⟨?_, ?_⟩
  · rw [← List.cons_append]
    exact (List.perm_append_comm (l₁ := x :: r) (l₂ := [q])).symm.nodup (List.nodup_cons.mpr ⟨hq, nd⟩)
  · have p0 : Pth (updf (updf pv q (lst x r)) x q) (updf (updf nx q x) (lst x r) q) x r := Pth.upd p.init nd (fun i hi e => by rw [updf_ne e, updf_ne (fun e' : i = q => hq (e' ▸ hi))]) (fun i hi => by
      rw [updf_ne (fun e : i = x => (List.nodup_cons.mp nd).1 (e ▸ hi)), updf_ne (fun e : i = q => hq (e ▸ List.mem_cons_of_mem _ hi))])
    have p1 := Pth.snoc' p0 (w := q) (by rw [updf_same]) (by rw [updf_ne (Ne.symm hxq), updf_same])
    exact Pth.snoc' p1 (w := x) (by rw [lst_snoc, updf_ne (Ne.symm hlq), updf_same]) (by rw [lst_snoc, updf_same])
section
variable {c : Cfg} {m : Loc} {n : Led} {env : Env}
theorem run_node {x : Str} {pos' np pos cp : Pos} {e1 e2 : Expr} {i : Int} {p dp : Addr} {X Y : Int} {rest : List Stmt} {Q : Flow → Loc → Led → Prop} (h1 : EvI c m n env e1 i) (h2 : EvV c m n env e2 (.ref p)) (hp : PtIn n p dp X Y) (rm : Room 3 c)
    (q : ∀ a d n', Keys n' → Only [] n n' → (∀ p ∈ n, p.1 < d) → d < a → NodeIn n' a d p X Y .none .none → Run c (upd m x (.ref a)) n' (execs rest env) Q) (hg : env.globals = mainGlobals := by rfl) (hke : env.scope.kind = .function := by rfl)
    (hx : env.kindOf "Node" = some .globalImplicit := by rfl) (hl : env.locals = c.L := by rfl) (hxl : env.kindOf x = some .local := by rfl) (n1 : NotStar e1 := by intro _ _; rfl) (n2 : NotStar e2 := by intro _ _; rfl)
    (hs : swapsWith (.Call (.Name "Node" np) [e1, e2] [] cp) (some (.Name x pos')) pos.line env = Pure.pure false := by rfl) :
    Run c m n (execs (.Assign [.Name x pos'] (.Call (.Name "Node" np) [e1, e2] [] cp) pos :: rest) env) Q := by
  refine run_cons (run_assign (run_call g_Node k_Node (EvA.args (.consI h1 n1 (.consV h2 n2 .nil)) ?_) hg hke hx (by decide) (n1 _ _) ?_) hl hke hxl hs)
  · rintro _ ⟨t, _, rfl, _, rfl, rfl⟩
    refine run_make rm m_Node i_Node f_Node fun a d l1 l2 => ?_
    have hp' : PtIn ((a, instObj 59 d) :: (d, dictOf [] 0) :: n) p dp X Y := hp.sub fun q hq => List.mem_cons_of_mem _ (List.mem_cons_of_mem _ hq)
    have ne1 : dp ≠ d := by obtain ⟨es, k, h, _⟩ := hp.dict; exact Nat.ne_of_lt (l1 _ h)
    have ne2 : p ≠ d := Nat.ne_of_lt (l1 _ hp.inst)
    have hN := c_ninit (i := i) (t := t) (a := a) (n := (a, instObj 59 d) :: (d, dictOf [] 0) :: n) (List.mem_cons_self ..) (List.mem_cons_of_mem _ (List.mem_cons_self ..)) hp' ne1 ne2
    refine hN.mono (Nat.le_refl _) ?_
    · rintro v n' nd' ⟨hv, o, N⟩
      exact ⟨hv, q a d n' nd' (fun r hr _ => o r (List.mem_cons_of_mem _ (List.mem_cons_of_mem _ hr)) (by simpa using Nat.ne_of_lt (l1 _ hr))) l1 l2 N⟩
  · rw [n2]; rfl
theorem c_insert {n : Led} {S : Sh} {l : List Nat} {last : Value} {q : Nat} {dq : Addr} {i : Int} {t : Tok} (R : RingOn n S l last) (hq : q ∉ l) (hp : PtIn n (S.p q) dq (S.P q).1 (S.P q).2) :
    Fn 4 119 [.int i t, .ref (S.p q), last] [] n (fun v n' => ∃ a d, v = .ref a ∧ (∀ p ∈ n, p.1 < d) ∧ d < a ∧ Only (l.map S.d) n n' ∧ RingOn n' (S.set q a d) (l ++ [q]) (.ref a)) := by
  refine fn_enter (binds := [("i", .int i t), ("point", .ref (S.p q)), ("last", last)]) (fun _ => by rfl) (fun _ => by rfl) (fun _ _ _ => BindsTo.of_eq (by rfl)) (by rfl) (by rfl) (by rfl) (by rfl) (by rfl) ?_
  intro c ok rm nd
  refine run_node (i := i) (p := S.p q) (by ktd_rel) (by ktd_rel) hp rm ?_
  intro a d n₁ nd₁ o₁ l1 l2 N₁
  rcases R with ⟨rfl, rfl⟩ | ⟨x, r, pv, nx, rfl, N, hL, rfl⟩
  · refine run_cons (run_ifb (tr_cmp (ev_isNone (v := .none) (by ktd_rel))) (fun _ => ?_) (fun h => by cases h))
    refine run_cons (run_assignattr (useV (v := .ref a) (by ktd_rel) (useV (v := .ref a) (by ktd_rel) (run_setprev N₁ fun n₂ nd₂ o₂ N₂ => ?_))))
    refine run_cons (run_assignattr (useV (v := .ref a) (by ktd_rel) (useV (v := .ref a) (by ktd_rel) (run_setnext N₂ fun n₃ nd₃ o₃ N₃ => run_nil ?_))))
    refine run_cons (run_ret (useV (v := .ref a) (by ktd_rel) ⟨a, d, rfl, l1, l2, ?_, .inr ⟨q, [], id, id, rfl, ⟨?_, ?_, ?_⟩, ?_, ?_⟩⟩))
    · exact fun p hp e => o₃ p (o₂ p (o₁ p hp (by simp)) (by simpa using Nat.ne_of_lt (l1 p hp))) (by simpa using Nat.ne_of_lt (l1 p hp))
    · intro i hi
      have : i = q := by simpa using hi
      subst this
      show NodeIn n₃ (updf S.a i a i) (updf S.d i d i) (S.p i) (S.P i).1 (S.P i).2 (.ref (updf S.a i a (id i))) (.ref (updf S.a i a (id i)))
      rw [show id i = i from rfl, updf_same, updf_same]; exact N₃
    · intro i j hi hj _; rw [List.mem_singleton.mp hi, List.mem_singleton.mp hj]
    · intro i j hi hj _; rw [List.mem_singleton.mp hi, List.mem_singleton.mp hj]
    · exact ⟨by simp, rfl, rfl, trivial⟩
    · show Value.ref a = .ref (updf S.a q a q); rw [updf_same]
  · have hx : x ∈ x :: r := List.mem_cons_self ..
    have he : lst x r ∈ x :: r := lst_mem
    refine run_cons (run_ifb (tr_cmp (ev_isNone (v := .ref (S.a (lst x r))) (by ktd_rel))) (fun h => by cases h) (fun _ => ?_))
    have e0 : ∀ i ∈ x :: r, i ≠ q := fun i hi e => hq (e ▸ hi)
    have sa : ∀ i ∈ x :: r, (S.set q a d).a i = S.a i := fun i hi => updf_ne (e0 i hi)
    have sd : ∀ i ∈ x :: r, (S.set q a d).d i = S.d i := fun i hi => updf_ne (e0 i hi)
    have saq : (S.set q a d).a q = a := updf_same
    have sdq : (S.set q a d).d q = d := updf_same
    have la : ∀ i ∈ x :: r, S.a i < d := fun i hi => l1 _ (N.node i hi).inst
    have ld : ∀ i ∈ x :: r, S.d i < d := fun i hi => by obtain ⟨es, h, _⟩ := (N.node i hi).dict; exact l1 _ h
    have Ne₁ := (N.node _ he).other o₁ (by simp) (by simp)
    rw [hL.lnext] at Ne₁
    refine run_cons (run_assignattr (useV (v := .ref (S.a x)) (by ktd_rel) (useV (v := .ref a) (by ktd_rel) (run_setnext N₁ fun n₂ nd₂ o₂ N₂ => ?_))))
    refine run_cons (run_assignattr (useV (v := .ref (S.a (lst x r))) (by ktd_rel) (useV (v := .ref a) (by ktd_rel) (run_setprev N₂ fun n₃ nd₃ o₃ N₃ => ?_))))
    have M₃ : NdsOn n₃ (S.set q a d) (updf pv q (lst x r)) (updf nx q x) (x :: (r ++ [q])) := by
      have mem : ∀ i, i ∈ x :: (r ++ [q]) → i ∈ x :: r ∨ i = q := fun i hi => by
        rw [← List.cons_append] at hi
        exact (List.mem_append.mp hi).imp_right List.mem_singleton.mp
      refine ⟨fun i hi => ?_, fun i j hi hj h => ?_, fun i j hi hj h => ?_⟩
      · rcases mem i hi with hi | rfl
        · rw [updf_ne (e0 i hi), updf_ne (e0 i hi), sa i hi, sd i hi, sa _ (hL.pv_mem hi), sa _ (hL.nx_mem hi)]
          exact ((N.node i hi).other o₁ (by simp) (by simp)).other (o₂.trans o₃) (by simpa using Nat.ne_of_lt (la i hi)) (by simpa using Nat.ne_of_lt (ld i hi))
        · rw [updf_same, updf_same, saq, sdq, sa _ hx, sa _ he]; exact N₃
      · rcases mem i hi with hi' | e1 <;> rcases mem j hj with hj' | e2
        · rw [sa i hi', sa j hj'] at h; exact N.ia _ _ hi' hj' h
        · rw [sa i hi', e2, saq] at h; exact absurd h (Nat.ne_of_lt (Nat.lt_trans (la i hi') l2))
        · rw [sa j hj', e1, saq] at h; exact absurd h.symm (Nat.ne_of_lt (Nat.lt_trans (la j hj') l2))
        · rw [e1, e2]
      · rcases mem i hi with hi' | e1 <;> rcases mem j hj with hj' | e2
        · rw [sd i hi', sd j hj'] at h; exact N.id _ _ hi' hj' h
        · rw [sd i hi', e2, sdq] at h; exact absurd h (Nat.ne_of_lt (ld i hi'))
        · rw [sd j hj', e1, sdq] at h; exact absurd h.symm (Nat.ne_of_lt (ld j hj'))
        · rw [e1, e2]
    have hx' : x ∈ x :: (r ++ [q]) := List.mem_cons_self ..
    have he' : lst x r ∈ x :: (r ++ [q]) := by rw [← List.cons_append]; exact List.mem_append_left _ he
    have Nx₃ := M₃.node x hx'
    have Ne₃ := M₃.node _ he'
    rw [updf_ne (f := nx) (e0 _ he), hL.lnext, sa _ he, sa x hx] at Ne₃
    rw [sa x hx] at Nx₃
    refine run_cons (run_assignattr (useV (v := .ref a) (by ktd_rel) (useV (v := .ref (S.a x)) (by ktd_rel) (run_setprev Nx₃ fun n₄ nd₄ o₄ N₄ => ?_))))
    have M₄ := M₃.setPrev (j := q) nd₃ hx' o₄ (by rw [saq, sa x hx]; exact N₄)
    have Ne₄ := M₄.node _ he'
    rw [sa _ he] at Ne₄
    refine run_cons (run_assignattr (useV (v := .ref a) (by ktd_rel) (useV (v := .ref (S.a (lst x r))) (by ktd_rel) (run_setnext Ne₄ fun n₅ nd₅ o₅ N₅ => run_nil ?_))))
    have M₅ := M₄.setNext (j := q) nd₄ he' o₅ (by rw [saq, sa _ he]; exact N₅)
    refine run_cons (run_ret (useV (v := .ref a) (by ktd_rel) ⟨a, d, rfl, l1, l2, ?_, .inr ⟨x, r ++ [q], _, _, rfl, M₅, hL.ins hq, ?_⟩⟩))
    · intro p hp e
      have h1 := Nat.ne_of_lt (l1 p hp)
      have h2 : p.1 ≠ S.d x := fun e' => e (e' ▸ List.mem_map_of_mem hx)
      have h3 : p.1 ≠ S.d (lst x r) := fun e' => e (e' ▸ List.mem_map_of_mem he)
      refine o₅ p (o₄ p (o₃ p (o₂ p (o₁ p hp (by simp)) (by simpa using h1)) (by simpa using h1)) ?_) ?_
      · rw [sd x hx]; simpa using h2
      · rw [sd _ he]; simpa using h3
    · rw [lst_snoc, saq]
end
end Mine
namespace Mine
local macro_rules | `(tactic| ktd_rel) => `(tactic| first
  | with_reducible exact ev_int
  | with_reducible exact ev_none
  | with_reducible exact ev_bool
  | ((with_reducible refine' ev_localI ?ka ?kl ?kk ?kx ?kd); (case ka => first | rfl | assumption); (case kl => rfl); (case kk => rfl); (case kx => rfl); (case kd => decide))
  | ((with_reducible refine' ev_local ?ka ?kl ?kk ?kx ?kd); (case ka => first | rfl | assumption); (case kl => rfl); (case kk => rfl); (case kx => rfl); (case kd => decide))
  | ((with_reducible refine' ev_add ?ka ?kb); (case ka => ktd_rel); (case kb => ktd_rel))
  | ((with_reducible refine' ev_sub ?ka ?kb); (case ka => ktd_rel); (case kb => ktd_rel))
  | ((with_reducible refine' ev_lt ?ka ?kb); (case ka => ktd_rel); (case kb => ktd_rel))
  | ((with_reducible refine' ev_le ?ka ?kb); (case ka => ktd_rel); (case kb => ktd_rel))
  | ((with_reducible refine' ev_gt ?ka ?kb); (case ka => ktd_rel); (case kb => ktd_rel))
  | ((with_reducible refine' ev_ge ?ka ?kb); (case ka => ktd_rel); (case kb => ktd_rel))
  | ((with_reducible refine' ev_eq ?ka ?kb); (case ka => ktd_rel); (case kb => ktd_rel))
  | ((with_reducible refine' ev_ne ?ka ?kb); (case ka => ktd_rel); (case kb => ktd_rel))
  | ((with_reducible refine' ev_neg ?ka); (case ka => ktd_rel))
  | ((with_reducible refine' ev_x ?ka ?kN ?kb); (case ka => ktd_rel); (case kN => with_reducible assumption); (case kb => rfl))
  | ((with_reducible refine' ev_y ?ka ?kN ?kb); (case ka => ktd_rel); (case kN => with_reducible assumption); (case kb => rfl))
  | ((with_reducible refine' ev_pt ?ka ?kN ?kb); (case ka => ktd_rel); (case kN => with_reducible assumption); (case kb => rfl))
  | ((with_reducible refine' ev_prev ?ka ?kN ?kb); (case ka => ktd_rel); (case kN => with_reducible assumption); (case kb => rfl))
  | ((with_reducible refine' ev_next ?ka ?kN ?kb); (case ka => ktd_rel); (case kN => with_reducible assumption); (case kb => rfl))
  | ((with_reducible refine' tr_cmp ?ka ?kb); (case ka => ktd_rel); (case kb => rfl))
  | fail "ev")
def noI (n : Led) (I : Addr) : Led := n.filter fun p => decide (p.1 ≠ I)
theorem noI_sub {n : Led} {I : Addr} : ∀ p ∈ noI n I, p ∈ n := fun p hp => (List.mem_filter.mp hp).1
theorem mem_noI {n : Led} {I : Addr} {p : Addr × Obj} (h : p ∈ n) (e : p.1 ≠ I) : p ∈ noI n I := List.mem_filter.mpr ⟨h, by simpa using e⟩
theorem noI_off {n : Led} {I : Addr} : ∀ p ∈ noI n I, p.1 ≠ I := fun p hp => by have := (List.mem_filter.mp hp).2; simpa using this
theorem noI_keys {n : Led} {I : Addr} (nd : Keys n) : Keys (noI n I) := List.Sublist.nodup (List.Sublist.map _ (List.filter_sublist)) nd
theorem NodeIn.noI {n : Led} {I a d p : Addr} {x y : Int} {pv nx : Value} (N : NodeIn n a d p x y pv nx) (h1 : a ≠ I) (h2 : d ≠ I) : NodeIn (noI n I) a d p x y pv nx :=
  let ⟨es, e1, e2⟩ := N.dict; ⟨mem_noI N.inst h1, es, mem_noI e1 h2, e2⟩
theorem RingOn.node {n : Led} {S : Sh} {l : List Nat} {last : Value} (R : RingOn n S l last) {i : Nat} (hi : i ∈ l) : ∃ v w, NodeIn n (S.a i) (S.d i) (S.p i) (S.P i).1 (S.P i).2 v w := by
  rcases R with ⟨rfl, _⟩ | ⟨x, r, pv, nx, _, N, _, _⟩
  · cases hi
  · exact ⟨_, _, N.node i hi⟩
theorem RingOn.noI {n : Led} {S : Sh} {l : List Nat} {last : Value} {I : Addr} (R : RingOn n S l last) (h : ∀ i ∈ l, S.a i ≠ I ∧ S.d i ≠ I) : RingOn (noI n I) S l last := by
  rcases R with ⟨rfl, e⟩ | ⟨x, r, pv, nx, e, N, hL, e'⟩
  · exact .inl ⟨rfl, e⟩
  · exact .inr ⟨x, r, pv, nx, e, ⟨fun i hi => (N.node i hi).noI (h i hi).1 (h i hi).2, N.ia, N.id⟩, hL, e'⟩
/-- the nodes of l made behind n0 -/
structure Made (n0 : Led) (S0 S : Sh) (l : List Nat) (last : Value) (n : Led) : Prop where
  sub : ∀ p ∈ n0, p ∈ n
  ring : RingOn n S l last
  new : ∀ i ∈ l, ∀ p ∈ n0, p.1 < S.d i
  sk : S.k = S0.k
  sp : S.p = S0.p
  sP : S.P = S0.P
theorem Made.zero {n : Led} {S : Sh} : Made n S S [] .none n := ⟨fun _ h => h, .inl ⟨rfl, rfl⟩, (fun _ h => nomatch h), rfl, rfl, rfl⟩
theorem Made.step {n0 n n' : Led} {S0 S : Sh} {l : List Nat} {last : Value} {I : Addr} {oI : Obj} {q : Nat} {a d : Addr} (M : Made n0 S0 S l last n) (off : ∀ p ∈ n, p.1 ≠ I) (hq : q ∉ l) (l1 : ∀ p ∈ (I, oI) :: n, p.1 < d) (l2 : d < a) (o : Only (l.map S.d) ((I, oI) :: n) n') (R : RingOn n' (S.set q a d) (l ++ [q]) (.ref a)) :
    (I, oI) ∈ n' ∧ Made n0 S0 (S.set q a d) (l ++ [q]) (.ref a) (noI n' I) := by
  have hI : I < d := l1 _ (List.mem_cons_self ..)
  have e0 : ∀ i ∈ l, i ≠ q := fun i hi e => hq (e ▸ hi)
  have sa : ∀ i ∈ l, (S.set q a d).a i = S.a i := fun i hi => updf_ne (e0 i hi)
  have sd : ∀ i ∈ l, (S.set q a d).d i = S.d i := fun i hi => updf_ne (e0 i hi)
  have saq : (S.set q a d).a q = a := updf_same
  have sdq : (S.set q a d).d q = d := updf_same
  have od : ∀ i ∈ l, S.d i ≠ I := fun i hi => by obtain ⟨_, _, N⟩ := M.ring.node hi; obtain ⟨es, h, _⟩ := N.dict; exact off _ h
  have oa : ∀ i ∈ l, S.a i ≠ I := fun i hi => by obtain ⟨_, _, N⟩ := M.ring.node hi; exact off _ N.inst
  refine ⟨o _ (List.mem_cons_self ..) fun hm => ?_, ⟨fun p hp => ?_, R.noI fun i hi => ?_, fun i hi => ?_, M.sk, M.sp, M.sP⟩⟩
  · obtain ⟨i, hi, e⟩ := List.mem_map.mp hm
    exact od i hi e
  · refine mem_noI (o p (List.mem_cons_of_mem _ (M.sub p hp)) fun hm => ?_) (off p (M.sub p hp))
    obtain ⟨i, hi, e⟩ := List.mem_map.mp hm
    exact Nat.ne_of_lt (M.new i hi p hp) e.symm
  · rcases List.mem_append.mp hi with hi | hi
    · rw [sa i hi, sd i hi]; exact ⟨oa i hi, od i hi⟩
    · rw [List.mem_singleton.mp hi, saq, sdq]; exact ⟨Ne.symm (Nat.ne_of_lt (Nat.lt_trans hI l2)), Ne.symm (Nat.ne_of_lt hI)⟩
  · rcases List.mem_append.mp hi with hi | hi
    · rw [sd i hi]; exact M.new i hi
    · rw [List.mem_singleton.mp hi, sdq]; exact fun p hp => l1 _ (List.mem_cons_of_mem _ (M.sub p hp))
theorem Made.nds {n0 n : Led} {S0 S : Sh} {l : List Nat} {last : Value} (M : Made n0 S0 S l last n) (hn : l ≠ []) (hall : ∀ i, i < S.k → i ∈ l) (sm : ∀ i, i < S0.k → SmP (S0.P i)) : S.Good ∧ ∃ x r pv nx, l = x :: r ∧ Nds n S pv nx ∧ Lk pv nx l ∧ last = .ref (S.a (lst x r)) := by
  rcases M.ring with ⟨rfl, _⟩ | ⟨x, r, pv, nx, e, N, hL, e'⟩
  · exact absurd rfl hn
  · exact ⟨⟨fun i j hi hj => N.ia i j (hall i hi) (hall j hj), fun i j hi hj => N.id i j (hall i hi) (hall j hj), fun i hi => by rw [M.sP]; exact sm i (M.sk ▸ hi)⟩, x, r, pv, nx, e, ⟨fun i hi => N.node i (hall i hi)⟩, hL, e'⟩

-- the area of a ring, both ways
def pr (k i : Nat) : Nat := if i = 0 then k - 1 else i - 1
def ps (P : Nat → Pt) (k : Nat) : Nat → Int
  | 0 => 0
  | i + 1 => ps P k i + ((P i).1 - (P (pr k i)).1) * ((P i).2 + (P (pr k i)).2)
def cr (a b c : Pt) : Int := (b.1 - a.1) * (c.2 - a.2) - (b.2 - a.2) * (c.1 - a.1)
def tw (P : Nat → Pt) (k : Nat) : Nat → Int
  | 0 => 0
  | i + 1 => tw P k i + cr (0, 0) (P (pr k i)) (P i)
theorem ps_tw {P : Nat → Pt} {k : Nat} : ∀ i, ps P k i + tw P k i = (P (pr k i)).1 * (P (pr k i)).2 - (P (k - 1)).1 * (P (k - 1)).2
  | 0 => by simp [ps, tw, pr]
  | i + 1 => by
    have ih := ps_tw (P := P) (k := k) i
    have e : pr k (i + 1) = i := by simp [pr]
    rw [e]
    unfold ps tw cr
    generalize ps P k i = a at *
    generalize tw P k i = b at *
    generalize P (pr k i) = u at *
    generalize P i = v at *
    generalize P (k - 1) = w at *
    have : ((v.1 - u.1) * (v.2 + u.2)) + ((u.1 - (0:Int)) * (v.2 - (0:Int)) - (u.2 - (0:Int)) * (v.1 - (0:Int))) = v.1 * v.2 - u.1 * u.2 := by grind
    show a + _ + (b + ((u.1 - (0:Int)) * (v.2 - (0:Int)) - (u.2 - (0:Int)) * (v.1 - (0:Int)))) = _
    omega
theorem ps_neg {P : Nat → Pt} {k : Nat} (hk : 0 < k) : ps P k k = - tw P k k := by
  have h := ps_tw (P := P) (k := k) k
  have e : pr k k = k - 1 := by unfold pr; rw [if_neg (by omega)]
  rw [e] at h; omega
section
variable {c : Cfg} {m : Loc} {n : Led} {env : Env}
theorem ev_lenL {e : Expr} {np pos : Pos} {l : Addr} {vs : List Value} {k : Nat} (he : EvV c m n env e (.ref l)) (h : (l, listO vs k) ∈ n) (hz : vs.length ≤ 1000000) (hg : env.globals = mainGlobals := by rfl) (hgb : env.builtins = builtinsNs := by rfl) (hke : env.scope.kind = .function := by rfl)
    (hx : env.kindOf "len" = some .globalImplicit := by rfl) (n1 : NotStar e := by intro _ _; rfl) : EvI c m n env (.Call (.Name "len" np) [e] [] pos) vs.length :=
  run_callB g_len b_len (by decide) (.consV he n1 .nil) (fun vs ⟨_, e, e'⟩ => by subst e'; subst e; exact run_lenL h hz fun t => ⟨rfl, rfl, t, rfl⟩) hg hgb hke hx
abbrev ptsOf (S : Sh) : List Value := (List.range S.k).map fun i => .ref (S.p i)
theorem ptsOf_get {S : Sh} {i : Nat} {v : Value} (h : (ptsOf S)[i]? = some v) : i < S.k ∧ v = .ref (S.p i) := by
  simp only [ptsOf, List.getElem?_map] at h
  by_cases hi : i < S.k
  · rw [List.getElem?_range hi] at h; exact ⟨hi, (Option.some.inj h).symm⟩
  · rw [List.getElem?_eq_none (by simpa using hi)] at h; cases h
structure PtsIn (n : Led) (S : Sh) (L : Addr) (dq : Nat → Addr) : Prop where
  pt : ∀ i, i < S.k → PtIn n (S.p i) (dq i) (S.P i).1 (S.P i).2
  list : ∃ k, (L, listO (ptsOf S) k) ∈ n
  sm : ∀ i, i < S.k → SmP (S.P i)
  pos : 0 < S.k
  few : S.k ≤ 1000
theorem c_sarea {S : Sh} {LP : Addr} {dq : Nat → Addr} (H : PtsIn n S LP dq) : Fn 1 84 [.ref LP] [] n (fun v n' => n' = n ∧ ∃ t, v = .int (ps S.P S.k S.k) t) := by
  refine fn_enter (binds := [("points", .ref LP)]) (fun _ => by rfl) (fun _ => by rfl) (fun _ _ _ => BindsTo.of_eq (by rfl)) (by rfl) (by rfl) (by rfl) (by rfl) (by rfl) ?_
  intro c ok rm nd
  obtain ⟨k0, hL⟩ := H.list
  have hlen : (ptsOf S).length = S.k := by simp
  refine run_cons (run_assign (useI ev_int fun t0 => ?_))
  refine run_cons (run_ifb (b := false) (tr_not (b' := true) (Ev.cast (tr_valI (ev_lenL (by ktd_rel) hL (by rw [hlen]; have := H.few; omega))) (by rw [hlen]; have := H.pos; simp; omega))) (fun h => by cases h) (fun _ => run_nil ?_))
  refine run_cons (run_assign (useV (ev_itemL (j := S.k - 1) (v := .ref (S.p (S.k - 1))) (by ktd_rel) hL (ev_neg ev_int) ?_ ?_ (by rw [hlen]; have := H.few; omega) nosl_un) ?_))
  · rw [hlen]; unfold seqIndex?; have := H.pos; simp; omega
  · simp only [ptsOf, List.getElem?_map]; rw [List.getElem?_range (by have := H.pos; omega)]; rfl
  refine run_cons (run_for_list (J := fun i m n' => n' = n ∧ (∃ t, m "s" = some (.int (ps S.P S.k i) t)) ∧ m "prev" = some (.ref (S.p (pr S.k i)))) (useV (v := .ref LP) (by ktd_rel) ⟨LP, ptsOf S, k0, rfl, hL, ⟨rfl, ⟨t0, rfl⟩, rfl⟩, ?_, ?_, ?_⟩))
  · rintro i m n' ⟨rfl, _⟩; exact ⟨k0, hL⟩
  · rintro i v m n' I oI hv ⟨rfl, ⟨t, hs⟩, hp⟩ nd' off
    obtain ⟨hi, rfl⟩ := ptsOf_get hv
    have hpi : pr S.k i < S.k := by unfold pr; split <;> omega
    have Pi := (H.pt i hi).sub (n' := (I, oI) :: n') fun q hq => List.mem_cons_of_mem _ hq
    have Pp := (H.pt _ hpi).sub (n' := (I, oI) :: n') fun q hq => List.mem_cons_of_mem _ hq
    have sPi := H.sm i hi
    have sPp := H.sm _ hpi
    refine run_cons (run_aug (old := .int (ps S.P S.k i) t) hs (useI (i := ((S.P i).1 - (S.P (pr S.k i)).1) * ((S.P i).2 + (S.P (pr S.k i)).2)) (ev_mul (ev_sub (ev_px (a := S.p i) (by ktd_rel) Pi) (ev_px (a := S.p (pr S.k i)) (by ktd_rel) Pp)) (ev_add (ev_py (a := S.p i) (by ktd_rel) Pi) (ev_py (a := S.p (pr S.k i)) (by ktd_rel) Pp)) ((sPi.1.sub sPp.1).mul (sPi.2.add sPp.2))) fun t' => run_iadd fun t'' => ?_))
    refine run_cons (run_assign (useV (v := .ref (S.p i)) (by ktd_rel) (run_nil ?_)))
    refine ⟨n', fun p hp => List.mem_cons_of_mem _ hp, List.mem_cons_self .., off, nd', rfl, ⟨t'', rfl⟩, ?_⟩
    have : pr S.k (i + 1) = i := by simp [pr]
    rw [this]; rfl
  · rw [hlen]
    rintro m n' ⟨rfl, ⟨t, hs⟩, hp⟩ nd'
    exact run_cons (run_ret (useI (i := ps S.P S.k S.k) (ev_localI hs) fun t => ⟨rfl, t, rfl⟩))
end
end Mine
namespace Mine
local macro_rules | `(tactic| ktd_rel) => `(tactic| first
  | with_reducible exact ev_int
  | with_reducible exact ev_none
  | with_reducible exact ev_bool
  | ((with_reducible refine' ev_localI ?ka ?kl ?kk ?kx ?kd); (case ka => first | rfl | assumption); (case kl => rfl); (case kk => rfl); (case kx => rfl); (case kd => decide))
  | ((with_reducible refine' ev_local ?ka ?kl ?kk ?kx ?kd); (case ka => first | rfl | assumption); (case kl => rfl); (case kk => rfl); (case kx => rfl); (case kd => decide))
  | ((with_reducible refine' ev_add ?ka ?kb); (case ka => ktd_rel); (case kb => ktd_rel))
  | ((with_reducible refine' ev_sub ?ka ?kb); (case ka => ktd_rel); (case kb => ktd_rel))
  | ((with_reducible refine' ev_lt ?ka ?kb); (case ka => ktd_rel); (case kb => ktd_rel))
  | ((with_reducible refine' ev_le ?ka ?kb); (case ka => ktd_rel); (case kb => ktd_rel))
  | ((with_reducible refine' ev_gt ?ka ?kb); (case ka => ktd_rel); (case kb => ktd_rel))
  | ((with_reducible refine' ev_ge ?ka ?kb); (case ka => ktd_rel); (case kb => ktd_rel))
  | ((with_reducible refine' ev_eq ?ka ?kb); (case ka => ktd_rel); (case kb => ktd_rel))
  | ((with_reducible refine' ev_ne ?ka ?kb); (case ka => ktd_rel); (case kb => ktd_rel))
  | ((with_reducible refine' ev_neg ?ka); (case ka => ktd_rel))
  | ((with_reducible refine' ev_x ?ka ?kN ?kb); (case ka => ktd_rel); (case kN => with_reducible assumption); (case kb => rfl))
  | ((with_reducible refine' ev_y ?ka ?kN ?kb); (case ka => ktd_rel); (case kN => with_reducible assumption); (case kb => rfl))
  | ((with_reducible refine' ev_pt ?ka ?kN ?kb); (case ka => ktd_rel); (case kN => with_reducible assumption); (case kb => rfl))
  | ((with_reducible refine' ev_prev ?ka ?kN ?kb); (case ka => ktd_rel); (case kN => with_reducible assumption); (case kb => rfl))
  | ((with_reducible refine' ev_next ?ka ?kN ?kb); (case ka => ktd_rel); (case kN => with_reducible assumption); (case kb => rfl))
  | ((with_reducible refine' tr_cmp ?ka ?kb); (case ka => ktd_rel); (case kb => rfl))
  | fail "ev")
section
variable {c : Cfg} {m : Loc} {n : Led} {env : Env}
theorem ev_isb {l r : Expr} {pos : Pos} {x y : Bool} (h1 : EvB c m n env l x) (h2 : EvB c m n env r y) : EvB c m n env (.Compare l [.Is] [r] pos) (x == y) := run_cmp (useV h1 (useV h2 (run_isb ⟨rfl, rfl, rfl⟩)))
theorem fb_Node : ∀ P, findIn (hd.heap_39 P) (.ref 59) "__bool__" = some none := fun _ => by rfl
theorem fl_Node : ∀ P, findIn (hd.heap_39 P) (.ref 59) "__len__" = some none := fun _ => by rfl
theorem run_truthN {a d p : Addr} {x y : Int} {v w : Value} {Q : Bool → Loc → Led → Prop} (N : NodeIn n a d p x y v w) (q : Q true m n) : Run c m n (truthy (.ref a)) Q := fun s S =>
  let ⟨_, hd, _⟩ := N.dict; truthy_K0 S.F S.ok.X (InstAt.of_news S.N N.inst hd) (fb_Node _) (fl_Node _) ⟨m, n, S, q⟩
theorem tr_valN {e : Expr} {a d p : Addr} {x y : Int} {v w : Value} (h : EvV c m n env e (.ref a)) (N : NodeIn n a d p x y v w) (he : isTrue e env (eval e env) = (do let v ← eval e env; standAt e.pos; holding [v] (truthy v)) := by rfl) : TrB c m n env e true :=
  is_plain (h.use fun v e => by subst e; exact run_truthN N ⟨rfl, rfl, rfl⟩) he
def rv (k j : Nat) : Nat := k - 1 - j
def order (f : Nat → Nat) (k : Nat) : List Nat := f (k - 1) :: (List.range (k - 1)).map f
def wayOf (P : Nat → Pt) (k : Nat) : Nat → Nat := if 0 < tw P k k then id else rv k
def whole (P : Nat → Pt) (k : Nat) : List Nat := if P (nth (order (wayOf P k) k) 0) = P (nth (order (wayOf P k) k) 1) then (order (wayOf P k) k).tail else order (wayOf P k) k
/-- the ways through 0 .. k-1 -/
structure Way (f : Nat → Nat) (k : Nat) : Prop where
  lt : ∀ i, i < k → f i < k
  inv : ∀ i, i < k → f (f i) = i
theorem Way.inj {f : Nat → Nat} {k : Nat} (h : Way f k) {i j : Nat} (hi : i < k) (hj : j < k) (e : f i = f j) : i = j := by rw [← h.inv i hi, ← h.inv j hj, e]
theorem way_id {k : Nat} : Way id k := ⟨fun _ h => h, fun _ _ => rfl⟩
theorem way_rv {k : Nat} : Way (rv k) k := ⟨fun i h => by unfold rv; omega, fun i h => by unfold rv; omega⟩
theorem range_map_succ {f : Nat → Nat} {i : Nat} : (List.range (i + 1)).map f = (List.range i).map f ++ [f i] := by rw [List.range_succ, List.map_append]; rfl
theorem Way.all {f : Nat → Nat} {k : Nat} (h : Way f k) {i : Nat} (hi : i < k) : i ∈ (List.range k).map f := List.mem_map.mpr ⟨f i, List.mem_range.mpr (h.lt i hi), h.inv i hi⟩
theorem Way.fresh {f : Nat → Nat} {k i : Nat} (h : Way f k) (hi : i < k) : f i ∉ (List.range i).map f := fun hm => by
  obtain ⟨j, hj, e⟩ := List.mem_map.mp hm
  have hj' := List.mem_range.mp hj
  have := h.inj (by omega) hi e
  omega
theorem order_ne {f : Nat → Nat} {k : Nat} : order f k ≠ [] := List.cons_ne_nil _ _
/-- the ring of what was made, its last one first -/
theorem Made.ringed {n0 n : Led} {S0 S : Sh} {f : Nat → Nat} {last : Value} (h : Way f S0.k) (hk : 0 < S0.k) (M : Made n0 S0 S ((List.range S0.k).map f) last n) (sm : ∀ i, i < S0.k → SmP (S0.P i)) : S.Good ∧ ∃ pv nx, Nds n S pv nx ∧ Lk pv nx (order f S0.k) ∧ last = .ref (S.a (nth (order f S0.k) 0)) := by
  have e : S0.k = (S0.k - 1) + 1 := by omega
  have hl : (List.range S0.k).map f = (List.range (S0.k - 1)).map f ++ [f (S0.k - 1)] := by rw [← range_map_succ, ← e]
  obtain ⟨G, x, r, pv, nx, e1, N, hL, e2⟩ := M.nds (by rw [hl]; simp) (fun i hi => h.all (M.sk ▸ hi)) sm
  refine ⟨G, pv, nx, N, Lk.unrot (by rw [← hl]; exact hL), ?_⟩
  rw [e2, show nth (order f S0.k) 0 = f (S0.k - 1) from nth_zero]
  have : lst x r = f (S0.k - 1) := by
    have := hl.symm.trans e1
    unfold lst
    simp only [← this]
    simp
  rw [this]
/-- one turn of the loops that link -/
theorem link_turn {n0 n : Led} {S0 S : Sh} {f : Nat → Nat} {last : Value} {i : Nat} {st : Int} {dq : Addr} {I : Addr} {oI : Obj} {e1 e2 e3 : Expr} {np pos : Pos} {Q : Value → Loc → Led → Prop} (h : Way f S0.k) (hi : i < S0.k) (M : Made n0 S0 S ((List.range i).map f) last n) (hp : PtIn n0 (S0.p (f i)) dq (S0.P (f i)).1 (S0.P (f i)).2) (off : ∀ p ∈ n, p.1 ≠ I)
    (h1 : EvI c m ((I, oI) :: n) env e1 st) (h2 : EvV c m ((I, oI) :: n) env e2 (.ref (S0.p (f i)))) (h3 : EvV c m ((I, oI) :: n) env e3 last) (rm : Room 4 c)
    (q : ∀ a S' n', Keys n' → (I, oI) ∈ n' → Made n0 S0 S' ((List.range (i + 1)).map f) (.ref a) (noI n' I) → a = S'.a (f i) → (∀ j, j < i → S'.a (f j) = S.a (f j)) → Only (((List.range i).map f).map S.d) ((I, oI) :: n) n' → Q (.ref a) m n')
    (hg : env.globals = mainGlobals := by rfl) (hke : env.scope.kind = .function := by rfl) (hx : env.kindOf "insert_node" = some .globalImplicit := by rfl) (n1 : NotStar e1 := by intro _ _; rfl) (n2 : NotStar e2 := by intro _ _; rfl) (n3 : NotStar e3 := by intro _ _; rfl) :
    Run c m ((I, oI) :: n) (eval (.Call (.Name "insert_node" np) [e1, e2, e3] [] pos) env) Q := by
  have hP : PtIn ((I, oI) :: n) (S.p (f i)) dq (S.P (f i)).1 (S.P (f i)).2 := by rw [M.sp, M.sP]; exact hp.sub fun p hp => List.mem_cons_of_mem _ (M.sub p hp)
  have R : RingOn ((I, oI) :: n) S ((List.range i).map f) last := by
    rcases M.ring with ⟨e, e'⟩ | ⟨x, r, pv, nx, e, N, hL, e'⟩
    · exact .inl ⟨e, e'⟩
    · exact .inr ⟨x, r, pv, nx, e, ⟨fun i hi => (N.node i hi).sub fun p hp => List.mem_cons_of_mem _ hp, N.ia, N.id⟩, hL, e'⟩
  have hq := h.fresh hi
  refine run_callF g_insert_node k_insert_node (.consI h1 n1 (.consV h2 n2 (.consV h3 n3 .nil))) (fun vs ⟨t, _, e, _, e', _, e'', e3⟩ => by subst e3; subst e''; subst e'; subst e; rw [← M.sp]; exact c_insert R hq hP) rm ?_ hg hke hx
  rintro v n' nd' ⟨a, d, rfl, l1, l2, o, R'⟩
  obtain ⟨hI, M'⟩ := M.step off hq l1 l2 o R'
  rw [← range_map_succ] at M'
  refine q a _ n' nd' hI M' updf_same.symm (fun j hj => updf_ne fun e => ?_) o
  have := h.inj (by omega) hi e
  omega
theorem run_cut {st : Stmt} {rest : List Stmt} {Q : Flow → Loc → Led → Prop} (J : Loc → Led → Prop) (h : Run c m n (exec st env) (fun fl m n => fl = .next ∧ J m n)) (k : ∀ m n, Keys n → J m n → Run c m n (execs rest env) Q) : Run c m n (execs (st :: rest) env) Q :=
  run_cons (h.keys fun v m' n' nd ⟨e, j⟩ => by subst e; exact k m' n' nd j)
theorem c_linked {S : Sh} {LP : Addr} {dq : Nat → Addr} {t : Tok} (H : PtsIn n S LP dq) (h2 : 2 ≤ S.k) : Fn 5 77 [.ref LP, .int 0 t] [("ccw", .bool true)] n (fun v n' => (∀ p ∈ n, p ∈ n') ∧ ∃ S' pv nx, S'.k = S.k ∧ S'.p = S.p ∧ S'.P = S.P ∧ S'.Good ∧ (∀ i, i < S.k → ∀ p ∈ n, p.1 < S'.d i) ∧ Nds n' S' pv nx ∧ Lk pv nx (whole S.P S.k) ∧ v = .ref (S'.a (nth (whole S.P S.k) 0))) := by
  refine fn_enter (binds := [("points", .ref LP), ("start", .int 0 t), ("ccw", .bool true)]) (fun _ => by rfl) (fun _ => by rfl) (fun _ _ _ => BindsTo.of_eq (by rfl)) (by rfl) (by rfl) (by rfl) (by rfl) (by rfl) ?_
  intro c ok rm nd
  have rm1 : Room 1 c := rm.le (by decide)
  obtain ⟨k0, hL⟩ := H.list
  have hlen : (ptsOf S).length = S.k := by simp
  have hps := ps_neg (P := S.P) H.pos
  refine run_cons (run_assign (useV ev_none ?_))
  -- what follows the loops
  have fin : ∀ (f : Nat → Nat) (m : Loc) (n₁ : Led) (S' : Sh) (last : Value) (env : Env), f = wayOf S.P S.k → Way f S.k → Made n S S' ((List.range S.k).map f) last n₁ → S'.Good ∧ (∀ i, i < S.k → ∀ p ∈ n, p.1 < S'.d i) ∧ ∃ pv nx, Nds n₁ S' pv nx ∧ Lk pv nx (order (wayOf S.P S.k) S.k) ∧ last = .ref (S'.a (nth (order (wayOf S.P S.k) S.k) 0)) := by
    rintro f m n₁ S' last env rfl hw M
    obtain ⟨G, pv, nx, N, L, e⟩ := M.ringed hw H.pos H.sm
    exact ⟨G, fun i hi p hp => M.new i (hw.all hi) p hp, pv, nx, N, L, e⟩
  refine run_cut (J := fun m n₁ => ∃ S' last, m "last" = some last ∧ Made n S S' ((List.range S.k).map (wayOf S.P S.k)) last n₁) (run_ifb (b := decide (0 < tw S.P S.k S.k)) (tr_cmp (Ev.cast (ev_isb (x := true) (by ktd_rel) (ev_lt (ev_call g_signed_area k_signed_area (.consV (v := .ref LP) (by ktd_rel) (by intro _ _; rfl) .nil) (fun vs ⟨_, e, e'⟩ => by subst e'; subst e; exact c_sarea H) rm1) ev_int)) (by rw [hps]; congr 1; simp))) (fun hb => ?_) (fun hb => ?_)) ?_
  · have hw : wayOf S.P S.k = id := by unfold wayOf; rw [if_pos (of_decide_eq_true hb)]
    rw [hw]
    refine run_cons (run_for_list (J := fun i m n' => ∃ S' last st, m "last" = some last ∧ (∃ t, m "start" = some (.int st t)) ∧ Made n S S' ((List.range i).map id) last n') (useV (v := .ref LP) (by ktd_rel) ⟨LP, ptsOf S, k0, rfl, hL, ⟨S, .none, 0, rfl, ⟨t, rfl⟩, Made.zero⟩, ?_, ?_, ?_⟩))
    · rintro i m n' ⟨S', last, st, _, _, M⟩; exact ⟨k0, M.sub _ hL⟩
    · rintro i v m n' I oI hv ⟨S', last, st, hl, ⟨t, hs⟩, M⟩ nd' off
      obtain ⟨hi, rfl⟩ := ptsOf_get hv
      refine run_cons (run_assign (link_turn way_id hi M (H.pt i hi) off (st := st) (by ktd_rel) (by ktd_rel) (by ktd_rel) rm ?_))
      intro a S'' n'' nd'' hI M'' _ _ _
      refine run_cons (run_aug (old := .int st t) hs (useI ev_int fun t' => run_iadd fun t'' => run_nil ?_))
      exact ⟨noI n'' I, noI_sub, hI, noI_off, noI_keys nd'', S'', .ref a, _, rfl, ⟨t'', rfl⟩, M''⟩
    · rw [hlen]
      rintro m n' ⟨S', last, st, hl, _, M⟩ nd'
      exact run_nil ⟨rfl, S', last, hl, M⟩
  · have hw : wayOf S.P S.k = rv S.k := by unfold wayOf; rw [if_neg (of_decide_eq_false hb)]
    rw [hw]
    refine run_cons (run_assign (useI (ev_add (by ktd_rel) (ev_lenL (by ktd_rel) hL (by rw [hlen]; have := H.few; omega))) fun t1 => ?_))
    refine run_cons (run_for_rev (J := fun i m n' => ∃ S' last st, m "last" = some last ∧ (∃ t, m "end" = some (.int st t)) ∧ Made n S S' ((List.range i).map (rv S.k)) last n') (run_callT g_reversed b_reversed (by decide) (.consV (v := .ref LP) (by ktd_rel) (by intro _ _; rfl) .nil) (fun vs hvs => ?_)))
    obtain ⟨_, rfl, rfl⟩ := hvs
    refine run_reversed hL fun D hD => ⟨D, LP, ptsOf S, k0, n, rfl, rfl, hL, ⟨S, .none, 0 + ((ptsOf S).length : Int), rfl, ⟨t1, rfl⟩, Made.zero⟩, ?_, ?_, ?_⟩
    · rintro i m n' ⟨S', last, st, _, _, M⟩; exact ⟨k0, M.sub _ hL⟩
    · rintro i v m n' I oI hil hv ⟨S', last, st, hl, ⟨t, hs⟩, M⟩ nd' off
      rw [hlen] at hil hv
      obtain ⟨hi, rfl⟩ := ptsOf_get hv
      have hv' : Value.ref (S.p (S.k - 1 - i)) = .ref (S.p (rv S.k i)) := rfl
      rw [hv']
      refine run_cons (run_assign (link_turn way_rv hil M (H.pt _ hi) off (st := st) (by ktd_rel) (by ktd_rel) (by ktd_rel) rm ?_))
      intro a S'' n'' nd'' hI M'' _ _ _
      refine run_cons (run_aug (old := .int st t) hs (useI ev_int fun t' => run_isub fun t'' => run_nil ?_))
      exact ⟨noI n'' I, noI_sub, hI, noI_off, noI_keys nd'', S'', .ref a, _, rfl, ⟨t'', rfl⟩, M''⟩
    · rw [hlen]
      rintro m n' ⟨S', last, st, hl, _, M⟩ nd'
      exact run_nil ⟨rfl, S', last, hl, M⟩
  · rintro m n₁ nd₁ ⟨S', last, hl, M⟩
    obtain ⟨G, new, pv, nx, N, L, rfl⟩ := fin _ m n₁ S' last default rfl (by unfold wayOf; split; exact way_id; exact way_rv) M
    have hin : ∀ i ∈ order (wayOf S.P S.k) S.k, i < S'.k := fun i hi => by
      rw [M.sk]
      have hW : Way (wayOf S.P S.k) S.k := by unfold wayOf; split; exact way_id; exact way_rv
      rcases List.mem_cons.mp hi with rfl | hi
      · exact hW.lt _ (by omega)
      · obtain ⟨j, hj, rfl⟩ := List.mem_map.mp hi
        exact hW.lt _ (by have := List.mem_range.mp hj; omega)
    have ho2 : ∃ x y r, order (wayOf S.P S.k) S.k = x :: y :: r := by
      have e : S.k - 1 = (S.k - 2) + 1 := by omega
      unfold order
      rw [e, List.range_succ_eq_map]
      exact ⟨_, _, _, rfl⟩
    unfold whole
    generalize order (wayOf S.P S.k) S.k = o at *
    have i0 := hin _ (nth_mem (i := 0) L.ne)
    have i1 := hin _ (nth_mem (i := 1) L.ne)
    have N0 := N.node _ i0
    have N1 := N.node _ i1
    rw [L.nxt 0] at N0
    rw [← M.sP]
    refine run_cons (run_ifb (b := decide (S'.P (nth o 0) = S'.P (nth o 1))) (Ev.cast (tr_and (tr_valN (by ktd_rel) N0) fun _ => tr_and (tr_cmp (ev_eqN (by ktd_rel) N0 (by ktd_rel) N1 rm1)) fun _ => tr_and0) (by simp)) (fun hb => ?_) (fun hb => ?_))
    · rw [if_pos (of_decide_eq_true hb)]
      obtain ⟨x, y, r, rfl⟩ := ho2
      rw [nth_zero] at *
      have f1 : nx x = y := L.next
      have f2 : pv x = lst y r := by rw [L.prev, lst_cons]
      have hx : x < S'.k := i0
      have hy : y < S'.k := hin _ (by simp)
      have hly : lst y r < S'.k := hin _ (List.mem_cons_of_mem _ lst_mem)
      refine run_cons (run_expr (run_callF g_remove_node k_remove_node (.consV (v := .ref (S'.a x)) (by ktd_rel) (by intro _ _; rfl) .nil) (fun vs ⟨_, e, e'⟩ => by subst e'; subst e; exact c_remove G N hx (by rw [f2]; exact hly) (by rw [f1]; exact hy)) rm1 ?_))
      rintro v n₂ nd₂ ⟨rfl, o₂, N'⟩
      have M0 := N'.node x hx
      have e00 : updf nx (pv x) (nx x) x = y := by rw [← f1]; unfold updf; split <;> rfl
      rw [e00] at M0
      refine run_cons (run_assign (useV (v := .ref (S'.a y)) (by ktd_rel) (run_nil ?_)))
      refine run_cons (run_ret (useV (v := .ref (S'.a y)) (by ktd_rel) ⟨fun p hp => o₂ p (M.sub p hp) fun hm => ?_, S', _, _, M.sk, M.sp, rfl, G, new, N', L.drop, by show _ = Value.ref (S'.a (nth (y :: r) 0)); rw [nth_zero]; rfl⟩))
      obtain ⟨i, hi, e⟩ := List.mem_map.mp hm
      exact Nat.ne_of_lt (new i (M.sk ▸ List.mem_range.mp hi) p hp) e.symm
    · rw [if_neg (of_decide_eq_false hb)]
      refine run_nil (run_cons (run_ret (useV (v := .ref (S'.a (nth o 0))) (by ktd_rel) ⟨M.sub, S', _, _, M.sk, M.sp, rfl, G, new, N, L, rfl⟩)))
end
end Mine
namespace Mine
local macro_rules | `(tactic| ktd_rel) => `(tactic| first
  | with_reducible exact ev_int
  | with_reducible exact ev_none
  | with_reducible exact ev_bool
  | ((with_reducible refine' ev_localI ?ka ?kl ?kk ?kx ?kd); (case ka => first | rfl | assumption); (case kl => rfl); (case kk => rfl); (case kx => rfl); (case kd => decide))
  | ((with_reducible refine' ev_local ?ka ?kl ?kk ?kx ?kd); (case ka => first | rfl | assumption); (case kl => rfl); (case kk => rfl); (case kx => rfl); (case kd => decide))
  | ((with_reducible refine' ev_add ?ka ?kb); (case ka => ktd_rel); (case kb => ktd_rel))
  | ((with_reducible refine' ev_sub ?ka ?kb); (case ka => ktd_rel); (case kb => ktd_rel))
  | ((with_reducible refine' ev_lt ?ka ?kb); (case ka => ktd_rel); (case kb => ktd_rel))
  | ((with_reducible refine' ev_le ?ka ?kb); (case ka => ktd_rel); (case kb => ktd_rel))
  | ((with_reducible refine' ev_gt ?ka ?kb); (case ka => ktd_rel); (case kb => ktd_rel))
  | ((with_reducible refine' ev_ge ?ka ?kb); (case ka => ktd_rel); (case kb => ktd_rel))
  | ((with_reducible refine' ev_eq ?ka ?kb); (case ka => ktd_rel); (case kb => ktd_rel))
  | ((with_reducible refine' ev_ne ?ka ?kb); (case ka => ktd_rel); (case kb => ktd_rel))
  | ((with_reducible refine' ev_neg ?ka); (case ka => ktd_rel))
  | ((with_reducible refine' ev_x ?ka ?kN ?kb); (case ka => ktd_rel); (case kN => with_reducible assumption); (case kb => rfl))
  | ((with_reducible refine' ev_y ?ka ?kN ?kb); (case ka => ktd_rel); (case kN => with_reducible assumption); (case kb => rfl))
  | ((with_reducible refine' ev_pt ?ka ?kN ?kb); (case ka => ktd_rel); (case kN => with_reducible assumption); (case kb => rfl))
  | ((with_reducible refine' ev_prev ?ka ?kN ?kb); (case ka => ktd_rel); (case kN => with_reducible assumption); (case kb => rfl))
  | ((with_reducible refine' ev_next ?ka ?kN ?kb); (case ka => ktd_rel); (case kN => with_reducible assumption); (case kb => rfl))
  | ((with_reducible refine' tr_cmp ?ka ?kb); (case ka => ktd_rel); (case kb => rfl))
  | fail "ev")
section
variable {c : Cfg} {m : Loc} {n : Led} {env : Env}
theorem run_callkw {x : Str} {np pos : Pos} {fa : Addr} {e : Expr} {rest : List Expr} {kn : Str} {kv : Expr} {kp : Pos} {Q : Value → Loc → Led → Prop} (g : ∀ P, nsIn (hd.heap_39 P) mainGlobals x = some (some (.ref fa))) (hk : ∀ P, keepIn (hd.heap_39 P) (.ref fa) = true)
    (h : Args c m n env pos (e :: rest) (fun vs m' n' => Run c m' n' (eval kv env) (fun w m'' n'' => Run c m'' n'' (call (.ref fa) vs [(kn, w)]) Q))) (hg : env.globals = mainGlobals := by rfl) (hke : env.scope.kind = .function := by rfl)
    (hx : env.kindOf x = some .globalImplicit := by rfl) (hd : (x == ("__debug__" : Str)) = false := by decide)
    (he : starEach (e :: rest) env = (false, eval e env) :: starEach rest env := by rfl) (hplain : ((backTo pos (starEach (e :: rest) env)).any (·.1) || (backToKw pos (keywordEach [⟨some kn, kv, kp⟩] env)).any (·.1.isNone)) = false := by rfl) :
    Run c m n (eval (.Call (.Name x np) (e :: rest) [⟨some kn, kv, kp⟩] pos) env) Q := fun s S =>
  wpAny_Call_Name_kw (wpAny_mono (run_glob (Q := fun v m' n' => v = .ref fa ∧ m' = m ∧ n' = n) g ⟨rfl, rfl, rfl⟩ hg hke hx hd s S) (fun v s' ⟨m', n', S', e1, e2, e3⟩ => by
    subst e1; subst e2; subst e3
    refine callWith_KW S'.ok.X (hk _) rfl (wpAny_mono (h s' S') (fun vs s'' ⟨m'', n'', S'', q⟩ => ?_) fun _ _ e => e) hplain he
    refine kws_cons (wpAny_mono (q s'' S'') (fun w s₃ ⟨m₃, n₃, S₃, q₃⟩ => kws_nil ⟨S₃.X.keeps S₃.F.keep, q₃ s₃ S₃⟩) fun _ _ e => e)) fun _ _ e => e)
theorem c_earcut {S : Sh} {LP : Addr} {dq : Nat → Addr} {hv : Value} {t : List Tri} {o : List Nat} (H : PtsIn n S LP dq) (h2 : 2 ≤ S.k) (hR : 2 < (whole S.P S.k).length → RunR S.P 0 (whole S.P S.k) (nth (whole S.P S.k) 0) t o) (hs : ¬ 2 < (whole S.P S.k).length → t = []) (hz : t.length ≤ 1000000) :
    Fn 7 70 [.ref LP, hv] [] n (fun v n' => (∀ p ∈ n, p ∈ n') ∧ ∃ T, v = .ref T ∧ TrisIn n' S.p T [] t) := by
  refine fn_enter (binds := [("exterior", .ref LP), ("holes", hv)]) (fun _ => by rfl) (fun _ => by rfl) (fun _ _ _ => BindsTo.of_eq (by rfl)) (by rfl) (by rfl) (by rfl) (by rfl) (by rfl) ?_
  intro c ok rm nd
  refine run_cons (run_assign (run_callkw g_linked_list k_linked_list (EvA.args (.consV (v := .ref LP) (by ktd_rel) (by intro _ _; rfl) (.consI ev_int (by intro _ _; rfl) .nil)) ?_)))
  rintro _ ⟨_, rfl, t0, _, rfl, rfl⟩
  refine useV ev_bool ((c_linked H h2).run (rm.le (by decide)) ?_)
  rintro v n₁ nd₁ ⟨sub₁, S', pv, nx, sk, sp, sP, G, new, N, L, rfl⟩
  refine run_cons (run_assign (run_list (args_nil ⟨Nat.zero_le _, fun T hT => ?_⟩)))
  have sT : ∀ p ∈ n₁, p ∈ (T, listO [] 0) :: n₁ := fun p hp => List.mem_cons_of_mem _ hp
  have N₂ := N.sub sT
  have hin : ∀ i ∈ whole S.P S.k, i < S'.k := fun i hi => by
    rw [sk]
    have hW : Way (wayOf S.P S.k) S.k := by unfold wayOf; split; exact way_id; exact way_rv
    have : i ∈ order (wayOf S.P S.k) S.k := by
      unfold whole at hi
      split at hi
      · exact List.mem_of_mem_tail hi
      · exact hi
    rcases List.mem_cons.mp this with rfl | hi
    · exact hW.lt _ (by omega)
    · obtain ⟨j, hj, rfl⟩ := List.mem_map.mp hi
      exact hW.lt _ (by have := List.mem_range.mp hj; omega)
  generalize whole S.P S.k = w at *
  have i0 := hin _ (nth_mem (i := 0) L.ne)
  have i1 := hin _ (nth_mem (i := 1) L.ne)
  have i4 := hin _ (nth_mem (i := w.length - 1) L.ne)
  have N0 := N₂.node _ i0
  rw [L.nxt 0, L.prv0] at N0
  refine run_cons (run_ifb (b := decide (w.length ≤ 2)) (Ev.cast (tr_or (tr_cmp (ev_isNone (v := .ref (S'.a (nth w 0))) (by ktd_rel))) fun _ => tr_or (tr_cmp (ev_isN G N₂ (i := nth w 1) (j := nth w (w.length - 1)) (by ktd_rel) (by ktd_rel) i1 i4)) fun _ => tr_or0) (by
    rw [← nth_len L.nodup L.ne, Bool.or_false, show (Value.ref (S'.a (nth w 0)) == Value.none) = false from rfl, Bool.false_or]
    exact decide_eq_decide.mpr eq_comm)) (fun hb => ?_) (fun hb => run_nil ?_))
  · refine run_cons (run_ret (useV (v := .ref T) (by ktd_rel) ⟨fun p hp => sT p (sub₁ p hp), T, rfl, ?_⟩))
    rw [hs (by have := of_decide_eq_true hb; omega)]
    exact ⟨[], 0, List.mem_cons_self .., .nil⟩
  · have hb' := of_decide_eq_false hb
    refine run_cons (run_assign (run_float fun t1 => ?_))
    refine run_cons (run_assign (run_float fun t2 => ?_))
    refine run_cons (run_assign (run_float fun t3 => ?_))
    refine run_cons (run_expr (run_callF g_earcut_linked k_earcut_linked (.consV (v := .ref (S'.a (nth w 0))) (by ktd_rel) (by intro _ _; rfl) (.consV (v := .ref T) (by ktd_rel) (by intro _ _; rfl) (.consV (v := .float 0 t1) (by ktd_rel) (by intro _ _; rfl) (.consV (v := .float 0 t2) (by ktd_rel) (by intro _ _; rfl) (.consV (v := .float 0 t3) (by ktd_rel) (by intro _ _; rfl) (.consI ev_int (by intro _ _; rfl) .nil)))))) ?_ rm ?_ (Post := LinkPost S' T [] ([] ++ t) o ((T, listO [] 0) :: n₁))))
    · rintro _ ⟨_, rfl, _, rfl, _, rfl, _, rfl, _, rfl, tk', _, rfl, rfl⟩
      exact link (S := S') (T := T) (base := []) (g := 0) G (by decide) _ _ _ _ _ [] t _ _ _ tk' N₂ L hin (by rw [sP]; exact hR (by omega)) ⟨[], 0, List.mem_cons_self .., .nil⟩ (by simpa using hz)
    rintro v n₂ nd₂ ⟨rfl, o₂, _, T₂⟩
    refine run_cons (run_ret (useV (v := .ref T) (by ktd_rel) ⟨fun p hp => o₂ p (sT p (sub₁ p hp)) fun hm => ?_, T, rfl, by rw [← sp]; exact T₂⟩))
    rcases List.mem_cons.mp hm with e | hm
    · exact Nat.ne_of_lt (hT p (sub₁ p hp)) e
    · obtain ⟨i, hi, e⟩ := List.mem_map.mp hm
      exact Nat.ne_of_lt (new i (sk ▸ List.mem_range.mp hi) p hp) e.symm
end
end Mine
namespace Mine
/-- a pair of the ledger's -/
def TupIn (n : Led) (a : Addr) (p : Pt) : Prop := ∃ t u k, (a, tupO [.int p.1 t, .int p.2 u] k) ∈ n
theorem TupIn.sub {n n' : Led} {a : Addr} {p : Pt} (h : TupIn n a p) (e : ∀ q ∈ n, q ∈ n') : TupIn n' a p := let ⟨t, u, k, h⟩ := h; ⟨t, u, k, e _ h⟩
/-- the rows -/
structure RowsIn (n : Led) (R : Addr) (rs : Nat → Addr) (cnt : Nat) (P : Nat → Pt) : Prop where
  list : ∃ k, (R, listO ((List.range cnt).map fun i => .ref (rs i)) k) ∈ n
  row : ∀ i, i < cnt → TupIn n (rs i) (P i)
  sm : ∀ i, i < cnt → SmP (P i)
  few : cnt ≤ 1000
theorem RowsIn.sub {n n' : Led} {R : Addr} {rs : Nat → Addr} {cnt : Nat} {P : Nat → Pt} (h : RowsIn n R rs cnt P) (e : ∀ q ∈ n, q ∈ n') : RowsIn n' R rs cnt P :=
  ⟨let ⟨k, h'⟩ := h.list; ⟨k, e _ h'⟩, fun i hi => (h.row i hi).sub e, h.sm, h.few⟩
abbrev nums (l : List Nat) : List Int := List.map (fun i : Nat => (i : Int)) l
/-- a list of places -/
def RingIn (n : Led) (D : Addr) (l : List Nat) : Prop := ∃ vs k, (D, listO vs k) ∈ n ∧ IntsAre vs (nums l)
theorem RingIn.sub {n n' : Led} {D : Addr} {l : List Nat} (h : RingIn n D l) (e : ∀ q ∈ n, q ∈ n') : RingIn n' D l := let ⟨vs, k, h, h'⟩ := h; ⟨vs, k, e _ h, h'⟩
section
variable {c : Cfg} {m : Loc} {n : Led} {env : Env}
theorem ev_t0 {value : Expr} {k : Nat} {p pos : Pos} {a : Addr} {P : Pt} (h : EvV c m n env value (.ref a)) (N : TupIn n a P) : EvI c m n env (.Subscript value (.Constant (.int 0) k p) pos) P.1 :=
  let ⟨t, u, _, hN⟩ := N; ev_itemTI h hN ev_int (by rfl) ⟨t, rfl⟩ (Nat.le_of_ble_eq_true rfl) nosl_const
theorem ev_t1 {value : Expr} {k : Nat} {p pos : Pos} {a : Addr} {P : Pt} (h : EvV c m n env value (.ref a)) (N : TupIn n a P) : EvI c m n env (.Subscript value (.Constant (.int 1) k p) pos) P.2 :=
  let ⟨t, u, _, hN⟩ := N; ev_itemTI h hN ev_int (by rfl) ⟨u, rfl⟩ (Nat.le_of_ble_eq_true rfl) nosl_const
local macro_rules | `(tactic| ktd_rel) => `(tactic| first
  | with_reducible exact ev_int
  | with_reducible exact ev_none
  | with_reducible exact ev_bool
  | ((with_reducible refine' ev_localI ?ka ?kl ?kk ?kx ?kd); (case ka => first | rfl | assumption); (case kl => rfl); (case kk => rfl); (case kx => rfl); (case kd => decide))
  | ((with_reducible refine' ev_local ?ka ?kl ?kk ?kx ?kd); (case ka => first | rfl | assumption); (case kl => rfl); (case kk => rfl); (case kx => rfl); (case kd => decide))
  | ((with_reducible refine' ev_add ?ka ?kb); (case ka => ktd_rel); (case kb => ktd_rel))
  | ((with_reducible refine' ev_sub ?ka ?kb); (case ka => ktd_rel); (case kb => ktd_rel))
  | ((with_reducible refine' ev_lt ?ka ?kb); (case ka => ktd_rel); (case kb => ktd_rel))
  | ((with_reducible refine' ev_le ?ka ?kb); (case ka => ktd_rel); (case kb => ktd_rel))
  | ((with_reducible refine' ev_gt ?ka ?kb); (case ka => ktd_rel); (case kb => ktd_rel))
  | ((with_reducible refine' ev_ge ?ka ?kb); (case ka => ktd_rel); (case kb => ktd_rel))
  | ((with_reducible refine' ev_eq ?ka ?kb); (case ka => ktd_rel); (case kb => ktd_rel))
  | ((with_reducible refine' ev_ne ?ka ?kb); (case ka => ktd_rel); (case kb => ktd_rel))
  | ((with_reducible refine' ev_neg ?ka); (case ka => ktd_rel))
  | ((with_reducible refine' ev_t0 ?ka ?kN); (case ka => ktd_rel); (case kN => with_reducible assumption))
  | ((with_reducible refine' ev_t1 ?ka ?kN); (case ka => ktd_rel); (case kN => with_reducible assumption))
  | ((with_reducible refine' tr_cmp ?ka ?kb); (case ka => ktd_rel); (case kb => rfl))
  | fail "ev")
theorem c_cross {a b d : Addr} {A B D : Pt} (hA : TupIn n a A) (hB : TupIn n b B) (hD : TupIn n d D) (sA : SmP A) (sB : SmP B) (sD : SmP D) : Fn 1 184 [.ref a, .ref b, .ref d] [] n (fun v n' => n' = n ∧ ∃ t, v = .int (cr A B D) t) := by
  refine fn_enter (binds := [("one", .ref a), ("two", .ref b), ("three", .ref d)]) (fun _ => by rfl) (fun _ => by rfl) (fun _ _ _ => BindsTo.of_eq (by rfl)) (by rfl) (by rfl) (by rfl) (by rfl) (by rfl) ?_
  intro c ok rm nd
  refine run_cons (run_ret (useI (i := cr A B D) (ev_sub (ev_mul ?_ ?_ ((sB.1.sub sA.1).mul (sD.2.sub sA.2))) (ev_mul ?_ ?_ ((sB.2.sub sA.2).mul (sD.1.sub sA.1)))) fun t => ⟨rfl, t, rfl⟩)) <;> ktd_rel
theorem ev_cross {e1 e2 e3 : Expr} {np pos : Pos} {a b d : Addr} {A B D : Pt} (h1 : EvV c m n env e1 (.ref a)) (hA : TupIn n a A) (h2 : EvV c m n env e2 (.ref b)) (hB : TupIn n b B) (h3 : EvV c m n env e3 (.ref d)) (hD : TupIn n d D) (sA : SmP A) (sB : SmP B) (sD : SmP D) (rm : Room 1 c) (hg : env.globals = mainGlobals := by rfl) (hke : env.scope.kind = .function := by rfl)
    (hx : env.kindOf "_law_cross" = some .globalImplicit := by rfl) (n1 : NotStar e1 := by intro _ _; rfl) (n2 : NotStar e2 := by intro _ _; rfl) (n3 : NotStar e3 := by intro _ _; rfl) : EvI c m n env (.Call (.Name "_law_cross" np) [e1, e2, e3] [] pos) (cr A B D) :=
  ev_call g_law_cross k_law_cross (.consV h1 n1 (.consV h2 n2 (.consV h3 n3 .nil))) (fun vs ⟨_, e, _, e', _, e'', e3⟩ => by subst e3; subst e''; subst e'; subst e; exact c_cross hA hB hD sA sB sD) rm hg hke hx
def lon (a b s : Pt) : Bool := decide (cr a b s = 0) && ((decide (min a.1 b.1 ≤ s.1) && decide (s.1 ≤ max a.1 b.1)) && (decide (min a.2 b.2 ≤ s.2) && decide (s.2 ≤ max a.2 b.2)))
theorem c_lon {a b d : Addr} {A B D : Pt} (hA : TupIn n a A) (hB : TupIn n b B) (hD : TupIn n d D) (sA : SmP A) (sB : SmP B) (sD : SmP D) : Fn 2 191 [.ref a, .ref b, .ref d] [] n (fun v n' => n' = n ∧ v = .bool (lon A B D)) := by
  refine fn_enter (binds := [("one", .ref a), ("two", .ref b), ("spot", .ref d)]) (fun _ => by rfl) (fun _ => by rfl) (fun _ _ _ => BindsTo.of_eq (by rfl)) (by rfl) (by rfl) (by rfl) (by rfl) (by rfl) ?_
  intro c ok rm nd
  refine run_cons (run_ret (useV (v := .bool (lon A B D)) (ev_and (ev_eq (ev_cross (by ktd_rel) hA (by ktd_rel) hB (by ktd_rel) hD sA sB sD rm) ev_int) fun _ => ev_and (ev_chain2 (ev_min2 ?_ ?_) ?_ (fun _ => ev_max2 ?_ ?_)) fun _ => ev_one (ev_chain2 (ev_min2 ?_ ?_) ?_ (fun _ => ev_max2 ?_ ?_))) ⟨rfl, rfl⟩)) <;> ktd_rel
theorem ev_lon {e1 e2 e3 : Expr} {np pos : Pos} {a b d : Addr} {A B D : Pt} (h1 : EvV c m n env e1 (.ref a)) (hA : TupIn n a A) (h2 : EvV c m n env e2 (.ref b)) (hB : TupIn n b B) (h3 : EvV c m n env e3 (.ref d)) (hD : TupIn n d D) (sA : SmP A) (sB : SmP B) (sD : SmP D) (rm : Room 2 c) (hg : env.globals = mainGlobals := by rfl) (hke : env.scope.kind = .function := by rfl)
    (hx : env.kindOf "_law_on" = some .globalImplicit := by rfl) (n1 : NotStar e1 := by intro _ _; rfl) (n2 : NotStar e2 := by intro _ _; rfl) (n3 : NotStar e3 := by intro _ _; rfl) : EvB c m n env (.Call (.Name "_law_on" np) [e1, e2, e3] [] pos) (lon A B D) :=
  ev_call g_law_on k_law_on (.consV h1 n1 (.consV h2 n2 (.consV h3 n3 .nil))) (fun vs ⟨_, e, _, e', _, e'', e3⟩ => by subst e3; subst e''; subst e'; subst e; exact c_lon hA hB hD sA sB sD) rm hg hke hx
/-- what was made beside is forgotten -/
theorem Fn.drop {k : Nat} {f : Addr} {args : List Value} {kw : List (Str × Value)} {P : Value → Prop} (h : Fn k f args kw n (fun v n' => (∀ p ∈ n, p ∈ n') ∧ P v)) : Fn k f args kw n (fun v n' => n' = n ∧ P v) := fun c m s S rm =>
  codeAny_mono (h c m s S rm) fun r s' ⟨v, n', e, S', p⟩ => ⟨v, n, e, S'.sub p.1 S.nd, rfl, p.2⟩
def meet (a b c d : Pt) : Bool :=
  let down := (b.1 - a.1) * (d.2 - c.2) - (b.2 - a.2) * (d.1 - c.1)
  let upper := (c.1 - a.1) * (d.2 - c.2) - (c.2 - a.2) * (d.1 - c.1)
  let other := cr a b c * -1
  if decide (down = 0) then lon a b c || (lon a b d || (lon c d a || lon c d b))
  else if decide (down < 0) then (decide (down ≤ upper) && decide (upper ≤ 0)) && (decide (down ≤ other) && decide (other ≤ 0))
  else (decide (0 ≤ upper) && decide (upper ≤ down)) && (decide (0 ≤ other) && decide (other ≤ down))
theorem c_meet {a b d e : Addr} {A B D E : Pt} (hA : TupIn n a A) (hB : TupIn n b B) (hD : TupIn n d D) (hE : TupIn n e E) (sA : SmP A) (sB : SmP B) (sD : SmP D) (sE : SmP E) : Fn 3 198 [.ref a, .ref b, .ref d, .ref e] [] n (fun v n' => n' = n ∧ v = .bool (meet A B D E)) := by
  refine Fn.drop (fn_enter (binds := [("one", .ref a), ("two", .ref b), ("three", .ref d), ("four", .ref e)]) (fun _ => by rfl) (fun _ => by rfl) (fun _ _ _ => BindsTo.of_eq (by rfl)) (by rfl) (by rfl) (by rfl) (by rfl) (by rfl) ?_)
  intro c ok rm nd
  have rm1 : Room 1 c := rm.le (by decide)
  refine run_cons (run_assign (run_tuple ((EvA.consI (i := E.1 - D.1) (by ktd_rel) (by intro _ _; rfl) (.consI (i := E.2 - D.2) (by ktd_rel) (by intro _ _; rfl) .nil)).args ?_)))
  rintro _ ⟨t1, _, rfl, t2, _, rfl, rfl⟩
  refine ⟨Nat.le_of_ble_eq_true rfl, fun W hW => ?_⟩
  have sub : ∀ p ∈ n, p ∈ (W, tupO [.int (E.1 - D.1) t1, .int (E.2 - D.2) t2] 0) :: n := fun p hp => List.mem_cons_of_mem _ hp
  have hWt : TupIn ((W, tupO [.int (E.1 - D.1) t1, .int (E.2 - D.2) t2] 0) :: n) W (E.1 - D.1, E.2 - D.2) := ⟨t1, t2, 0, List.mem_cons_self ..⟩
  replace hA := hA.sub sub
  replace hB := hB.sub sub
  replace hD := hD.sub sub
  replace hE := hE.sub sub
  generalize (W, tupO [.int (E.1 - D.1) t1, .int (E.2 - D.2) t2] 0) :: n = n₁ at *
  refine run_cons (run_assign (useI (i := (B.1 - A.1) * (E.2 - D.2) - (B.2 - A.2) * (E.1 - D.1)) (ev_sub (ev_mul (by ktd_rel) (ev_t1 (P := (E.1 - D.1, E.2 - D.2)) (by ktd_rel) hWt) ((sB.1.sub sA.1).mul (sE.2.sub sD.2))) (ev_mul (by ktd_rel) (ev_t0 (P := (E.1 - D.1, E.2 - D.2)) (by ktd_rel) hWt) ((sB.2.sub sA.2).mul (sE.1.sub sD.1)))) fun t3 => ?_))
  generalize hdown : (B.1 - A.1) * (E.2 - D.2) - (B.2 - A.2) * (E.1 - D.1) = down
  refine run_cons (run_ifb (b := decide (down = 0)) (by ktd_rel) (fun h0 => ?_) (fun h0 => run_nil ?_))
  · refine run_cons (run_ret (useV (v := .bool (meet A B D E)) (Ev.cast (ev_or (ev_lon (by ktd_rel) hA (by ktd_rel) hB (by ktd_rel) hD sA sB sD rm) fun _ => ev_or (ev_lon (by ktd_rel) hA (by ktd_rel) hB (by ktd_rel) hE sA sB sE rm) fun _ => ev_or (ev_lon (by ktd_rel) hD (by ktd_rel) hE (by ktd_rel) hA sD sE sA rm) fun _ => ev_one (ev_lon (by ktd_rel) hD (by ktd_rel) hE (by ktd_rel) hB sD sE sB rm)) ?_) ⟨sub, rfl⟩))
    show Value.bool _ = Value.bool _
    congr 1
    unfold meet
    simp only [hdown, h0, if_true]
  refine run_cons (run_assign (useI (i := (D.1 - A.1) * (E.2 - D.2) - (D.2 - A.2) * (E.1 - D.1)) (ev_sub (ev_mul (by ktd_rel) (ev_t1 (P := (E.1 - D.1, E.2 - D.2)) (by ktd_rel) hWt) ((sD.1.sub sA.1).mul (sE.2.sub sD.2))) (ev_mul (by ktd_rel) (ev_t0 (P := (E.1 - D.1, E.2 - D.2)) (by ktd_rel) hWt) ((sD.2.sub sA.2).mul (sE.1.sub sD.1)))) fun t4 => ?_))
  refine run_cons (run_assign (useI (i := cr A B D * -1) (ev_mul (ev_cross (by ktd_rel) hA (by ktd_rel) hB (by ktd_rel) hD sA sB sD rm1) (ev_neg ev_int) (IntMulOk.of_right (by decide))) fun t5 => ?_))
  refine run_cons (run_ifb (b := decide (down < 0)) (by ktd_rel) (fun h1 => ?_) (fun h1 => run_nil ?_))
  · refine run_cons (run_ret (useV (v := .bool (meet A B D E)) (Ev.cast (ev_and (ev_chain2 (by ktd_rel) (by ktd_rel) (fun _ => by ktd_rel)) fun _ => ev_one (ev_chain2 (by ktd_rel) (by ktd_rel) (fun _ => by ktd_rel))) ?_) ⟨sub, rfl⟩))
    show Value.bool _ = Value.bool _
    congr 1
    unfold meet
    simp only [hdown, h0, h1, if_true]
    rfl
  · refine run_cons (run_ret (useV (v := .bool (meet A B D E)) (Ev.cast (ev_and (ev_chain2 (by ktd_rel) (by ktd_rel) (fun _ => by ktd_rel)) fun _ => ev_one (ev_chain2 (by ktd_rel) (by ktd_rel) (fun _ => by ktd_rel))) ?_) ⟨sub, rfl⟩))
    show Value.bool _ = Value.bool _
    congr 1
    unfold meet
    simp only [hdown, h0, h1]
    rfl
theorem ev_meet {e1 e2 e3 e4 : Expr} {np pos : Pos} {a b d e : Addr} {A B D E : Pt} (h1 : EvV c m n env e1 (.ref a)) (hA : TupIn n a A) (h2 : EvV c m n env e2 (.ref b)) (hB : TupIn n b B) (h3 : EvV c m n env e3 (.ref d)) (hD : TupIn n d D) (h4 : EvV c m n env e4 (.ref e)) (hE : TupIn n e E) (sA : SmP A) (sB : SmP B) (sD : SmP D) (sE : SmP E) (rm : Room 3 c) (hg : env.globals = mainGlobals := by rfl) (hke : env.scope.kind = .function := by rfl)
    (hx : env.kindOf "_law_meet" = some .globalImplicit := by rfl) (n1 : NotStar e1 := by intro _ _; rfl) (n2 : NotStar e2 := by intro _ _; rfl) (n3 : NotStar e3 := by intro _ _; rfl) (n4 : NotStar e4 := by intro _ _; rfl) : EvB c m n env (.Call (.Name "_law_meet" np) [e1, e2, e3, e4] [] pos) (meet A B D E) :=
  ev_call g_law_meet k_law_meet (.consV h1 n1 (.consV h2 n2 (.consV h3 n3 (.consV h4 n4 .nil)))) (fun vs ⟨_, e, _, e', _, e'', _, e3, e4⟩ => by subst e4; subst e3; subst e''; subst e'; subst e; exact c_meet hA hB hD hE sA sB sD sE) rm hg hke hx
theorem ar_cr {p q r : Pt} : ar p q r = - cr p q r := by unfold ar cr; grind
theorem c_within {u a w b : Addr} {U A W B : Pt} (hU : TupIn n u U) (hA : TupIn n a A) (hW : TupIn n w W) (hB : TupIn n b B) (sU : SmP U) (sA : SmP A) (sW : SmP W) (sB : SmP B) : Fn 2 205 [.ref u, .ref a, .ref w, .ref b] [] n (fun v n' => n' = n ∧ v = .bool (locIn U A W B)) := by
  refine fn_enter (binds := [("before", .ref u), ("one", .ref a), ("behind", .ref w), ("other", .ref b)]) (fun _ => by rfl) (fun _ => by rfl) (fun _ _ _ => BindsTo.of_eq (by rfl)) (by rfl) (by rfl) (by rfl) (by rfl) (by rfl) ?_
  intro c ok rm nd
  have f1 : ar U A W < 0 ↔ 0 < cr A W U := by unfold ar cr; grind
  have f2 : 0 ≤ ar A B W ↔ 0 ≤ cr A W B := by unfold ar cr; grind
  have f3 : 0 ≤ ar A U B ↔ 0 ≤ cr A B U := by unfold ar cr; grind
  have f4 : ar A B U < 0 ↔ 0 < cr A B U := by unfold ar cr; grind
  have f5 : ar A W B < 0 ↔ 0 < cr A W B := by unfold ar cr; grind
  refine run_cons (run_ifb (b := decide (0 < cr A W U)) (tr_cmp (ev_gt (ev_cross (by ktd_rel) hA (by ktd_rel) hW (by ktd_rel) hU sA sW sU rm) ev_int)) (fun h0 => ?_) (fun h0 => run_nil ?_))
  · refine run_cons (run_ret (useV (v := .bool (locIn U A W B)) (Ev.cast (ev_and (ev_ge (ev_cross (by ktd_rel) hA (by ktd_rel) hW (by ktd_rel) hB sA sW sB rm) ev_int) fun _ => ev_one (ev_ge (ev_cross (by ktd_rel) hA (by ktd_rel) hB (by ktd_rel) hU sA sB sU rm) ev_int)) ?_) ⟨rfl, rfl⟩))
    show Value.bool _ = Value.bool _
    congr 1
    unfold locIn
    rw [decide_eq_decide.mpr f1, h0, decide_eq_decide.mpr f2, decide_eq_decide.mpr f3]; rfl
  · refine run_cons (run_ret (useV (v := .bool (locIn U A W B)) (Ev.cast (ev_or (ev_gt (ev_cross (by ktd_rel) hA (by ktd_rel) hW (by ktd_rel) hB sA sW sB rm) ev_int) fun _ => ev_one (ev_gt (ev_cross (by ktd_rel) hA (by ktd_rel) hB (by ktd_rel) hU sA sB sU rm) ev_int)) ?_) ⟨rfl, rfl⟩))
    show Value.bool _ = Value.bool _
    congr 1
    unfold locIn
    rw [decide_eq_decide.mpr f1, h0, decide_eq_decide.mpr f4, decide_eq_decide.mpr f5, Bool.or_comm]; rfl
theorem ev_within {e1 e2 e3 e4 : Expr} {np pos : Pos} {u a w b : Addr} {U A W B : Pt} (h1 : EvV c m n env e1 (.ref u)) (hU : TupIn n u U) (h2 : EvV c m n env e2 (.ref a)) (hA : TupIn n a A) (h3 : EvV c m n env e3 (.ref w)) (hW : TupIn n w W) (h4 : EvV c m n env e4 (.ref b)) (hB : TupIn n b B) (sU : SmP U) (sA : SmP A) (sW : SmP W) (sB : SmP B) (rm : Room 2 c) (hg : env.globals = mainGlobals := by rfl) (hke : env.scope.kind = .function := by rfl)
    (hx : env.kindOf "_law_within" = some .globalImplicit := by rfl) (n1 : NotStar e1 := by intro _ _; rfl) (n2 : NotStar e2 := by intro _ _; rfl) (n3 : NotStar e3 := by intro _ _; rfl) (n4 : NotStar e4 := by intro _ _; rfl) : EvB c m n env (.Call (.Name "_law_within" np) [e1, e2, e3, e4] [] pos) (locIn U A W B) :=
  ev_call g_law_within k_law_within (.consV h1 n1 (.consV h2 n2 (.consV h3 n3 (.consV h4 n4 .nil)))) (fun vs ⟨_, e, _, e', _, e'', _, e3, e4⟩ => by subst e4; subst e3; subst e''; subst e'; subst e; exact c_within hU hA hW hB sU sA sW sB) rm hg hke hx
end
end Mine
namespace Mine
theorem seqIdx_nat {i len : Nat} (h : i < len) : seqIndex? (i : Int) len = some i := by
  unfold seqIndex?
  have h1 : ¬ (i : Int) < 0 := by omega
  simp only [if_neg h1]
  have h2 : (decide (0 ≤ (i : Int)) && decide ((i : Int) < (len : Int))) = true := by simp; omega
  simp [h]
theorem seqIdx_neg {len : Nat} (h : 0 < len) : seqIndex? (-1) len = some (len - 1) := by
  unfold seqIndex?
  simp; omega
theorem nums_get {l : List Nat} {j : Nat} (h : j < l.length) : (nums l)[j]? = some (nth l j : Int) := by
  rw [List.getElem?_map, List.getElem?_eq_getElem h, nth_lt h]; rfl
theorem nums_length {l : List Nat} : (nums l).length = l.length := List.length_map _
section
variable {c : Cfg} {m : Loc} {n : Led} {env : Env}
theorem ev_ring {value slice : Expr} {pos : Pos} {D : Addr} {l : List Nat} {i : Int} {j : Nat} (hb : EvV c m n env value (.ref D)) (R : RingIn n D l) (he : EvI c m n env slice i) (hi : seqIndex? i l.length = some j) (hj : j < l.length) (hz : l.length ≤ 1000) (hs : NoSl slice) :
    EvI c m n env (.Subscript value slice pos) (nth l j : Int) := by
  obtain ⟨vs, k, h, hv⟩ := R
  have hl : vs.length = l.length := hv.length.trans nums_length
  exact ev_itemLI hb h he (j := j) (by rw [hl]; exact hi) (hv.get j _ (nums_get hj)) (by omega) hs
theorem ev_row {value slice : Expr} {pos : Pos} {R : Addr} {rs : Nat → Addr} {cnt : Nat} {P : Nat → Pt} {x : Nat} (hb : EvV c m n env value (.ref R)) (H : RowsIn n R rs cnt P) (he : EvI c m n env slice (x : Int)) (hx : x < cnt) (hs : NoSl slice) :
    EvV c m n env (.Subscript value slice pos) (.ref (rs x)) := by
  obtain ⟨k, h⟩ := H.list
  refine ev_itemL hb h he (j := x) (seqIdx_nat (by simpa using hx)) ?_ (by have := H.few; simp; omega) hs
  rw [List.getElem?_map, List.getElem?_range hx]; rfl
theorem ev_r0 {value : Expr} {k : Nat} {p pos : Pos} {D : Addr} {l : List Nat} (hb : EvV c m n env value (.ref D)) (R : RingIn n D l) (hn : l ≠ []) (hz : l.length ≤ 1000) : EvI c m n env (.Subscript value (.Constant (.int 0) k p) pos) (nth l 0 : Int) :=
  ev_ring hb R ev_int (seqIdx_nat (List.length_pos_iff.mpr hn)) (List.length_pos_iff.mpr hn) hz nosl_const
theorem ev_r1 {value : Expr} {k : Nat} {p p' pos : Pos} {D : Addr} {l : List Nat} (hb : EvV c m n env value (.ref D)) (R : RingIn n D l) (hn : l ≠ []) (hz : l.length ≤ 1000) : EvI c m n env (.Subscript value (.UnaryOp .USub (.Constant (.int 1) k p) p') pos) (nth l (l.length - 1) : Int) :=
  ev_ring hb R (ev_neg ev_int) (seqIdx_neg (List.length_pos_iff.mpr hn)) (by have := List.length_pos_iff.mpr hn; omega) hz nosl_un
theorem fmod_nat {a b : Nat} : Int.fmod (a : Int) (b : Int) = ((a % b : Nat) : Int) := by
  rw [Int.fmod_eq_emod_of_nonneg _ (by omega)]; rfl
/-- an index that goes round -/
theorem ev_rmod {value e1 e2 : Expr} {p pos : Pos} {D : Addr} {l : List Nat} {i : Nat} (hb : EvV c m n env value (.ref D)) (R : RingIn n D l) (h1 : EvI c m n env e1 (i : Int)) (h2 : EvI c m n env e2 (l.length : Int)) (hn : l ≠ []) (hz : l.length ≤ 1000) : EvI c m n env (.Subscript value (.BinOp e1 .Mod e2 p) pos) (nth l i : Int) := by
  have hp := List.length_pos_iff.mpr hn
  have hm := Nat.mod_lt i hp
  have := ev_ring (pos := pos) hb R (ev_mod (pos := p) h1 h2 (by omega)) (by rw [fmod_nat]; exact seqIdx_nat hm) hm hz nosl_bin
  rwa [nth_mod (j := i) (by rw [Nat.mod_mod])] at this
theorem ev_lenR {e : Expr} {np pos : Pos} {D : Addr} {l : List Nat} (he : EvV c m n env e (.ref D)) (R : RingIn n D l) (hz : l.length ≤ 1000) (hg : env.globals = mainGlobals := by rfl) (hgb : env.builtins = builtinsNs := by rfl) (hke : env.scope.kind = .function := by rfl)
    (hx : env.kindOf "len" = some .globalImplicit := by rfl) (n1 : NotStar e := by intro _ _; rfl) : EvI c m n env (.Call (.Name "len" np) [e] [] pos) (l.length : Int) := by
  obtain ⟨vs, k, h, hv⟩ := R
  have hl : vs.length = l.length := hv.length.trans nums_length
  rw [← hl]
  exact ev_lenL he h (by omega) hg hgb hke hx n1
def pickN (l : List Nat) (lo hi : Option Int) : List Nat := (l.drop (kms_lo lo l.length)).take (kms_hi hi l.length - kms_lo lo l.length)
theorem ints_pick {vs : List Value} {l : List Nat} {lo hi : Option Int} (h : IntsAre vs (nums l)) : IntsAre (slicePick vs.toArray lo hi none).toList (nums (pickN l lo hi)) := by
  have := kssn_any (lo := lo) (hi := hi) h
  rw [nums_length] at this
  unfold pickN nums
  rwa [List.map_take, List.map_drop]
theorem pickN_length {l : List Nat} {lo hi : Option Int} : (pickN l lo hi).length ≤ l.length := by unfold pickN; simp; omega
/-- ring[..] + ring[..] -/
theorem run_rcat {v1 v2 : Expr} {lo1 hi1 lo2 hi2 : Option Expr} {p1 q1 p2 q2 pos : Pos} {D : Addr} {l l' : List Nat} {a1 b1 a2 b2 : Option Int} {Q : Value → Loc → Led → Prop} (h1 : ∀ n', EvV c m n' env v1 (.ref D)) (h2 : ∀ n', EvV c m n' env v2 (.ref D)) (R : RingIn n D l)
    (ha1 : ∀ n', EvP c m n' env lo1 a1) (hb1 : ∀ n', EvP c m n' env hi1 b1) (ha2 : ∀ n', EvP c m n' env lo2 a2) (hb2 : ∀ n', EvP c m n' env hi2 b2) (hz : l.length ≤ 1000) (e : pickN l a1 b1 ++ pickN l a2 b2 = l')
    (q : ∀ D' n', (∀ p ∈ n, p ∈ n') → (∀ p ∈ n, p.1 < D') → RingIn n' D' l' → Q (.ref D') m n')
    (ht1 : ∀ d r, letTemporaryGo v1 (.ref d) r = Pure.pure () := by intro _ _; rfl) (ht2 : ∀ d r, letTemporaryGo v2 (.ref d) r = Pure.pure () := by intro _ _; rfl) :
    Run c m n (eval (.BinOp (.Subscript v1 (.Slice lo1 hi1 none p1) q1) .Add (.Subscript v2 (.Slice lo2 hi2 none p2) q2) pos) env) Q := by
  obtain ⟨vs, k, h, hv⟩ := R
  have hl : vs.length = l.length := hv.length.trans nums_length
  refine run_bin (run_slice (h1 _) h (ha1 _) (hb1 _) (by omega) (fun D1 l1 => run_slice (h2 _) (List.mem_cons_of_mem _ h) (ha2 _) (hb2 _) (by omega) (fun D2 l2 => ?_) (ht2 _)) (ht1 _))
  have i1 := ints_pick (lo := a1) (hi := b1) hv
  have i2 := ints_pick (lo := a2) (hi := b2) hv
  have n1 := i1.length.trans nums_length
  have n2 := i2.length.trans nums_length
  have z1 := pickN_length (l := l) (lo := a1) (hi := b1)
  have z2 := pickN_length (l := l) (lo := a2) (hi := b2)
  refine run_addL (List.mem_cons_of_mem _ (List.mem_cons_self ..)) (List.mem_cons_self ..) (by omega) fun D3 l3 => ?_
  refine q D3 _ (fun p hp => List.mem_cons_of_mem _ (List.mem_cons_of_mem _ (List.mem_cons_of_mem _ hp))) (fun p hp => l3 p (List.mem_cons_of_mem _ (List.mem_cons_of_mem _ hp))) ⟨_, 0, List.mem_cons_self .., ?_⟩
  have := i1.append i2
  rwa [← List.map_append, e] at this
/-- range(a, b): places -/
theorem range_size {a b : Nat} : Builtin.Range.rangeSize (a : Int) (b : Int) 1 = ((b - a : Nat) : Int) := by
  unfold Builtin.Range.rangeSize
  rw [if_pos (by decide)]
  split
  · rw [Int.ediv_one]; omega
  · omega
theorem range_small {a b : Nat} (ha : a ≤ 100000) (hb : b ≤ 100000) : Builtin.Range.small (a : Int) (b : Int) 1 = true := by
  exact small_one (by omega) (by omega) (by omega) (by omega)
theorem pick_rot {l : List Nat} : pickN l (some 1) none ++ pickN l none (some 1) = rot l := by
  cases l with
  | nil => rfl
  | cons x l => simp [pickN, kms_lo, kms_hi, rot]
theorem pick_back {l : List Nat} : pickN l (some (-1)) none ++ pickN l (some 1) (some (-1)) = back l := by
  match l with
  | [] => rfl
  | [x] => rfl
  | x :: y :: r => 
    simp [pickN, kms_lo, kms_hi, back]
    have e : (y :: r).dropLast ++ [lst y r] = y :: r := List.dropLast_concat_getLast (List.cons_ne_nil _ _)
    have h : (y :: r).dropLast.length = r.length := by simp
    have e1 : List.drop r.length (y :: r) = [lst y r] := by
      have := List.drop_left (l₁ := (y :: r).dropLast) (l₂ := [lst y r])
      rwa [e, h] at this
    have e2 : List.take r.length (y :: r) = (y :: r).dropLast := by
      have := List.take_left (l₁ := (y :: r).dropLast) (l₂ := [lst y r])
      rwa [e, h] at this
    rw [e1, e2]; rfl
theorem pick_ear {b c d : Nat} {r : List Nat} : pickN (b :: c :: d :: r) (some 2) none ++ pickN (b :: c :: d :: r) (some 1) (some 2) = d :: (r ++ [c]) := by
  simp [pickN, kms_lo, kms_hi]
end
end Mine
namespace Mine
/-- a spot in a triangle that turns left stands in its box -/
theorem box1 {al be ga D a b c s mn : Int} (h1 : 0 ≤ al) (h2 : 0 ≤ be) (h3 : 0 ≤ ga) (hD : 0 < D) (e : al + be + ga = D) (es : D * s = be * a + ga * b + al * c) (ha : mn ≤ a) (hb : mn ≤ b) (hc : mn ≤ c) : mn ≤ s := by
  have p1 := Int.mul_nonneg h2 (Int.sub_nonneg_of_le ha)
  have p2 := Int.mul_nonneg h3 (Int.sub_nonneg_of_le hb)
  have p3 := Int.mul_nonneg h1 (Int.sub_nonneg_of_le hc)
  have e2 : D * (s - mn) = be * (a - mn) + ga * (b - mn) + al * (c - mn) := by rw [Int.mul_sub, es, ← e]; grind
  have : 0 ≤ D * (s - mn) := by omega
  have := Int.nonneg_of_mul_nonneg_right this hD
  omega
theorem box2 {al be ga D a b c s mx : Int} (h1 : 0 ≤ al) (h2 : 0 ≤ be) (h3 : 0 ≤ ga) (hD : 0 < D) (e : al + be + ga = D) (es : D * s = be * a + ga * b + al * c) (ha : a ≤ mx) (hb : b ≤ mx) (hc : c ≤ mx) : s ≤ mx := by
  have := box1 (al := al) (be := be) (ga := ga) (D := D) (a := -a) (b := -b) (c := -c) (s := -s) (mn := -mx) h1 h2 h3 hD e (by grind) (by omega) (by omega) (by omega)
  omega
def hitL (A B C U S W : Pt) : Bool := decide (0 ≤ cr A B S) && (decide (0 ≤ cr B C S) && (decide (0 ≤ cr C A S) && decide (cr U S W ≤ 0)))
theorem hit_eq {P : Nat → Pt} {a b c u s w : Nat} (h : 0 < cr (P a) (P b) (P c)) : hitP P a b c u s w = hitL (P a) (P b) (P c) (P u) (P s) (P w) := by
  unfold hitP hitL pit
  rw [Bool.eq_iff_iff]
  simp only [Bool.and_eq_true, decide_eq_true_eq]
  have f0 : 0 ≤ ar (P u) (P s) (P w) ↔ cr (P u) (P s) (P w) ≤ 0 := by rw [ar_cr]; omega
  generalize P a = A at *
  generalize P b = B at *
  generalize P c = C at *
  generalize P s = S at *
  rw [f0]
  have f1 : (A.1 - S.1) * (C.2 - S.2) ≤ (C.1 - S.1) * (A.2 - S.2) ↔ 0 ≤ cr C A S := by
    have : cr C A S = (C.1 - S.1) * (A.2 - S.2) - (A.1 - S.1) * (C.2 - S.2) := by unfold cr; grind
    omega
  have f2 : (B.1 - S.1) * (A.2 - S.2) ≤ (A.1 - S.1) * (B.2 - S.2) ↔ 0 ≤ cr A B S := by
    have : cr A B S = (A.1 - S.1) * (B.2 - S.2) - (B.1 - S.1) * (A.2 - S.2) := by unfold cr; grind
    omega
  have f3 : (C.1 - S.1) * (B.2 - S.2) ≤ (B.1 - S.1) * (C.2 - S.2) ↔ 0 ≤ cr B C S := by
    have : cr B C S = (B.1 - S.1) * (C.2 - S.2) - (C.1 - S.1) * (B.2 - S.2) := by unfold cr; grind
    omega
  rw [f1, f2, f3]
  constructor
  · rintro ⟨_, _, ⟨h1, h2, h3⟩, h4⟩
    exact ⟨h2, h3, h1, h4⟩
  · rintro ⟨h2, h3, h1, h4⟩
    have e : cr A B S + cr B C S + cr C A S = cr A B C := by unfold cr; grind
    have e1 : cr A B C * S.1 = cr B C S * A.1 + cr C A S * B.1 + cr A B S * C.1 := by unfold cr; grind
    have e2 : cr A B C * S.2 = cr B C S * A.2 + cr C A S * B.2 + cr A B S * C.2 := by unfold cr; grind
    refine ⟨⟨box1 h2 h3 h1 h e e1 ?_ ?_ ?_, box2 h2 h3 h1 h e e1 ?_ ?_ ?_⟩, ⟨box1 h2 h3 h1 h e e2 ?_ ?_ ?_, box2 h2 h3 h1 h e e2 ?_ ?_ ?_⟩, ⟨h1, h2, h3⟩, h4⟩ <;> omega
theorem anyHit_iff {f : Nat → Nat → Nat → Bool} : ∀ {r : List Nat} {u s : Nat}, anyHit f u (s :: r) = true ↔ ∃ j, j < r.length ∧ f ((u :: s :: r).getD j 0) ((s :: r).getD j 0) (r.getD j 0) = true
  | [], u, s => by simp [anyHit]
  | w :: r, u, s => by
    have ih := anyHit_iff (f := f) (r := r) (u := s) (s := w)
    show (f u s w || anyHit f s (w :: r)) = true ↔ _
    rw [Bool.or_eq_true, ih]
    constructor
    · rintro (h | ⟨j, hj, h⟩)
      · exact ⟨0, by simp, h⟩
      · exact ⟨j + 1, by simpa using hj, h⟩
    · rintro ⟨j, hj, h⟩
      cases j with
      | zero => exact .inl h
      | succ j => exact .inr ⟨j, by simpa using hj, h⟩
/-- the law's hit, by places in the ring -/
def hitN (P : Nat → Pt) (l : List Nat) (k : Nat) : Bool := hitL (P (nth l (l.length - 1))) (P (nth l 0)) (P (nth l 1)) (P (nth l (k - 1))) (P (nth l k)) (P (nth l (k + 1)))
theorem nth_getD {l : List Nat} {i : Nat} (h : i < l.length) : nth l i = l.getD i 0 := by unfold nth; rw [Nat.mod_eq_of_lt h]
theorem ear_of {P : Nat → Pt} {l : List Nat} (h2 : 2 < l.length) : earP P l = true ↔ 0 < cr (P (nth l (l.length - 1))) (P (nth l 0)) (P (nth l 1)) ∧ ∀ k, 2 ≤ k → k < l.length - 1 → hitN P l k = false := by
  match l, h2 with
  | b :: c :: d :: r, _ =>
    have c0 : nth (b :: c :: d :: r) 0 = b := nth_zero
    have c1 : nth (b :: c :: d :: r) 1 = c := by rw [nth_lt (by simp)]; rfl
    have c3 : nth (b :: c :: d :: r) ((b :: c :: d :: r).length - 1) = lst d r := by rw [← lst_cons (x := c), ← lst_cons (x := b), lst_nth]; rfl
    have hN : ∀ k, hitN P (b :: c :: d :: r) k = hitL (P (lst d r)) (P b) (P c) (P (nth (b :: c :: d :: r) (k - 1))) (P (nth (b :: c :: d :: r) k)) (P (nth (b :: c :: d :: r) (k + 1))) := fun k => by unfold hitN; rw [c0, c1, c3]
    rw [c0, c1, c3, earP_cons]
    by_cases h : 0 < cr (P (lst d r)) (P b) (P c)
    · have h' : ¬ 0 ≤ ar (P (lst d r)) (P b) (P c) := by rw [ar_cr]; omega
      rw [decide_eq_false h']
      simp only [Bool.false_eq_true, if_false, Bool.not_eq_true', h, true_and]
      rw [← Bool.not_eq_true, anyHit_iff]
      constructor
      · intro hh k hk hk'
        rw [← Bool.not_eq_true, hN, ← hit_eq h]
        intro hit
        refine hh ⟨k - 2, by simp at hk'; omega, ?_⟩
        rw [nth_getD (by simp at hk' ⊢; omega), nth_getD (by simp at hk' ⊢; omega), nth_getD (by simp at hk' ⊢; omega)] at hit
        obtain ⟨k, rfl⟩ : ∃ j, k = j + 2 := ⟨k - 2, by omega⟩
        exact hit
      · rintro hh ⟨j, hj, hit⟩
        have := hh (j + 2) (by omega) (by simp; omega)
        rw [hN, ← hit_eq h, nth_getD (by simp; omega), nth_getD (by simp; omega), nth_getD (by simp; omega)] at this
        exact absurd (this.symm.trans hit) (by decide)
    · have h' : 0 ≤ ar (P (lst d r)) (P b) (P c) := by rw [ar_cr]; omega
      rw [decide_eq_true h']
      simp [h]
theorem opp0 {p q x y : Int} (hp : 0 ≤ p) (hq : 0 ≤ q) (h : 0 < p ∨ 0 < q) (e : p * x + q * y = 0) : (x ≤ 0 ∧ 0 ≤ y) ∨ (0 ≤ x ∧ y ≤ 0) := by
  refine Classical.byContradiction fun hc => ?_
  have : (0 < x ∧ 0 < y) ∨ (x < 0 ∧ y < 0) := by omega
  rcases this with ⟨h1, h2⟩ | ⟨h1, h2⟩
  · have a := Int.mul_nonneg hp (Int.le_of_lt h1)
    have b := Int.mul_nonneg hq (Int.le_of_lt h2)
    rcases h with h | h
    · have := Int.mul_pos h h1; omega
    · have := Int.mul_pos h h2; omega
  · have a := Int.mul_nonneg hp (show 0 ≤ -x by omega)
    have b := Int.mul_nonneg hq (show 0 ≤ -y by omega)
    rw [Int.mul_neg] at a b
    rcases h with h | h
    · have := Int.mul_pos h (show 0 < -x by omega); rw [Int.mul_neg] at this; omega
    · have := Int.mul_pos h (show 0 < -y by omega); rw [Int.mul_neg] at this; omega
/-- two flat stretches that part opposite ways -/
theorem opp {f1 f2 u1 u2 v1 v2 x y : Int} (hx : x = f1 * u2 - f2 * u1) (hy : y = f1 * v2 - f2 * v1) (hc : u1 * v2 = u2 * v1) (o1 : (u1 ≤ 0 ∧ 0 ≤ v1) ∨ (0 ≤ u1 ∧ v1 ≤ 0)) (o2 : (u2 ≤ 0 ∧ 0 ≤ v2) ∨ (0 ≤ u2 ∧ v2 ≤ 0)) (hne : x ≠ y) : (x ≤ 0 ∧ 0 ≤ y) ∨ (0 ≤ x ∧ y ≤ 0) := by
  by_cases z1 : u1 = 0 ∧ v1 = 0
  · obtain ⟨rfl, rfl⟩ := z1
    by_cases z2 : u2 = 0 ∧ v2 = 0
    · obtain ⟨rfl, rfl⟩ := z2
      exact absurd (by rw [hx, hy]) hne
    · rcases o2 with ⟨a, b⟩ | ⟨a, b⟩
      · exact opp0 (p := v2) (q := -u2) b (by omega) (by omega) (by rw [hx, hy]; grind)
      · exact opp0 (p := -v2) (q := u2) (by omega) a (by omega) (by rw [hx, hy]; grind)
  · rcases o1 with ⟨a, b⟩ | ⟨a, b⟩
    · exact opp0 (p := v1) (q := -u1) b (by omega) (by omega) (by rw [hx, hy]; grind)
    · exact opp0 (p := -v1) (q := u1) (by omega) a (by omega) (by rw [hx, hy]; grind)
theorem on_opp {A B C D : Pt} (h : onSeg A C B = true) (hc : cr A B C = 0) (hne : cr C D A ≠ cr C D B) : (cr C D A ≤ 0 ∧ 0 ≤ cr C D B) ∨ (0 ≤ cr C D A ∧ cr C D B ≤ 0) := by
  unfold onSeg at h
  simp only [Bool.and_eq_true, decide_eq_true_eq] at h
  refine opp (f1 := D.1 - C.1) (f2 := D.2 - C.2) (u1 := A.1 - C.1) (u2 := A.2 - C.2) (v1 := B.1 - C.1) (v2 := B.2 - C.2) (by unfold cr; grind) (by unfold cr; grind) (by unfold cr at hc; grind) ?_ ?_ hne
  · omega
  · omega
theorem sg_cr {p q r : Pt} : sg (ar p q r) = 0 ↔ cr p q r = 0 := by
  rw [ar_cr]; unfold sg; split
  · constructor <;> intro h <;> omega
  · split
    · constructor <;> intro h <;> omega
    · constructor <;> intro h <;> omega
theorem sg_ne {x y : Int} : sg (-x) ≠ sg (-y) ↔ ¬ ((0 < x ∧ 0 < y) ∨ (x < 0 ∧ y < 0) ∨ (x = 0 ∧ y = 0)) := by
  unfold sg
  split <;> split <;> (try split) <;> (try split) <;> (constructor <;> intro h <;> omega)
theorem on_lon {a b s : Pt} : (decide (cr a b s = 0) && onSeg a s b) = lon a b s := by
  unfold lon onSeg
  congr 1
  rw [Bool.eq_iff_iff]
  simp only [Bool.and_eq_true, decide_eq_true_eq]
  constructor
  · rintro ⟨⟨h1, h2⟩, h3, h4⟩; exact ⟨⟨h2, h1⟩, h4, h3⟩
  · rintro ⟨⟨h2, h1⟩, h4, h3⟩; exact ⟨⟨h1, h2⟩, h3, h4⟩
theorem meet_core {s1 s2 s3 s4 : Int} {l1 l2 l3 l4 : Bool} (d2 : s2 - s1 = s3 - s4)
    (k1 : l1 = true → s3 ≠ s4 → s1 = 0 ∧ ((s3 ≤ 0 ∧ 0 ≤ s4) ∨ (0 ≤ s3 ∧ s4 ≤ 0))) (k2 : l2 = true → s3 ≠ s4 → s2 = 0 ∧ ((s3 ≤ 0 ∧ 0 ≤ s4) ∨ (0 ≤ s3 ∧ s4 ≤ 0)))
    (k3 : l3 = true → s1 ≠ s2 → s3 = 0 ∧ ((s1 ≤ 0 ∧ 0 ≤ s2) ∨ (0 ≤ s1 ∧ s2 ≤ 0))) (k4 : l4 = true → s1 ≠ s2 → s4 = 0 ∧ ((s1 ≤ 0 ∧ 0 ≤ s2) ∨ (0 ≤ s1 ∧ s2 ≤ 0))) :
    ((!decide (sg (-s1) = sg (-s2)) && !decide (sg (-s3) = sg (-s4))) || (l1 || (l2 || (l3 || l4)))) =
      if decide (s2 - s1 = 0) then l1 || (l2 || (l3 || l4))
      else if decide (s2 - s1 < 0) then (decide (s2 - s1 ≤ s3) && decide (s3 ≤ 0)) && (decide (s2 - s1 ≤ -s1) && decide (-s1 ≤ 0))
      else (decide (0 ≤ s3) && decide (s3 ≤ s2 - s1)) && (decide (0 ≤ -s1) && decide (-s1 ≤ s2 - s1)) := by
  have g1 : (!decide (sg (-s1) = sg (-s2))) = decide (¬ ((0 < s1 ∧ 0 < s2) ∨ (s1 < 0 ∧ s2 < 0) ∨ (s1 = 0 ∧ s2 = 0))) := by rw [← decide_not]; exact decide_eq_decide.mpr sg_ne
  have g2 : (!decide (sg (-s3) = sg (-s4))) = decide (¬ ((0 < s3 ∧ 0 < s4) ∨ (s3 < 0 ∧ s4 < 0) ∨ (s3 = 0 ∧ s4 = 0))) := by rw [← decide_not]; exact decide_eq_decide.mpr sg_ne
  rw [g1, g2]
  by_cases h0 : s2 - s1 = 0
  · have e1 : decide (¬ ((0 < s1 ∧ 0 < s2) ∨ (s1 < 0 ∧ s2 < 0) ∨ (s1 = 0 ∧ s2 = 0))) = false := decide_eq_false (by omega)
    rw [e1, decide_eq_true h0]; simp
  · rw [decide_eq_false h0]
    simp only [Bool.false_eq_true, if_false]
    have n1 : s3 ≠ s4 := by omega
    have n2 : s1 ≠ s2 := by omega
    by_cases hm : (¬ ((0 < s1 ∧ 0 < s2) ∨ (s1 < 0 ∧ s2 < 0) ∨ (s1 = 0 ∧ s2 = 0))) ∧ (¬ ((0 < s3 ∧ 0 < s4) ∨ (s3 < 0 ∧ s4 < 0) ∨ (s3 = 0 ∧ s4 = 0)))
    · rw [decide_eq_true hm.1, decide_eq_true hm.2]
      simp only [Bool.and_self, Bool.true_or]
      symm
      by_cases hd : s2 - s1 < 0
      · rw [if_pos (decide_eq_true hd)]; simp only [Bool.and_eq_true, decide_eq_true_eq]; omega
      · rw [if_neg (by simpa using hd)]; simp only [Bool.and_eq_true, decide_eq_true_eq]; omega
    · have hf : (decide (¬ ((0 < s1 ∧ 0 < s2) ∨ (s1 < 0 ∧ s2 < 0) ∨ (s1 = 0 ∧ s2 = 0))) && decide (¬ ((0 < s3 ∧ 0 < s4) ∨ (s3 < 0 ∧ s4 < 0) ∨ (s3 = 0 ∧ s4 = 0)))) = false := by
        rw [← Bool.decide_and]; exact decide_eq_false hm
      rw [hf, Bool.false_or]
      have q1 : l1 = false := by
        cases l1 with
        | false => rfl
        | true => have := k1 rfl n1; omega
      have q2 : l2 = false := by
        cases l2 with
        | false => rfl
        | true => have := k2 rfl n1; omega
      have q3 : l3 = false := by
        cases l3 with
        | false => rfl
        | true => have := k3 rfl n2; omega
      have q4 : l4 = false := by
        cases l4 with
        | false => rfl
        | true => have := k4 rfl n2; omega
      rw [q1, q2, q3, q4]
      symm
      by_cases hd : s2 - s1 < 0
      · rw [if_pos (decide_eq_true hd)]; show _ = false; rw [← Bool.not_eq_true]; simp only [Bool.and_eq_true, decide_eq_true_eq]; omega
      · rw [if_neg (by simpa using hd)]; show _ = false; rw [← Bool.not_eq_true]; simp only [Bool.and_eq_true, decide_eq_true_eq]; omega
theorem inters_meet {A B C D : Pt} : inters A B C D = meet A B C D := by
  unfold inters
  simp only [show ∀ p q r : Pt, decide (sg (ar p q r) = 0) = decide (cr p q r = 0) from fun p q r => decide_eq_decide.mpr sg_cr, on_lon]
  unfold meet
  have d1 : (B.1 - A.1) * (D.2 - C.2) - (B.2 - A.2) * (D.1 - C.1) = cr A B D - cr A B C := by unfold cr; grind
  have d2 : (B.1 - A.1) * (D.2 - C.2) - (B.2 - A.2) * (D.1 - C.1) = cr C D A - cr C D B := by unfold cr; grind
  have d3 : (C.1 - A.1) * (D.2 - C.2) - (C.2 - A.2) * (D.1 - C.1) = cr C D A := by unfold cr; grind
  have d4 : cr A B C * -1 = - cr A B C := by omega
  simp only [d3, d4, d1, ar_cr]
  rw [d1] at d2
  have k1 : lon A B C = true → cr C D A ≠ cr C D B → cr A B C = 0 ∧ ((cr C D A ≤ 0 ∧ 0 ≤ cr C D B) ∨ (0 ≤ cr C D A ∧ cr C D B ≤ 0)) := fun h hne => by
    rw [← on_lon, Bool.and_eq_true, decide_eq_true_eq] at h
    exact ⟨h.1, on_opp h.2 h.1 hne⟩
  have k2 : lon A B D = true → cr C D A ≠ cr C D B → cr A B D = 0 ∧ ((cr C D A ≤ 0 ∧ 0 ≤ cr C D B) ∨ (0 ≤ cr C D A ∧ cr C D B ≤ 0)) := fun h hne => by
    rw [← on_lon, Bool.and_eq_true, decide_eq_true_eq] at h
    have e1 : cr D C A = - cr C D A := by unfold cr; grind
    have e2 : cr D C B = - cr C D B := by unfold cr; grind
    have := on_opp (D := C) h.2 h.1 (by rw [e1, e2]; omega)
    rw [e1, e2] at this
    exact ⟨h.1, by omega⟩
  have k3 : lon C D A = true → cr A B C ≠ cr A B D → cr C D A = 0 ∧ ((cr A B C ≤ 0 ∧ 0 ≤ cr A B D) ∨ (0 ≤ cr A B C ∧ cr A B D ≤ 0)) := fun h hne => by
    rw [← on_lon, Bool.and_eq_true, decide_eq_true_eq] at h
    exact ⟨h.1, on_opp h.2 h.1 hne⟩
  have k4 : lon C D B = true → cr A B C ≠ cr A B D → cr C D B = 0 ∧ ((cr A B C ≤ 0 ∧ 0 ≤ cr A B D) ∨ (0 ≤ cr A B C ∧ cr A B D ≤ 0)) := fun h hne => by
    rw [← on_lon, Bool.and_eq_true, decide_eq_true_eq] at h
    have e1 : cr B A C = - cr A B C := by unfold cr; grind
    have e2 : cr B A D = - cr A B D := by unfold cr; grind
    have := on_opp (D := A) h.2 h.1 (by rw [e1, e2]; omega)
    rw [e1, e2] at this
    exact ⟨h.1, by omega⟩
  exact meet_core d2 k1 k2 k3 k4
end Mine
namespace Mine
local macro_rules | `(tactic| ktd_rel) => `(tactic| first
  | with_reducible exact ev_int
  | with_reducible exact ev_none
  | with_reducible exact ev_bool
  | ((with_reducible refine' ev_localI ?ka ?kl ?kk ?kx ?kd); (case ka => first | rfl | assumption); (case kl => rfl); (case kk => rfl); (case kx => rfl); (case kd => decide))
  | ((with_reducible refine' ev_local ?ka ?kl ?kk ?kx ?kd); (case ka => first | rfl | assumption); (case kl => rfl); (case kk => rfl); (case kx => rfl); (case kd => decide))
  | ((with_reducible refine' ev_add ?ka ?kb); (case ka => ktd_rel); (case kb => ktd_rel))
  | ((with_reducible refine' ev_sub ?ka ?kb); (case ka => ktd_rel); (case kb => ktd_rel))
  | ((with_reducible refine' ev_lt ?ka ?kb); (case ka => ktd_rel); (case kb => ktd_rel))
  | ((with_reducible refine' ev_le ?ka ?kb); (case ka => ktd_rel); (case kb => ktd_rel))
  | ((with_reducible refine' ev_gt ?ka ?kb); (case ka => ktd_rel); (case kb => ktd_rel))
  | ((with_reducible refine' ev_ge ?ka ?kb); (case ka => ktd_rel); (case kb => ktd_rel))
  | ((with_reducible refine' ev_eq ?ka ?kb); (case ka => ktd_rel); (case kb => ktd_rel))
  | ((with_reducible refine' ev_ne ?ka ?kb); (case ka => ktd_rel); (case kb => ktd_rel))
  | ((with_reducible refine' ev_neg ?ka); (case ka => ktd_rel))
  | ((with_reducible refine' ev_t0 ?ka ?kN); (case ka => ktd_rel); (case kN => with_reducible assumption))
  | ((with_reducible refine' ev_t1 ?ka ?kN); (case ka => ktd_rel); (case kN => with_reducible assumption))
  | ((with_reducible refine' tr_cmp ?ka ?kb); (case ka => ktd_rel); (case kb => rfl))
  | fail "ev")
section
variable {c : Cfg} {m : Loc} {n : Led} {env : Env}
theorem nth_lt' {l : List Nat} {cnt i : Nat} (hin : ∀ j ∈ l, j < cnt) (hn : l ≠ []) : nth l i < cnt := hin _ (nth_mem hn)
theorem nat_cast_sub {a b : Nat} (h : b ≤ a) : (a : Int) - (b : Int) = ((a - b : Nat) : Int) := by omega
/-- ring[k] for a k within -/
theorem ev_rk {value slice : Expr} {pos : Pos} {D : Addr} {l : List Nat} {i : Int} {j : Nat} (hb : EvV c m n env value (.ref D)) (R : RingIn n D l) (he : EvI c m n env slice i) (e : i = (j : Int)) (hj : j < l.length) (hz : l.length ≤ 1000) (hs : NoSl slice) : EvI c m n env (.Subscript value slice pos) (nth l j : Int) :=
  ev_ring hb R he (by rw [e]; exact seqIdx_nat hj) hj hz hs
theorem c_lear {R D : Addr} {rs : Nat → Addr} {cnt : Nat} {P : Nat → Pt} {l : List Nat} (H : RowsIn n R rs cnt P) (hR : RingIn n D l) (hin : ∀ i ∈ l, i < cnt) (h2 : 2 < l.length) (hz : l.length ≤ 1000) : Fn 2 226 [.ref R, .ref D] [] n (fun v n' => n' = n ∧ v = .bool (earP P l)) := by
  refine Fn.drop (fn_enter (binds := [("rows", .ref R), ("ring", .ref D)]) (fun _ => by rfl) (fun _ => by rfl) (fun _ _ _ => BindsTo.of_eq (by rfl)) (by rfl) (by rfl) (by rfl) (by rfl) (by rfl) ?_)
  intro c ok rm nd
  have hn : l ≠ [] := by intro e; subst e; simp at h2
  have q0 : nth l 0 < cnt := nth_lt' hin hn
  have q1 : nth l 1 < cnt := nth_lt' hin hn
  have q4 : nth l (l.length - 1) < cnt := nth_lt' hin hn
  have ek {k : Nat} (hk : k < cnt) : TupIn n (rs k) (P k) := H.row k hk
  have T0 := H.row _ q0
  have T1 := H.row _ q1
  have T4 := H.row _ q4
  refine run_cons (run_assign (useV (v := .ref (rs (nth l (l.length - 1)))) (ev_row (by ktd_rel) H (ev_r1 (by ktd_rel) hR hn hz) q4 nosl_sub) ?_))
  refine run_cons (run_assign (useV (v := .ref (rs (nth l 0))) (ev_row (by ktd_rel) H (ev_r0 (by ktd_rel) hR hn hz) q0 nosl_sub) ?_))
  refine run_cons (run_assign (useV (v := .ref (rs (nth l 1))) (ev_row (by ktd_rel) H (ev_rk (j := 1) (by ktd_rel) hR ev_int rfl (by omega) hz nosl_const) q1 nosl_sub) ?_))
  refine run_cons (run_ifb (tr_cmp (ev_le (ev_cross (by ktd_rel) T4 (by ktd_rel) T0 (by ktd_rel) T1 (H.sm _ q4) (H.sm _ q0) (H.sm _ q1) rm) ev_int)) (fun h => ?_) (fun h => ?_))
  · refine run_cons (run_ret (useV ev_bool ⟨fun _ h => h, ?_⟩))
    have h' := of_decide_eq_true h
    have : ¬ earP P l = true := fun e => by have := ((ear_of h2).mp e).1; omega
    rw [Bool.not_eq_true] at this
    rw [this]; rfl
  have h' : 0 < cr (P (nth l (l.length - 1))) (P (nth l 0)) (P (nth l 1)) := by have := of_decide_eq_false h; omega
  refine run_nil ?_
  have e3 : (l.length : Int) - 1 = ((l.length - 1 : Nat) : Int) := by omega
  refine run_cons (run_for_range (J := fun i m n' => (∀ p ∈ n, p ∈ n') ∧ m "rows" = some (.ref R) ∧ m "ring" = some (.ref D) ∧ m "a" = some (.ref (rs (nth l (l.length - 1)))) ∧ m "b" = some (.ref (rs (nth l 0))) ∧ m "c" = some (.ref (rs (nth l 1))) ∧ ∀ k, 2 ≤ k → k < i + 2 → hitN P l k = false)
    (run_callT g_range b_range (by decide) (.consI ev_int (by intro _ _; rfl) (.consI (ev_sub (ev_lenR (by ktd_rel) hR hz) ev_int) (by intro _ _; rfl) .nil)) (fun vs hvs => ?_)))
  obtain ⟨t1, _, rfl, t2, _, rfl, rfl⟩ := hvs
  refine run_range2 fun W v hW => ⟨W, 2, (l.length : Int) - 1, 1, t1, t2, v, l.length - 1 - 2, rfl, List.mem_cons_self .., by rw [e3]; exact range_small (a := 2) (by decide) (by omega), by rw [e3]; exact range_size (a := 2), ⟨fun p hp => List.mem_cons_of_mem _ hp, rfl, rfl, rfl, rfl, rfl, fun k h1 h2 => by omega⟩, ?_, ?_⟩
  · rintro i t m n' I oI hi ⟨sub, m1, m2, m3, m4, m5, hh⟩ nd' off
    have sub' : ∀ p ∈ n, p ∈ (I, oI) :: n' := fun p hp => List.mem_cons_of_mem _ (sub p hp)
    have H' := H.sub sub'
    have hR' := hR.sub sub'
    have T0' := T0.sub sub'
    have T1' := T1.sub sub'
    have T4' := T4.sub sub'
    have ei : (2 : Int) + (i : Int) * 1 = ((i + 2 : Nat) : Int) := by omega
    have qk : nth l (i + 2) < cnt := nth_lt' hin hn
    have qa : nth l (i + 2 - 1) < cnt := nth_lt' hin hn
    have qb : nth l (i + 2 + 1) < cnt := nth_lt' hin hn
    have Tk := H'.row _ qk
    have Ta := H'.row _ qa
    have Tb := H'.row _ qb
    refine run_cons (run_assign (useV (v := .ref (rs (nth l (i + 2)))) (ev_row (by ktd_rel) H' (ev_rk (i := 2 + (i : Int) * 1) (by ktd_rel) hR' (by ktd_rel) ei (by omega) hz nosl_name) qk nosl_sub) ?_))
    refine run_cons (run_ifb (b := hitN P l (i + 2)) (Ev.cast (tr_and (tr_cmp (ev_ge (ev_cross (by ktd_rel) T4' (by ktd_rel) T0' (by ktd_rel) Tk (H.sm _ q4) (H.sm _ q0) (H.sm _ qk) rm) ev_int)) fun _ => tr_and (tr_cmp (ev_ge (ev_cross (by ktd_rel) T0' (by ktd_rel) T1' (by ktd_rel) Tk (H.sm _ q0) (H.sm _ q1) (H.sm _ qk) rm) ev_int)) fun _ =>
      tr_and (tr_cmp (ev_ge (ev_cross (by ktd_rel) T1' (by ktd_rel) T4' (by ktd_rel) Tk (H.sm _ q1) (H.sm _ q4) (H.sm _ qk) rm) ev_int)) fun _ => tr_and (tr_cmp (ev_le (ev_cross (ev_row (by ktd_rel) H' (ev_rk (i := 2 + (i : Int) * 1 - 1) (by ktd_rel) hR' (by ktd_rel) (by omega) (by omega) hz nosl_bin) qa nosl_sub) Ta (by ktd_rel) Tk (ev_row (by ktd_rel) H' (ev_rk (i := 2 + (i : Int) * 1 + 1) (by ktd_rel) hR' (by ktd_rel) (by omega) (by omega) hz nosl_bin) qb nosl_sub) Tb (H.sm _ qa) (H.sm _ qk) (H.sm _ qb) rm) ev_int)) fun _ => tr_and0) (by rw [Bool.and_true]; rfl)) (fun hb => ?_) (fun hb => ?_))
    · refine run_cons (run_ret (useV ev_bool ⟨sub', ?_⟩))
      have : ¬ earP P l = true := fun e => by have := ((ear_of h2).mp e).2 (i + 2) (by omega) (by omega); rw [hb] at this; cases this
      rw [Bool.not_eq_true] at this
      rw [this]; rfl
    · refine run_nil (run_nil ⟨n', fun p hp => List.mem_cons_of_mem _ hp, List.mem_cons_self .., off, nd', sub, m1, m2, m3, m4, m5, fun k hk hk' => ?_⟩)
      by_cases e : k = i + 2
      · subst e; exact hb
      · exact hh k hk (by omega)
  · rintro m n' ⟨sub, m1, m2, m3, m4, m5, hh⟩ nd'
    have hR' := hR.sub sub
    refine run_cons (run_ret (useV (v := .bool (earP P l)) (Ev.cast (ev_gt (ev_lenR (by ktd_rel) hR' hz) ev_int) ?_) ⟨sub, rfl⟩))
    have : earP P l = true := (ear_of h2).mpr ⟨h', fun k h1 h2 => hh k h1 (by omega)⟩
    rw [this]
    show Value.bool _ = Value.bool _
    congr 1
    simp; omega
theorem ev_lear {e1 e2 : Expr} {np pos : Pos} {R D : Addr} {rs : Nat → Addr} {cnt : Nat} {P : Nat → Pt} {l : List Nat} (h1 : EvV c m n env e1 (.ref R)) (H : RowsIn n R rs cnt P) (h2 : EvV c m n env e2 (.ref D)) (hR : RingIn n D l) (hin : ∀ i ∈ l, i < cnt) (h3 : 2 < l.length) (hz : l.length ≤ 1000) (rm : Room 2 c) (hg : env.globals = mainGlobals := by rfl) (hke : env.scope.kind = .function := by rfl)
    (hx : env.kindOf "_law_ear" = some .globalImplicit := by rfl) (n1 : NotStar e1 := by intro _ _; rfl) (n2 : NotStar e2 := by intro _ _; rfl) : EvB c m n env (.Call (.Name "_law_ear" np) [e1, e2] [] pos) (earP P l) :=
  ev_call g_law_ear k_law_ear (.consV h1 n1 (.consV h2 n2 .nil)) (fun vs ⟨_, e, _, e', e3⟩ => by subst e3; subst e'; subst e; exact c_lear H hR hin h3 hz) rm hg hke hx
end
end Mine
namespace Mine
local macro_rules | `(tactic| ktd_rel) => `(tactic| first
  | with_reducible exact ev_int
  | with_reducible exact ev_none
  | with_reducible exact ev_bool
  | ((with_reducible refine' ev_localI ?ka ?kl ?kk ?kx ?kd); (case ka => first | rfl | assumption); (case kl => rfl); (case kk => rfl); (case kx => rfl); (case kd => decide))
  | ((with_reducible refine' ev_local ?ka ?kl ?kk ?kx ?kd); (case ka => first | rfl | assumption); (case kl => rfl); (case kk => rfl); (case kx => rfl); (case kd => decide))
  | ((with_reducible refine' ev_add ?ka ?kb); (case ka => ktd_rel); (case kb => ktd_rel))
  | ((with_reducible refine' ev_sub ?ka ?kb); (case ka => ktd_rel); (case kb => ktd_rel))
  | ((with_reducible refine' ev_lt ?ka ?kb); (case ka => ktd_rel); (case kb => ktd_rel))
  | ((with_reducible refine' ev_le ?ka ?kb); (case ka => ktd_rel); (case kb => ktd_rel))
  | ((with_reducible refine' ev_gt ?ka ?kb); (case ka => ktd_rel); (case kb => ktd_rel))
  | ((with_reducible refine' ev_ge ?ka ?kb); (case ka => ktd_rel); (case kb => ktd_rel))
  | ((with_reducible refine' ev_eq ?ka ?kb); (case ka => ktd_rel); (case kb => ktd_rel))
  | ((with_reducible refine' ev_ne ?ka ?kb); (case ka => ktd_rel); (case kb => ktd_rel))
  | ((with_reducible refine' ev_neg ?ka); (case ka => ktd_rel))
  | ((with_reducible refine' ev_t0 ?ka ?kN); (case ka => ktd_rel); (case kN => with_reducible assumption))
  | ((with_reducible refine' ev_t1 ?ka ?kN); (case ka => ktd_rel); (case kN => with_reducible assumption))
  | ((with_reducible refine' tr_cmp ?ka ?kb); (case ka => ktd_rel); (case kb => rfl))
  | fail "ev")
section
variable {c : Cfg} {m : Loc} {n : Led} {env : Env}
theorem rot_in {l : List Nat} {cnt : Nat} (h : ∀ i ∈ l, i < cnt) : ∀ i ∈ rot l, i < cnt := fun i hi => h i (mem_rot.mp hi)
theorem back_in {l : List Nat} {cnt : Nat} (h : ∀ i ∈ l, i < cnt) : ∀ i ∈ back l, i < cnt := fun i hi => h i (mem_back hi)
theorem cast_eq {a b : Nat} : decide ((a : Int) = (b : Int)) = decide (a = b) := decide_eq_decide.mpr (by omega)
theorem evp_none : EvP c m n env none none := trivial
theorem evp_some {e : Expr} {i : Int} (h : EvI c m n env e i) : EvP c m n env (some e) (some i) := h
theorem c_lfilter {R D : Addr} {rs : Nat → Addr} {cnt : Nat} {P : Nat → Pt} {l o : List Nat} (H : RowsIn n R rs cnt P) (hR : RingIn n D l) (hin : ∀ i ∈ l, i < cnt) (hn : l ≠ []) (hz : l.length ≤ 1000) (hF : Filt P l (nth l 0) o) :
    Fn 2 219 [.ref R, .ref D] [] n (fun v n' => (∀ p ∈ n, p ∈ n') ∧ ∃ D', v = .ref D' ∧ (∀ p ∈ n, p.1 < D') ∧ RingIn n' D' o) := by
  refine fn_enter (binds := [("rows", .ref R), ("ring", .ref D)]) (fun _ => by rfl) (fun _ => by rfl) (fun _ _ _ => BindsTo.of_eq (by rfl)) (by rfl) (by rfl) (by rfl) (by rfl) (by rfl) ?_
  intro c ok rm nd
  refine run_cons (run_assign (useI (ev_r0 (by ktd_rel) hR hn hz) fun t0 => ?_))
  refine run_cons (run_while ?_)
  generalize hs : nth l 0 = s at *
  refine loop_of (fun m n' => m "rows" = some (.ref R) ∧ (∃ D, m "ring" = some (.ref D) ∧ RingIn n' D l) ∧ (∃ t, m "stop" = some (.int s t)) ∧ (∀ p ∈ n, p ∈ n') ∧ (∀ i ∈ l, i < cnt) ∧ l ≠ [] ∧ l.length ≤ 1000) ?_ ⟨rfl, ⟨D, rfl, hR⟩, ⟨t0, rfl⟩, fun p hp => hp, hin, hn, hz⟩
  clear hs hR hin hn hz t0 D
  induction hF with
  | @one l s hz h1 =>
    rintro m n' ⟨m1, ⟨D, m2, hR⟩, ⟨ts, m3⟩, sub, hin, hn, hl⟩
    have H' := H.sub sub
    have q0 : nth l 0 < cnt := nth_lt' hin hn
    have q1 : nth l 1 < cnt := nth_lt' hin hn
    have q4 : nth l (l.length - 1) < cnt := nth_lt' hin hn
    refine loop_turn (useT (tr_val ev_bool) ?_)
    refine run_cons (run_ifb (b := zeroP P l) (tr_cmp (Ev.cast (ev_eq (ev_cross (ev_row (by ktd_rel) H' (ev_r1 (by ktd_rel) hR hn hl) q4 nosl_sub) (H'.row _ q4) (ev_row (by ktd_rel) H' (ev_r0 (by ktd_rel) hR hn hl) q0 nosl_sub) (H'.row _ q0) (ev_row (by ktd_rel) H' (ev_rmod (i := 1) (by ktd_rel) hR ev_int (ev_lenR (by ktd_rel) hR hl) hn hl) q1 nosl_sub) (H'.row _ q1) (H.sm _ q4) (H.sm _ q0) (H.sm _ q1) rm) ev_int) (by unfold zeroP; congr 1; exact decide_eq_decide.mpr (by rw [ar_cr]; omega)))) (fun _ => ?_) (fun h => by rw [hz] at h; cases h))
    refine run_cons (run_assign (run_rcat (l' := back l) (fun _ => by ktd_rel) (fun _ => by ktd_rel) hR (fun _ => evp_some (ev_neg ev_int)) (fun _ => evp_none) (fun _ => evp_some ev_int) (fun _ => evp_some (ev_neg ev_int)) hl pick_back (fun D' n₁ sub₁ new₁ hR₁ => ?_)))
    have hb := back_ne hn
    have hbl : (back l).length ≤ 1000 := by rw [back_length]; split <;> omega
    have sub' : ∀ p ∈ n, p ∈ n₁ := fun p hp => sub₁ p (sub p hp)
    refine run_cons (run_assign (useI (ev_r0 (by ktd_rel) hR₁ hb hbl) fun t1 => ?_))
    refine run_cons (run_ifb (b := true) (tr_cmp (Ev.cast (ev_eq (ev_lenR (by ktd_rel) hR₁ hbl) ev_int) (by rw [h1]; rfl))) (fun _ => ?_) (fun h => by cases h))
    exact run_cons (run_ret (useV (v := .ref D') (by ktd_rel) ⟨sub', D', rfl, fun p hp => new₁ p (sub p hp), hR₁⟩))
  | @drop l s o hz h1 hF ih =>
    rintro m n' ⟨m1, ⟨D, m2, hR⟩, ⟨ts, m3⟩, sub, hin, hn, hl⟩
    have H' := H.sub sub
    have q0 : nth l 0 < cnt := nth_lt' hin hn
    have q1 : nth l 1 < cnt := nth_lt' hin hn
    have q4 : nth l (l.length - 1) < cnt := nth_lt' hin hn
    refine loop_turn (useT (tr_val ev_bool) ?_)
    refine run_cons (run_ifb (b := zeroP P l) (tr_cmp (Ev.cast (ev_eq (ev_cross (ev_row (by ktd_rel) H' (ev_r1 (by ktd_rel) hR hn hl) q4 nosl_sub) (H'.row _ q4) (ev_row (by ktd_rel) H' (ev_r0 (by ktd_rel) hR hn hl) q0 nosl_sub) (H'.row _ q0) (ev_row (by ktd_rel) H' (ev_rmod (i := 1) (by ktd_rel) hR ev_int (ev_lenR (by ktd_rel) hR hl) hn hl) q1 nosl_sub) (H'.row _ q1) (H.sm _ q4) (H.sm _ q0) (H.sm _ q1) rm) ev_int) (by unfold zeroP; congr 1; exact decide_eq_decide.mpr (by rw [ar_cr]; omega)))) (fun _ => ?_) (fun h => by rw [hz] at h; cases h))
    refine run_cons (run_assign (run_rcat (l' := back l) (fun _ => by ktd_rel) (fun _ => by ktd_rel) hR (fun _ => evp_some (ev_neg ev_int)) (fun _ => evp_none) (fun _ => evp_some ev_int) (fun _ => evp_some (ev_neg ev_int)) hl pick_back (fun D' n₁ sub₁ new₁ hR₁ => ?_)))
    have hb := back_ne hn
    have hbl : (back l).length ≤ 1000 := by rw [back_length]; split <;> omega
    have sub' : ∀ p ∈ n, p ∈ n₁ := fun p hp => sub₁ p (sub p hp)
    refine run_cons (run_assign (useI (ev_r0 (by ktd_rel) hR₁ hb hbl) fun t1 => ?_))
    refine run_cons (run_ifb (b := false) (tr_cmp (Ev.cast (ev_eq (ev_lenR (by ktd_rel) hR₁ hbl) ev_int) (by congr 1; exact decide_eq_false (by omega)))) (fun h => by cases h) (fun _ => run_nil (run_nil (run_nil ?_))))
    refine ih _ _ ?_
    exact ⟨m1, ⟨D', rfl, hR₁⟩, ⟨t1, rfl⟩, sub', back_in hin, hb, hbl⟩
  | @stop l s hz h1 =>
    rintro m n' ⟨m1, ⟨D, m2, hR⟩, ⟨ts, m3⟩, sub, hin, hn, hl⟩
    have H' := H.sub sub
    have q0 : nth l 0 < cnt := nth_lt' hin hn
    have q1 : nth l 1 < cnt := nth_lt' hin hn
    have q4 : nth l (l.length - 1) < cnt := nth_lt' hin hn
    refine loop_turn (useT (tr_val ev_bool) ?_)
    refine run_cons (run_ifb (b := zeroP P l) (tr_cmp (Ev.cast (ev_eq (ev_cross (ev_row (by ktd_rel) H' (ev_r1 (by ktd_rel) hR hn hl) q4 nosl_sub) (H'.row _ q4) (ev_row (by ktd_rel) H' (ev_r0 (by ktd_rel) hR hn hl) q0 nosl_sub) (H'.row _ q0) (ev_row (by ktd_rel) H' (ev_rmod (i := 1) (by ktd_rel) hR ev_int (ev_lenR (by ktd_rel) hR hl) hn hl) q1 nosl_sub) (H'.row _ q1) (H.sm _ q4) (H.sm _ q0) (H.sm _ q1) rm) ev_int) (by unfold zeroP; congr 1; exact decide_eq_decide.mpr (by rw [ar_cr]; omega)))) (fun h => by rw [hz] at h; cases h) (fun _ => ?_))
    refine run_cons (run_assign (run_rcat (l' := rot l) (fun _ => by ktd_rel) (fun _ => by ktd_rel) hR (fun _ => evp_some ev_int) (fun _ => evp_none) (fun _ => evp_none) (fun _ => evp_some ev_int) hl pick_rot (fun D' n₁ sub₁ new₁ hR₁ => ?_)))
    have hb := rot_ne hn
    have hbl : (rot l).length ≤ 1000 := by rw [rot_length]; exact hl
    have sub' : ∀ p ∈ n, p ∈ n₁ := fun p hp => sub₁ p (sub p hp)
    refine run_cons (run_ifb (b := true) (tr_cmp (Ev.cast (ev_eq (ev_r0 (by ktd_rel) hR₁ hb hbl) (by ktd_rel)) (by rw [cast_eq, decide_eq_true h1]))) (fun _ => ?_) (fun h => by cases h))
    exact run_cons (run_ret (useV (v := .ref D') (by ktd_rel) ⟨sub', D', rfl, fun p hp => new₁ p (sub p hp), hR₁⟩))
  | @turn l s o hz h1 hF ih =>
    rintro m n' ⟨m1, ⟨D, m2, hR⟩, ⟨ts, m3⟩, sub, hin, hn, hl⟩
    have H' := H.sub sub
    have q0 : nth l 0 < cnt := nth_lt' hin hn
    have q1 : nth l 1 < cnt := nth_lt' hin hn
    have q4 : nth l (l.length - 1) < cnt := nth_lt' hin hn
    refine loop_turn (useT (tr_val ev_bool) ?_)
    refine run_cons (run_ifb (b := zeroP P l) (tr_cmp (Ev.cast (ev_eq (ev_cross (ev_row (by ktd_rel) H' (ev_r1 (by ktd_rel) hR hn hl) q4 nosl_sub) (H'.row _ q4) (ev_row (by ktd_rel) H' (ev_r0 (by ktd_rel) hR hn hl) q0 nosl_sub) (H'.row _ q0) (ev_row (by ktd_rel) H' (ev_rmod (i := 1) (by ktd_rel) hR ev_int (ev_lenR (by ktd_rel) hR hl) hn hl) q1 nosl_sub) (H'.row _ q1) (H.sm _ q4) (H.sm _ q0) (H.sm _ q1) rm) ev_int) (by unfold zeroP; congr 1; exact decide_eq_decide.mpr (by rw [ar_cr]; omega)))) (fun h => by rw [hz] at h; cases h) (fun _ => ?_))
    refine run_cons (run_assign (run_rcat (l' := rot l) (fun _ => by ktd_rel) (fun _ => by ktd_rel) hR (fun _ => evp_some ev_int) (fun _ => evp_none) (fun _ => evp_none) (fun _ => evp_some ev_int) hl pick_rot (fun D' n₁ sub₁ new₁ hR₁ => ?_)))
    have hb := rot_ne hn
    have hbl : (rot l).length ≤ 1000 := by rw [rot_length]; exact hl
    have sub' : ∀ p ∈ n, p ∈ n₁ := fun p hp => sub₁ p (sub p hp)
    refine run_cons (run_ifb (b := false) (tr_cmp (Ev.cast (ev_eq (ev_r0 (by ktd_rel) hR₁ hb hbl) (by ktd_rel)) (by rw [cast_eq, decide_eq_false h1]))) (fun h => by cases h) (fun _ => run_nil (run_nil (run_nil ?_))))
    refine ih _ _ ?_
    exact ⟨m1, ⟨D', rfl, hR₁⟩, ⟨ts, m3⟩, sub', rot_in hin, hb, hbl⟩
end
end Mine
namespace Mine
local macro_rules | `(tactic| ktd_rel) => `(tactic| first
  | with_reducible exact ev_int
  | with_reducible exact ev_none
  | with_reducible exact ev_bool
  | ((with_reducible refine' ev_localI ?ka ?kl ?kk ?kx ?kd); (case ka => first | rfl | assumption); (case kl => rfl); (case kk => rfl); (case kx => rfl); (case kd => decide))
  | ((with_reducible refine' ev_local ?ka ?kl ?kk ?kx ?kd); (case ka => first | rfl | assumption); (case kl => rfl); (case kk => rfl); (case kx => rfl); (case kd => decide))
  | ((with_reducible refine' ev_add ?ka ?kb); (case ka => ktd_rel); (case kb => ktd_rel))
  | ((with_reducible refine' ev_sub ?ka ?kb); (case ka => ktd_rel); (case kb => ktd_rel))
  | ((with_reducible refine' ev_lt ?ka ?kb); (case ka => ktd_rel); (case kb => ktd_rel))
  | ((with_reducible refine' ev_le ?ka ?kb); (case ka => ktd_rel); (case kb => ktd_rel))
  | ((with_reducible refine' ev_gt ?ka ?kb); (case ka => ktd_rel); (case kb => ktd_rel))
  | ((with_reducible refine' ev_ge ?ka ?kb); (case ka => ktd_rel); (case kb => ktd_rel))
  | ((with_reducible refine' ev_eq ?ka ?kb); (case ka => ktd_rel); (case kb => ktd_rel))
  | ((with_reducible refine' ev_ne ?ka ?kb); (case ka => ktd_rel); (case kb => ktd_rel))
  | ((with_reducible refine' ev_neg ?ka); (case ka => ktd_rel))
  | ((with_reducible refine' ev_t0 ?ka ?kN); (case ka => ktd_rel); (case kN => with_reducible assumption))
  | ((with_reducible refine' ev_t1 ?ka ?kN); (case ka => ktd_rel); (case kN => with_reducible assumption))
  | ((with_reducible refine' tr_cmp ?ka ?kb); (case ka => ktd_rel); (case kb => rfl))
  | fail "ev")
section
variable {c : Cfg} {m : Loc} {n : Led} {env : Env}
/-- the triples told by the law -/
inductive DueAre (n : Led) : List Value → List Tri → Prop
  | nil : DueAre n [] []
  | cons {a : Addr} {t1 t2 t3 : Tok} {vs : List Value} {t : Tri} {ts : List Tri} : (a, tupO [.int (t.1 : Nat) t1, .int (t.2.1 : Nat) t2, .int (t.2.2 : Nat) t3] 0) ∈ n → DueAre n vs ts → DueAre n (.ref a :: vs) (t :: ts)
theorem DueAre.length {n : Led} {vs : List Value} {ts : List Tri} (h : DueAre n vs ts) : vs.length = ts.length := by induction h <;> simp_all
theorem DueAre.append {n : Led} {vs ws : List Value} {ts us : List Tri} (h : DueAre n vs ts) (h' : DueAre n ws us) : DueAre n (vs ++ ws) (ts ++ us) := by
  induction h with
  | nil => exact h'
  | cons a _ ih => exact .cons a ih
theorem DueAre.other {n n' : Led} {vs : List Value} {ts : List Tri} {ds : List Addr} (h : DueAre n vs ts) (o : Only ds n n') (hd : ∀ D ws, (D, tupO ws 0) ∈ n → D ∉ ds) : DueAre n' vs ts := by
  induction h with
  | nil => exact .nil
  | cons a _ ih => exact .cons (o _ a (hd _ _ a)) ih
theorem DueAre.sub {n n' : Led} {vs : List Value} {ts : List Tri} (h : DueAre n vs ts) (o : ∀ p ∈ n, p ∈ n') : DueAre n' vs ts := h.other (ds := []) (fun p hp _ => o p hp) (fun _ _ _ => by simp)
def DueIn (n : Led) (C : Addr) (ts : List Tri) : Prop := ∃ vs k, (C, listO vs k) ∈ n ∧ DueAre n vs ts
theorem DueIn.sub {n n' : Led} {C : Addr} {ts : List Tri} (h : DueIn n C ts) (o : ∀ p ∈ n, p ∈ n') : DueIn n' C ts := let ⟨vs, k, h1, h2⟩ := h; ⟨vs, k, o _ h1, h2.sub o⟩
theorem DueIn.push {n n' : Led} {C D : Addr} {vs : List Value} {k : Nat} {ts : List Tri} {t : Tri} {t1 t2 t3 : Tok} (h : (C, listO vs k) ∈ n) (h2 : DueAre n vs ts) (nd : Keys n) (o : Only [C] n n') (h' : (C, listO (vs ++ [.ref D]) (k + 1)) ∈ n') (hD : (D, tupO [.int (t.1 : Nat) t1, .int (t.2.1 : Nat) t2, .int (t.2.2 : Nat) t3] 0) ∈ n') : DueIn n' C (ts ++ [t]) :=
  ⟨vs ++ [.ref D], k + 1, h', (h2.other o fun D ws hD e => key_ne nd hD h tup_ne_list (by simpa using e)).append (.cons hD .nil)⟩
theorem RingIn.other {n n' : Led} {C D : Addr} {l : List Nat} (h : RingIn n D l) (o : Only [C] n n') (hne : D ≠ C) : RingIn n' D l := let ⟨vs, k, h1, h2⟩ := h; ⟨vs, k, o _ h1 (by simpa using hne), h2⟩
/-- ring[..] -/
theorem run_rslice {v1 : Expr} {lo1 hi1 : Option Expr} {p1 q1 : Pos} {D : Addr} {l l' : List Nat} {a1 b1 : Option Int} {Q : Value → Loc → Led → Prop} (h1 : EvV c m n env v1 (.ref D)) (R : RingIn n D l)
    (ha1 : EvP c m n env lo1 a1) (hb1 : EvP c m n env hi1 b1) (hz : l.length ≤ 1000) (e : pickN l a1 b1 = l')
    (q : ∀ D' n', (∀ p ∈ n, p ∈ n') → (∀ p ∈ n, p.1 < D') → RingIn n' D' l' → Q (.ref D') m n')
    (ht1 : ∀ d r, letTemporaryGo v1 (.ref d) r = Pure.pure () := by intro _ _; rfl) : Run c m n (eval (.Subscript v1 (.Slice lo1 hi1 none p1) q1) env) Q := by
  obtain ⟨vs, k, h, hv⟩ := R
  have hl : vs.length = l.length := hv.length.trans nums_length
  refine run_slice h1 h ha1 hb1 (by omega) (fun D1 l1 => ?_) (ht1 _)
  exact q D1 _ (fun p hp => List.mem_cons_of_mem _ hp) l1 ⟨_, 0, List.mem_cons_self .., e ▸ ints_pick hv⟩
theorem pick_two {p q b : Nat} {r : List Nat} : pickN (p :: q :: b :: r) (some 2) none = b :: r := by simp [pickN, kms_lo, kms_hi]
theorem ev_neT {e1 e2 : Expr} {pos : Pos} {a b : Addr} {A B : Pt} (h1 : EvV c m n env e1 (.ref a)) (hA : TupIn n a A) (h2 : EvV c m n env e2 (.ref b)) (hB : TupIn n b B) (rm : Room 1 c) : EvB c m n env (.Compare e1 [.NotEq] [e2] pos) (!decide (A = B)) :=
  let ⟨_, _, _, hA⟩ := hA
  let ⟨_, _, _, hB⟩ := hB
  run_cmp (useV h1 (useV h2 (run_neT hA hB (by have := rm.2; omega) ⟨rfl, rfl, rfl⟩)))
theorem Ev.ofI {e : Expr} {i j : Int} (h : EvI c m n env e i) (q : i = j) : EvI c m n env e j := q ▸ h
theorem Loop.keys {test : Expr} {body : List Stmt} {Q : Flow → Loc → Led → Prop} (h : Keys n → Loop c env test body Q m n) : Loop c env test body Q m n := fun s S => h S.nd s S
/-- the one ahead of the last one -/
theorem ev_rback {value e1 e2 : Expr} {k : Nat} {p p' pp pos : Pos} {D : Addr} {l : List Nat} (hb : EvV c m n env value (.ref D)) (R : RingIn n D l) (h1 : EvI c m n env e1 (l.length : Int)) (h2 : EvI c m n env e2 (l.length : Int)) (hn : l ≠ []) (hz : l.length ≤ 1000) :
    EvI c m n env (.Subscript value (.BinOp (.BinOp e1 .Sub (.Constant (.int 2) k p) p') .Mod e2 pp) pos) (nth l (2 * l.length - 2) : Int) := by
  have hp := List.length_pos_iff.mpr hn
  have hm := Nat.mod_lt (2 * l.length - 2) hp
  have e : Int.fmod ((l.length : Int) - 2) (l.length : Int) = (((2 * l.length - 2) % l.length : Nat) : Int) := by
    by_cases h1 : l.length = 1
    · rw [h1]; rfl
    · rw [show (l.length : Int) - 2 = ((l.length - 2 : Nat) : Int) by omega, fmod_nat]
      congr 1
      rw [show 2 * l.length - 2 = (l.length - 2) + l.length by omega, Nat.add_mod_right]
  have := ev_ring (pos := pos) hb R (ev_mod (pos := pp) (ev_sub (pos := p') h1 (ev_int (i := 2) (k := k) (pos := p))) h2 (by omega)) (by rw [e]; exact seqIdx_nat hm) hm hz nosl_bin
  rwa [nth_mod (j := 2 * l.length - 2) (by rw [Nat.mod_mod])] at this
theorem c_lsweep0 {R D : Addr} {rs : Nat → Addr} {cnt : Nat} {P : Nat → Pt} {l g : List Nat} {t : List Tri} (H : RowsIn n R rs cnt P) (hR : RingIn n D l) (hin : ∀ i ∈ l, i < cnt) (hn : l ≠ []) (hz : l.length ≤ 1000) (hS : Swp P l (nth l 0) t g) (ht : t.length ≤ 10000) :
    Fn 4 212 [.ref R, .ref D] [] n (fun v n' => (∀ p ∈ n, p ∈ n') ∧ ∃ W D' C, v = .ref W ∧ (W, tupO [.ref D', .ref C] 0) ∈ n' ∧ (∀ p ∈ n, p.1 < D') ∧ RingIn n' D' g ∧ DueIn n' C (([] : List Tri) ++ t)) := by
  refine fn_enter (binds := [("rows", .ref R), ("ring", .ref D)]) (fun _ => by rfl) (fun _ => by rfl) (fun _ _ _ => BindsTo.of_eq (by rfl)) (by rfl) (by rfl) (by rfl) (by rfl) (by rfl) ?_
  intro c ok rm nd
  have rm1 : Room 1 c := rm.le (by decide)
  have rm2 : Room 2 c := rm.le (by decide)
  refine run_cons (run_assign (run_list (args_nil ⟨Nat.zero_le _, fun C hC => ?_⟩)))
  have sub0 : ∀ p ∈ n, p ∈ (C, listO [] 0) :: n := fun p hp => List.mem_cons_of_mem _ hp
  refine run_cons (run_assign (useI (ev_r0 (by ktd_rel) (hR.sub sub0) hn hz) fun t0 => ?_))
  refine run_cons (run_while ?_)
  have hDC : D ≠ C := by obtain ⟨vs, k, h, _⟩ := hR; exact Nat.ne_of_lt (hC _ h)
  generalize hs : nth l 0 = s at *
  refine loop_of (fun m n' => m "rows" = some (.ref R) ∧ (∃ D, m "ring" = some (.ref D) ∧ RingIn n' D l ∧ D ≠ C) ∧ m "cuts" = some (.ref C) ∧ (∃ t, m "stop" = some (.int s t)) ∧ (∀ p ∈ n, p ∈ n') ∧ (∀ i ∈ l, i < cnt) ∧ l ≠ [] ∧ l.length ≤ 1000 ∧ ∃ ts, DueIn n' C ts ∧ ts.length + t.length ≤ 10000 ∧ ts ++ t = ([] : List Tri) ++ t ∧ Keys n') ?_ ⟨rfl, ⟨D, rfl, hR.sub sub0, hDC⟩, rfl, ⟨t0, rfl⟩, sub0, hin, hn, hz, [], ⟨[], 0, List.mem_cons_self .., .nil⟩, by simpa using ht, rfl, keys_cons nd hC⟩
  generalize hres : ([] : List Tri) ++ t = res
  clear hs hR hin hn hz t0 hDC D ht hres
  induction hS with
  | @cut p q b cc r s t g hz hcb hS ih =>
    rintro m n' ⟨m1, ⟨D, m2, hR, hDC⟩, m3, ⟨tk, m4⟩, sub, hin, hn, hl, ts, hT, hzz, htt, nd'⟩
    have H' := H.sub sub
    have q0 : nth (p :: q :: b :: cc :: r) 0 < cnt := nth_lt' hin hn
    have q1 : nth (p :: q :: b :: cc :: r) 1 < cnt := nth_lt' hin hn
    have q2 : nth (p :: q :: b :: cc :: r) 2 < cnt := nth_lt' hin hn
    have q3 : nth (p :: q :: b :: cc :: r) 3 < cnt := nth_lt' hin hn
    have q4 : nth (p :: q :: b :: cc :: r) ((p :: q :: b :: cc :: r).length - 1) < cnt := nth_lt' hin hn
    have q5 : nth (p :: q :: b :: cc :: r) (2 * (p :: q :: b :: cc :: r).length - 2) < cnt := nth_lt' hin hn
    have T0 := H'.row _ q0
    have T1 := H'.row _ q1
    have T2 := H'.row _ q2
    have T3 := H'.row _ q3
    have T4 := H'.row _ q4
    have T5 := H'.row _ q5
    have hp := List.length_pos_iff.mpr hn
    refine loop_turn (useT (tr_val ev_bool) ?_)
    refine run_cons (run_assign (useI (ev_lenR (by ktd_rel) hR hl) fun tm => ?_))
    refine run_cons (run_assign (useV (v := .ref (rs (nth (p :: q :: b :: cc :: r) ((p :: q :: b :: cc :: r).length - 1)))) (ev_row (by ktd_rel) H' (ev_r1 (by ktd_rel) hR hn hl) q4 nosl_sub) ?_))
    refine run_cons (run_assign (useV (v := .ref (rs (nth (p :: q :: b :: cc :: r) 0))) (ev_row (by ktd_rel) H' (ev_r0 (by ktd_rel) hR hn hl) q0 nosl_sub) ?_))
    refine run_cons (run_assign (useV (v := .ref (rs (nth (p :: q :: b :: cc :: r) 1))) (ev_row (by ktd_rel) H' (ev_rmod (i := 1) (by ktd_rel) hR ev_int (by ktd_rel) hn hl) q1 nosl_sub) ?_))
    refine run_cons (run_assign (useV (v := .ref (rs (nth (p :: q :: b :: cc :: r) 2))) (ev_row (by ktd_rel) H' (ev_rmod (i := 2) (by ktd_rel) hR ev_int (by ktd_rel) hn hl) q2 nosl_sub) ?_))
    refine run_cons (run_ifb (b := cutP P (p :: q :: b :: cc :: r)) (Ev.cast (tr_and (tr_cmp (ev_neT (by ktd_rel) T4 (by ktd_rel) T2 rm1)) fun _ => tr_and (tr_val (ev_meet (by ktd_rel) T4 (by ktd_rel) T0 (by ktd_rel) T1 (by ktd_rel) T2 (H.sm _ q4) (H.sm _ q0) (H.sm _ q1) (H.sm _ q2) rm)) fun _ =>
      tr_and (tr_val (ev_within (ev_row (by ktd_rel) H' (ev_rback (by ktd_rel) hR (by ktd_rel) (by ktd_rel) hn hl) q5 nosl_sub) T5 (by ktd_rel) T4 (by ktd_rel) T0 (by ktd_rel) T2 (H.sm _ q5) (H.sm _ q4) (H.sm _ q0) (H.sm _ q2) rm2)) fun _ =>
        tr_and (tr_val (ev_within (by ktd_rel) T1 (by ktd_rel) T2 (ev_row (by ktd_rel) H' (ev_rmod (i := 3) (by ktd_rel) hR ev_int (by ktd_rel) hn hl) q3 nosl_sub) T3 (by ktd_rel) T4 (H.sm _ q1) (H.sm _ q2) (H.sm _ q3) (H.sm _ q4) rm2)) fun _ => tr_and0) (by rw [← inters_meet, Bool.and_true]; rfl)) (fun _ => ?_) (fun h => by rw [hz] at h; cases h))
    obtain ⟨c0, c1, c2, c3⟩ := @cut_nths p q b cc r
    obtain ⟨vs, kk, hTl, hTt⟩ := hT
    refine run_push (by ktd_rel) hTl (by rw [hTt.length]; simp at hzz; omega) (.consI (i := (nth (p :: q :: b :: cc :: r) ((p :: q :: b :: cc :: r).length - 1) : Nat)) (ev_r1 (by ktd_rel) hR hn hl) (by intro _ _; rfl) (.consI (i := (nth (p :: q :: b :: cc :: r) 0 : Nat)) (ev_r0 (by ktd_rel) hR hn hl) (by intro _ _; rfl) (.consI (i := (nth (p :: q :: b :: cc :: r) 2 : Nat)) (ev_rk (j := 2) (by ktd_rel) hR ev_int rfl (by simp) hl nosl_const) (by intro _ _; rfl) .nil))) (by decide) (by rintro _ ⟨_, _, rfl, _, _, rfl, _, _, rfl, rfl⟩; rfl) _ (by rfl) ?_
    rintro _ ⟨u1, _, rfl, u2, _, rfl, u3, _, rfl, rfl⟩ W n₁ nd₁ o₁ h₁ hW _
    have T₁ := DueIn.push (t := (nth (p :: q :: b :: cc :: r) ((p :: q :: b :: cc :: r).length - 1), nth (p :: q :: b :: cc :: r) 0, nth (p :: q :: b :: cc :: r) 2)) hTl hTt nd' o₁ h₁ hW
    have hR₁ := hR.other o₁ hDC
    have sub₁ : ∀ p ∈ n, p ∈ n₁ := fun p hp => o₁ p (sub p hp) (by simpa using Nat.ne_of_lt (hC p hp))
    refine run_cons (run_assign (useI (i := (b : Nat)) (Ev.ofI (ev_rk (j := 2) (by ktd_rel) hR₁ ev_int rfl (by simp) hl nosl_const) (by rw [c2])) fun ts => ?_))
    refine run_cons (run_assign (run_rslice (l' := b :: cc :: r) (by ktd_rel) hR₁ (evp_some ev_int) evp_none hl pick_two (fun D₂ n₂ sub₂ new₂ hR₂ => run_nil ?_)))
    refine run_cons (run_assign (run_rcat (l' := cc :: (r ++ [b])) (fun _ => by ktd_rel) (fun _ => by ktd_rel) hR₂ (fun _ => evp_some ev_int) (fun _ => evp_none) (fun _ => evp_none) (fun _ => evp_some ev_int) (by simp at hl ⊢; omega) pick_rot (fun D' n₃ sub₃ new₃ hR₃ => ?_)))
    have T₃ := (T₁.sub sub₂).sub sub₃
    have hbl : (cc :: (r ++ [b])).length ≤ 1000 := by simp at hl ⊢; omega
    have hD'C : D' ≠ C := by obtain ⟨vs, k, h, _⟩ := T₁.sub sub₂; exact Ne.symm (Nat.ne_of_lt (new₃ _ h))
    refine run_cons (run_ifb (b := false) (tr_cmp (Ev.cast (ev_eq (ev_r0 (by ktd_rel) hR₃ (List.cons_ne_nil _ _) hbl) (by ktd_rel)) (by rw [cast_eq, nth_zero, decide_eq_false hcb]))) (fun h => by cases h) (fun _ => run_nil (run_nil (Loop.keys fun nd₃ => ?_))))
    refine ih _ _ ?_
    refine ⟨m1, ⟨D', rfl, hR₃, hD'C⟩, m3, ⟨ts, rfl⟩, fun p hp => sub₃ p (sub₂ p (sub₁ p hp)), fun i hi => hin i ?_, List.cons_ne_nil _ _, hbl, _, T₃, ?_, ?_, nd₃⟩
    · simp at hi ⊢; rcases hi with h | h | h <;> simp [h]
    · simp at hzz ⊢; omega
    · rw [← htt, List.append_assoc, c0, c2, c3]; rfl
  | @stop l s hz h1 =>
    rintro m n' ⟨m1, ⟨D, m2, hR, hDC⟩, m3, ⟨tk, m4⟩, sub, hin, hn, hl, ts, hT, hzz, htt, nd'⟩
    have H' := H.sub sub
    have q0 : nth l 0 < cnt := nth_lt' hin hn
    have q1 : nth l 1 < cnt := nth_lt' hin hn
    have q2 : nth l 2 < cnt := nth_lt' hin hn
    have q3 : nth l 3 < cnt := nth_lt' hin hn
    have q4 : nth l (l.length - 1) < cnt := nth_lt' hin hn
    have q5 : nth l (2 * l.length - 2) < cnt := nth_lt' hin hn
    have T0 := H'.row _ q0
    have T1 := H'.row _ q1
    have T2 := H'.row _ q2
    have T3 := H'.row _ q3
    have T4 := H'.row _ q4
    have T5 := H'.row _ q5
    have hp := List.length_pos_iff.mpr hn
    refine loop_turn (useT (tr_val ev_bool) ?_)
    refine run_cons (run_assign (useI (ev_lenR (by ktd_rel) hR hl) fun tm => ?_))
    refine run_cons (run_assign (useV (v := .ref (rs (nth l (l.length - 1)))) (ev_row (by ktd_rel) H' (ev_r1 (by ktd_rel) hR hn hl) q4 nosl_sub) ?_))
    refine run_cons (run_assign (useV (v := .ref (rs (nth l 0))) (ev_row (by ktd_rel) H' (ev_r0 (by ktd_rel) hR hn hl) q0 nosl_sub) ?_))
    refine run_cons (run_assign (useV (v := .ref (rs (nth l 1))) (ev_row (by ktd_rel) H' (ev_rmod (i := 1) (by ktd_rel) hR ev_int (by ktd_rel) hn hl) q1 nosl_sub) ?_))
    refine run_cons (run_assign (useV (v := .ref (rs (nth l 2))) (ev_row (by ktd_rel) H' (ev_rmod (i := 2) (by ktd_rel) hR ev_int (by ktd_rel) hn hl) q2 nosl_sub) ?_))
    refine run_cons (run_ifb (b := cutP P l) (Ev.cast (tr_and (tr_cmp (ev_neT (by ktd_rel) T4 (by ktd_rel) T2 rm1)) fun _ => tr_and (tr_val (ev_meet (by ktd_rel) T4 (by ktd_rel) T0 (by ktd_rel) T1 (by ktd_rel) T2 (H.sm _ q4) (H.sm _ q0) (H.sm _ q1) (H.sm _ q2) rm)) fun _ =>
      tr_and (tr_val (ev_within (ev_row (by ktd_rel) H' (ev_rback (by ktd_rel) hR (by ktd_rel) (by ktd_rel) hn hl) q5 nosl_sub) T5 (by ktd_rel) T4 (by ktd_rel) T0 (by ktd_rel) T2 (H.sm _ q5) (H.sm _ q4) (H.sm _ q0) (H.sm _ q2) rm2)) fun _ =>
        tr_and (tr_val (ev_within (by ktd_rel) T1 (by ktd_rel) T2 (ev_row (by ktd_rel) H' (ev_rmod (i := 3) (by ktd_rel) hR ev_int (by ktd_rel) hn hl) q3 nosl_sub) T3 (by ktd_rel) T4 (H.sm _ q1) (H.sm _ q2) (H.sm _ q3) (H.sm _ q4) rm2)) fun _ => tr_and0) (by rw [← inters_meet, Bool.and_true]; rfl)) (fun h => by rw [hz] at h; cases h) (fun _ => run_nil ?_))
    refine run_cons (run_assign (run_rcat (l' := rot l) (fun _ => by ktd_rel) (fun _ => by ktd_rel) hR (fun _ => evp_some ev_int) (fun _ => evp_none) (fun _ => evp_none) (fun _ => evp_some ev_int) hl pick_rot (fun D' n₁ sub₁ new₁ hR₁ => ?_)))
    have hb := rot_ne hn
    have hbl : (rot l).length ≤ 1000 := by rw [rot_length]; exact hl
    have sub' : ∀ p ∈ n, p ∈ n₁ := fun p hp => sub₁ p (sub p hp)
    have hD'C : D' ≠ C := by obtain ⟨vs, k, h, _⟩ := hT; exact Ne.symm (Nat.ne_of_lt (new₁ _ h))
    refine run_cons (run_ifb (b := true) (tr_cmp (Ev.cast (ev_eq (ev_r0 (by ktd_rel) hR₁ hb hbl) (by ktd_rel)) (by rw [cast_eq, decide_eq_true h1]))) (fun _ => ?_) (fun h => by cases h))
    refine run_cons (run_ret (run_tuple ((EvA.consV (v := .ref D') (by ktd_rel) (by intro _ _; rfl) (.consV (v := .ref C) (by ktd_rel) (by intro _ _; rfl) .nil)).args ?_)))
    rintro _ ⟨_, rfl, _, rfl, rfl⟩
    refine ⟨Nat.le_of_ble_eq_true rfl, fun W hW => ⟨fun p hp => List.mem_cons_of_mem _ (sub' p hp), W, D', C, rfl, List.mem_cons_self .., fun p hp => new₁ p (sub p hp), hR₁.sub fun p hp => List.mem_cons_of_mem _ hp, ?_⟩⟩
    rw [← htt, List.append_nil]
    exact (hT.sub sub₁).sub fun p hp => List.mem_cons_of_mem _ hp
  | @turn l s t o hz h1 hS ih =>
    rintro m n' ⟨m1, ⟨D, m2, hR, hDC⟩, m3, ⟨tk, m4⟩, sub, hin, hn, hl, ts, hT, hzz, htt, nd'⟩
    have H' := H.sub sub
    have q0 : nth l 0 < cnt := nth_lt' hin hn
    have q1 : nth l 1 < cnt := nth_lt' hin hn
    have q2 : nth l 2 < cnt := nth_lt' hin hn
    have q3 : nth l 3 < cnt := nth_lt' hin hn
    have q4 : nth l (l.length - 1) < cnt := nth_lt' hin hn
    have q5 : nth l (2 * l.length - 2) < cnt := nth_lt' hin hn
    have T0 := H'.row _ q0
    have T1 := H'.row _ q1
    have T2 := H'.row _ q2
    have T3 := H'.row _ q3
    have T4 := H'.row _ q4
    have T5 := H'.row _ q5
    have hp := List.length_pos_iff.mpr hn
    refine loop_turn (useT (tr_val ev_bool) ?_)
    refine run_cons (run_assign (useI (ev_lenR (by ktd_rel) hR hl) fun tm => ?_))
    refine run_cons (run_assign (useV (v := .ref (rs (nth l (l.length - 1)))) (ev_row (by ktd_rel) H' (ev_r1 (by ktd_rel) hR hn hl) q4 nosl_sub) ?_))
    refine run_cons (run_assign (useV (v := .ref (rs (nth l 0))) (ev_row (by ktd_rel) H' (ev_r0 (by ktd_rel) hR hn hl) q0 nosl_sub) ?_))
    refine run_cons (run_assign (useV (v := .ref (rs (nth l 1))) (ev_row (by ktd_rel) H' (ev_rmod (i := 1) (by ktd_rel) hR ev_int (by ktd_rel) hn hl) q1 nosl_sub) ?_))
    refine run_cons (run_assign (useV (v := .ref (rs (nth l 2))) (ev_row (by ktd_rel) H' (ev_rmod (i := 2) (by ktd_rel) hR ev_int (by ktd_rel) hn hl) q2 nosl_sub) ?_))
    refine run_cons (run_ifb (b := cutP P l) (Ev.cast (tr_and (tr_cmp (ev_neT (by ktd_rel) T4 (by ktd_rel) T2 rm1)) fun _ => tr_and (tr_val (ev_meet (by ktd_rel) T4 (by ktd_rel) T0 (by ktd_rel) T1 (by ktd_rel) T2 (H.sm _ q4) (H.sm _ q0) (H.sm _ q1) (H.sm _ q2) rm)) fun _ =>
      tr_and (tr_val (ev_within (ev_row (by ktd_rel) H' (ev_rback (by ktd_rel) hR (by ktd_rel) (by ktd_rel) hn hl) q5 nosl_sub) T5 (by ktd_rel) T4 (by ktd_rel) T0 (by ktd_rel) T2 (H.sm _ q5) (H.sm _ q4) (H.sm _ q0) (H.sm _ q2) rm2)) fun _ =>
        tr_and (tr_val (ev_within (by ktd_rel) T1 (by ktd_rel) T2 (ev_row (by ktd_rel) H' (ev_rmod (i := 3) (by ktd_rel) hR ev_int (by ktd_rel) hn hl) q3 nosl_sub) T3 (by ktd_rel) T4 (H.sm _ q1) (H.sm _ q2) (H.sm _ q3) (H.sm _ q4) rm2)) fun _ => tr_and0) (by rw [← inters_meet, Bool.and_true]; rfl)) (fun h => by rw [hz] at h; cases h) (fun _ => run_nil ?_))
    refine run_cons (run_assign (run_rcat (l' := rot l) (fun _ => by ktd_rel) (fun _ => by ktd_rel) hR (fun _ => evp_some ev_int) (fun _ => evp_none) (fun _ => evp_none) (fun _ => evp_some ev_int) hl pick_rot (fun D' n₁ sub₁ new₁ hR₁ => ?_)))
    have hb := rot_ne hn
    have hbl : (rot l).length ≤ 1000 := by rw [rot_length]; exact hl
    have sub' : ∀ p ∈ n, p ∈ n₁ := fun p hp => sub₁ p (sub p hp)
    have hD'C : D' ≠ C := by obtain ⟨vs, k, h, _⟩ := hT; exact Ne.symm (Nat.ne_of_lt (new₁ _ h))
    refine run_cons (run_ifb (b := false) (tr_cmp (Ev.cast (ev_eq (ev_r0 (by ktd_rel) hR₁ hb hbl) (by ktd_rel)) (by rw [cast_eq, decide_eq_false h1]))) (fun h => by cases h) (fun _ => run_nil (run_nil (Loop.keys fun nd₁ => ?_))))
    refine ih _ _ ?_
    exact ⟨m1, ⟨D', rfl, hR₁, hD'C⟩, m3, ⟨tk, m4⟩, sub', rot_in hin, hb, hbl, ts, hT.sub sub₁, hzz, htt, nd₁⟩
theorem c_lsweep {R D : Addr} {rs : Nat → Addr} {cnt : Nat} {P : Nat → Pt} {l g : List Nat} {t : List Tri} (H : RowsIn n R rs cnt P) (hR : RingIn n D l) (hin : ∀ i ∈ l, i < cnt) (hn : l ≠ []) (hz : l.length ≤ 1000) (hS : Swp P l (nth l 0) t g) (ht : t.length ≤ 10000) :
    Fn 4 212 [.ref R, .ref D] [] n (fun v n' => (∀ p ∈ n, p ∈ n') ∧ ∃ W D' C, v = .ref W ∧ (W, tupO [.ref D', .ref C] 0) ∈ n' ∧ (∀ p ∈ n, p.1 < D') ∧ RingIn n' D' g ∧ DueIn n' C t) := c_lsweep0 H hR hin hn hz hS ht
end
end Mine
namespace Mine
local macro_rules | `(tactic| ktd_rel) => `(tactic| first
  | with_reducible exact ev_int
  | with_reducible exact ev_none
  | with_reducible exact ev_bool
  | ((with_reducible refine' ev_localI ?ka ?kl ?kk ?kx ?kd); (case ka => first | rfl | assumption); (case kl => rfl); (case kk => rfl); (case kx => rfl); (case kd => decide))
  | ((with_reducible refine' ev_local ?ka ?kl ?kk ?kx ?kd); (case ka => first | rfl | assumption); (case kl => rfl); (case kk => rfl); (case kx => rfl); (case kd => decide))
  | ((with_reducible refine' ev_add ?ka ?kb); (case ka => ktd_rel); (case kb => ktd_rel))
  | ((with_reducible refine' ev_sub ?ka ?kb); (case ka => ktd_rel); (case kb => ktd_rel))
  | ((with_reducible refine' ev_lt ?ka ?kb); (case ka => ktd_rel); (case kb => ktd_rel))
  | ((with_reducible refine' ev_le ?ka ?kb); (case ka => ktd_rel); (case kb => ktd_rel))
  | ((with_reducible refine' ev_gt ?ka ?kb); (case ka => ktd_rel); (case kb => ktd_rel))
  | ((with_reducible refine' ev_ge ?ka ?kb); (case ka => ktd_rel); (case kb => ktd_rel))
  | ((with_reducible refine' ev_eq ?ka ?kb); (case ka => ktd_rel); (case kb => ktd_rel))
  | ((with_reducible refine' ev_ne ?ka ?kb); (case ka => ktd_rel); (case kb => ktd_rel))
  | ((with_reducible refine' ev_neg ?ka); (case ka => ktd_rel))
  | ((with_reducible refine' ev_t0 ?ka ?kN); (case ka => ktd_rel); (case kN => with_reducible assumption))
  | ((with_reducible refine' ev_t1 ?ka ?kN); (case ka => ktd_rel); (case kN => with_reducible assumption))
  | ((with_reducible refine' tr_cmp ?ka ?kb); (case ka => ktd_rel); (case kb => rfl))
  | fail "ev")
section
variable {c : Cfg} {m : Loc} {n : Led} {env : Env}
theorem filt_ne {P : Nat → Pt} {l o : List Nat} {s : Nat} (h : Filt P l s o) (hn : l ≠ []) : o ≠ [] := by
  induction h with
  | one _ h => exact back_ne hn
  | drop _ _ _ ih => exact ih (back_ne hn)
  | stop => exact rot_ne hn
  | turn _ _ _ ih => exact ih (rot_ne hn)
theorem swp_ne {P : Nat → Pt} {l o : List Nat} {s : Nat} {t : List Tri} (h : Swp P l s t o) (hn : l ≠ []) : o ≠ [] := by
  induction h with
  | cut _ _ _ ih => exact ih (List.cons_ne_nil _ _)
  | stop => exact rot_ne hn
  | turn _ _ _ ih => exact ih (rot_ne hn)
theorem swp_len {P : Nat → Pt} {l o : List Nat} {s : Nat} {t : List Tri} (h : Swp P l s t o) : o.length ≤ l.length := by
  induction h with
  | cut _ _ _ ih => simp at ih ⊢; omega
  | stop => rw [rot_length]; exact Nat.le_refl _
  | turn _ _ _ ih => rwa [rot_length] at ih
/-- the list of the told stands apart from the rows -/
def OffT (R : Addr) (rs : Nat → Addr) (cnt : Nat) (T : Addr) : Prop := R ≠ T ∧ ∀ i, i < cnt → rs i ≠ T
theorem RowsIn.other {n n' : Led} {R T : Addr} {rs : Nat → Addr} {cnt : Nat} {P : Nat → Pt} (h : RowsIn n R rs cnt P) (o : Only [T] n n') (f : OffT R rs cnt T) : RowsIn n' R rs cnt P :=
  ⟨let ⟨k, h'⟩ := h.list; ⟨k, o _ h' (by simpa using f.1)⟩, fun i hi => let ⟨t, u, k, h'⟩ := h.row i hi; ⟨t, u, k, o _ h' (by simpa using f.2 i hi)⟩, h.sm, h.few⟩
def LRunPost (T : Addr) (res : List Tri) (o : List Nat) (n : Led) (v : Value) (n' : Led) : Prop := Only [T] n n' ∧ ∃ D', v = .ref D' ∧ RingIn n' D' o ∧ DueIn n' T res
def LRunOk (R : Addr) (rs : Nat → Addr) (cnt : Nat) (P : Nat → Pt) (T : Addr) (g : Nat) : Prop := ∀ (n : Led) (D : Addr) (l o : List Nat) (ts t : List Tri) (tk : Tok), RowsIn n R rs cnt P → RingIn n D l → D ≠ T → (∀ i ∈ l, i < cnt) → l ≠ [] → l.length ≤ 1000 → RunR P g l (nth l 0) t o → DueIn n T ts → ts.length + t.length ≤ 10000 →
  Fn (8 - g) 233 [.ref R, .ref D, .ref T, .int g tk] [] n (LRunPost T (ts ++ t) o n)
theorem ev_lenR' {e : Expr} {np pos : Pos} {D : Addr} {l : List Nat} (he : EvV c m n env e (.ref D)) (R : RingIn n D l) (hz : l.length ≤ 1000) : True := trivial
theorem c_lrun {R T : Addr} {rs : Nat → Addr} {cnt : Nat} {P : Nat → Pt} {g : Nat} (off : OffT R rs cnt T) (hg : g ≤ 2) (next : g < 2 → LRunOk R rs cnt P T (g + 1)) : LRunOk R rs cnt P T g := by
  intro n D l o ts t tk H hR hDT hin hn hl hRun hT hz
  have h5 : 8 - g = (7 - g) + 1 := by omega
  rw [h5]
  refine fn_enter (binds := [("rows", .ref R), ("ring", .ref D), ("due", .ref T), ("stage", .int g tk)]) (fun _ => by rfl) (fun _ => by rfl) (fun _ _ _ => BindsTo.of_eq (by rfl)) (by rfl) (by rfl) (by rfl) (by rfl) (by rfl) ?_
  intro c ok rm nd
  have rm2 : Room 2 c := rm.le (by omega)
  have rm4 : Room 4 c := rm.le (by omega)
  refine run_cons (run_assign (useI (ev_r0 (by ktd_rel) hR hn hl) fun t0 => ?_))
  refine run_cons (run_while ?_)
  generalize hs : nth l 0 = s at *
  refine loop_of (fun m n' => m "rows" = some (.ref R) ∧ (∃ D, m "ring" = some (.ref D) ∧ RingIn n' D l ∧ D ≠ T) ∧ m "due" = some (.ref T) ∧ m "stage" = some (.int g tk) ∧ (∃ t, m "stop" = some (.int s t)) ∧ Only [T] n n' ∧ (∀ i ∈ l, i < cnt) ∧ l ≠ [] ∧ l.length ≤ 1000 ∧ ∃ ts', DueIn n' T ts' ∧ ts'.length + t.length ≤ 10000 ∧ ts' ++ t = ts ++ t ∧ Keys n') ?_ ⟨rfl, ⟨D, rfl, hR, hDT⟩, rfl, rfl, ⟨t0, rfl⟩, Only.refl, hin, hn, hl, ts, hT, hz, rfl, nd⟩
  generalize hres : ts ++ t = res
  clear hs hR hin hn hz t0 hDT D hres hT hl
  clear h5 rm2 rm4
  have rm2 : Room 2 c := rm.le (by omega)
  have rm4 : Room 4 c := rm.le (by omega)
  induction hRun with
  | @short g l s hlen =>
    rintro m n' ⟨m1, ⟨D, m2, hR, hDT⟩, m3, m5, ⟨tq, m4⟩, o₀, hin, hn, hl, ts, hT, hzz, htt, nd'⟩
    have H' := H.other o₀ off
    refine loop_turn (useT (b := false) (tr_cmp (Ev.cast (ev_gt (ev_lenR (by ktd_rel) hR hl) ev_int) (by congr 1; exact decide_eq_false (by omega)))) ?_)
    refine run_cons (run_ret (useV (v := .ref D) (by ktd_rel) ⟨o₀, D, rfl, hR, by rw [← htt, List.append_nil]; exact hT⟩))
  | @ear g b e d r s t o hz hR ih =>
    rintro m n' ⟨m1, ⟨D, m2, hR, hDT⟩, m3, m5, ⟨tq, m4⟩, o₀, hin, hn, hl, ts, hT, hzz, htt, nd'⟩
    have H' := H.other o₀ off
    have h2 : 2 < (b :: e :: d :: r).length := by simp
    refine loop_turn (useT (b := true) (tr_cmp (Ev.cast (ev_gt (ev_lenR (by ktd_rel) hR hl) ev_int) (by congr 1; exact decide_eq_true (by omega)))) ?_)
    refine run_cons (run_ifb (b := earP P (b :: e :: d :: r)) (tr_val (ev_lear (by ktd_rel) H' (by ktd_rel) hR hin h2 hl rm2)) (fun _ => ?_) (fun h => by rw [hz] at h; cases h))
    have c0 : nth (b :: e :: d :: r) 0 = b := nth_zero
    have c1 : nth (b :: e :: d :: r) 1 = e := by rw [nth_lt (by simp)]; rfl
    have c3 : nth (b :: e :: d :: r) ((b :: e :: d :: r).length - 1) = lst d r := by rw [← lst_cons (x := e), ← lst_cons (x := b), lst_nth]; rfl
    obtain ⟨vs, kk, hTl, hTt⟩ := hT
    refine run_push (by ktd_rel) hTl (by rw [hTt.length]; simp at hzz; omega) (.consI (i := (nth (b :: e :: d :: r) ((b :: e :: d :: r).length - 1) : Nat)) (ev_r1 (by ktd_rel) hR hn hl) (by intro _ _; rfl) (.consI (i := (nth (b :: e :: d :: r) 0 : Nat)) (ev_r0 (by ktd_rel) hR hn hl) (by intro _ _; rfl) (.consI (i := (nth (b :: e :: d :: r) 1 : Nat)) (ev_rk (j := 1) (by ktd_rel) hR ev_int rfl (by simp) hl nosl_const) (by intro _ _; rfl) .nil))) (by decide) (by rintro _ ⟨_, _, rfl, _, _, rfl, _, _, rfl, rfl⟩; rfl) _ (by rfl) ?_
    rintro _ ⟨u1, _, rfl, u2, _, rfl, u3, _, rfl, rfl⟩ W n₁ nd₁ o₁ h₁ hW _
    have T₁ := DueIn.push (t := (nth (b :: e :: d :: r) ((b :: e :: d :: r).length - 1), nth (b :: e :: d :: r) 0, nth (b :: e :: d :: r) 1)) hTl hTt nd' o₁ h₁ hW
    have hR₁ := hR.other o₁ hDT
    refine run_cons (run_assign (run_rcat (l' := d :: (r ++ [e])) (fun _ => by ktd_rel) (fun _ => by ktd_rel) hR₁ (fun _ => evp_some ev_int) (fun _ => evp_none) (fun _ => evp_some ev_int) (fun _ => evp_some ev_int) hl pick_ear (fun D' n₃ sub₃ new₃ hR₃ => ?_)))
    have T₃ := T₁.sub sub₃
    have hbl : (d :: (r ++ [e])).length ≤ 1000 := by simp at hl ⊢; omega
    have hD'T : D' ≠ T := Ne.symm (Nat.ne_of_lt (new₃ _ h₁))
    refine run_cons (run_assign (useI (i := (d : Nat)) (Ev.ofI (ev_r0 (by ktd_rel) hR₃ (List.cons_ne_nil _ _) hbl) (by rw [nth_zero])) fun ts => run_nil (run_nil (Loop.keys fun nd₃ => ?_))))
    refine ih hg next rm _ _ ?_
    refine ⟨m1, ⟨D', rfl, hR₃, hD'T⟩, m3, m5, ⟨ts, rfl⟩, (o₀.trans o₁).trans fun p hp _ => sub₃ p hp, fun i hi => hin i ?_, List.cons_ne_nil _ _, hbl, _, T₃, ?_, ?_, nd₃⟩
    · simp at hi ⊢; rcases hi with h | h | h <;> simp [h]
    · simp at hzz ⊢; omega
    · rw [← htt, List.append_assoc, c0, c1, c3]; rfl
  | @turn g l s t o h2 hz h1 hR ih =>
    rintro m n' ⟨m1, ⟨D, m2, hR, hDT⟩, m3, m5, ⟨tq, m4⟩, o₀, hin, hn, hl, ts, hT, hzz, htt, nd'⟩
    have H' := H.other o₀ off
    refine loop_turn (useT (b := true) (tr_cmp (Ev.cast (ev_gt (ev_lenR (by ktd_rel) hR hl) ev_int) (by congr 1; exact decide_eq_true (by omega)))) ?_)
    refine run_cons (run_ifb (b := earP P l) (tr_val (ev_lear (by ktd_rel) H' (by ktd_rel) hR hin h2 hl rm2)) (fun h => by rw [hz] at h; cases h) (fun _ => ?_))
    refine run_cons (run_assign (run_rcat (l' := rot l) (fun _ => by ktd_rel) (fun _ => by ktd_rel) hR (fun _ => evp_some ev_int) (fun _ => evp_none) (fun _ => evp_none) (fun _ => evp_some ev_int) hl pick_rot (fun D' n₁ sub₁ new₁ hR₁ => ?_)))
    have hb := rot_ne hn
    have hbl : (rot l).length ≤ 1000 := by rw [rot_length]; exact hl
    have hinr := rot_in hin
    have hD'T : D' ≠ T := by obtain ⟨vs, k, h, _⟩ := hT; exact Ne.symm (Nat.ne_of_lt (new₁ _ h))
    have T₁ := hT.sub sub₁
    have o₁ : Only [T] n n₁ := o₀.trans fun p hp _ => sub₁ p hp
    have H₁ := H'.sub sub₁
    refine run_cons (run_ifb (b := false) (tr_cmp (Ev.cast (ev_eq (ev_r0 (by ktd_rel) hR₁ hb hbl) (by ktd_rel)) (by rw [cast_eq, decide_eq_false h1]))) (fun h => by cases h) (fun _ => run_nil (run_nil (run_nil (Loop.keys fun nd₁ => ?_)))))
    refine ih hg next rm _ _ ?_
    exact ⟨m1, ⟨D', rfl, hR₁, hD'T⟩, m3, m5, ⟨tq, m4⟩, o₁, hinr, hb, hbl, ts, T₁, hzz, htt, nd₁⟩
  | @last g l s h2 hz h1 g0 g1 =>
    rintro m n' ⟨m1, ⟨D, m2, hR, hDT⟩, m3, m5, ⟨tq, m4⟩, o₀, hin, hn, hl, ts, hT, hzz, htt, nd'⟩
    have H' := H.other o₀ off
    refine loop_turn (useT (b := true) (tr_cmp (Ev.cast (ev_gt (ev_lenR (by ktd_rel) hR hl) ev_int) (by congr 1; exact decide_eq_true (by omega)))) ?_)
    refine run_cons (run_ifb (b := earP P l) (tr_val (ev_lear (by ktd_rel) H' (by ktd_rel) hR hin h2 hl rm2)) (fun h => by rw [hz] at h; cases h) (fun _ => ?_))
    refine run_cons (run_assign (run_rcat (l' := rot l) (fun _ => by ktd_rel) (fun _ => by ktd_rel) hR (fun _ => evp_some ev_int) (fun _ => evp_none) (fun _ => evp_none) (fun _ => evp_some ev_int) hl pick_rot (fun D' n₁ sub₁ new₁ hR₁ => ?_)))
    have hb := rot_ne hn
    have hbl : (rot l).length ≤ 1000 := by rw [rot_length]; exact hl
    have hinr := rot_in hin
    have hD'T : D' ≠ T := by obtain ⟨vs, k, h, _⟩ := hT; exact Ne.symm (Nat.ne_of_lt (new₁ _ h))
    have T₁ := hT.sub sub₁
    have o₁ : Only [T] n n₁ := o₀.trans fun p hp _ => sub₁ p hp
    have H₁ := H'.sub sub₁
    refine run_cons (run_ifb (b := true) (tr_cmp (Ev.cast (ev_eq (ev_r0 (by ktd_rel) hR₁ hb hbl) (by ktd_rel)) (by rw [cast_eq, decide_eq_true h1]))) (fun _ => ?_) (fun h => by cases h))
    refine run_cons (run_ifb (b := false) (tr_cmp (Ev.cast (ev_eq (a := g) (by ktd_rel) ev_int) (by congr 1; simp; omega))) (fun h => by cases h) (fun _ => run_nil ?_))
    refine run_cons (run_ifb (b := false) (tr_cmp (Ev.cast (ev_eq (a := g) (by ktd_rel) ev_int) (by congr 1; simp; omega))) (fun h => by cases h) (fun _ => run_nil ?_))
    exact run_cons (run_ret (useV (v := .ref D') (by ktd_rel) ⟨o₁, D', rfl, hR₁, by rw [← htt, List.append_nil]; exact T₁⟩))
  | @zero l s f t o h2 hz h1 hF hRR ih =>
    rintro m n' ⟨m1, ⟨D, m2, hR, hDT⟩, m3, m5, ⟨tq, m4⟩, o₀, hin, hn, hl, ts, hT, hzz, htt, nd'⟩
    have H' := H.other o₀ off
    refine loop_turn (useT (b := true) (tr_cmp (Ev.cast (ev_gt (ev_lenR (by ktd_rel) hR hl) ev_int) (by congr 1; exact decide_eq_true (by omega)))) ?_)
    refine run_cons (run_ifb (b := earP P l) (tr_val (ev_lear (by ktd_rel) H' (by ktd_rel) hR hin h2 hl rm2)) (fun h => by rw [hz] at h; cases h) (fun _ => ?_))
    refine run_cons (run_assign (run_rcat (l' := rot l) (fun _ => by ktd_rel) (fun _ => by ktd_rel) hR (fun _ => evp_some ev_int) (fun _ => evp_none) (fun _ => evp_none) (fun _ => evp_some ev_int) hl pick_rot (fun D' n₁ sub₁ new₁ hR₁ => ?_)))
    have hb := rot_ne hn
    have hbl : (rot l).length ≤ 1000 := by rw [rot_length]; exact hl
    have hinr := rot_in hin
    have hD'T : D' ≠ T := by obtain ⟨vs, k, h, _⟩ := hT; exact Ne.symm (Nat.ne_of_lt (new₁ _ h))
    have T₁ := hT.sub sub₁
    have o₁ : Only [T] n n₁ := o₀.trans fun p hp _ => sub₁ p hp
    have H₁ := H'.sub sub₁
    refine run_cons (run_ifb (b := true) (tr_cmp (Ev.cast (ev_eq (ev_r0 (by ktd_rel) hR₁ hb hbl) (by ktd_rel)) (by rw [cast_eq, decide_eq_true h1]))) (fun _ => ?_) (fun h => by cases h))
    refine run_cons (run_ifb (b := true) (tr_cmp (Ev.cast (ev_eq (a := (0 : Nat)) (by ktd_rel) ev_int) (by rfl))) (fun _ => ?_) (fun h => by cases h))
    refine run_cons (run_ret (run_call g_law_run k_law_run (args_cons (useV (v := .ref R) (by ktd_rel) (args_cons (run_callF g_law_filter k_law_filter (.consV (v := .ref R) (by ktd_rel) (by intro _ _; rfl) (.consV (v := .ref D') (by ktd_rel) (by intro _ _; rfl) .nil)) (fun vs ⟨_, e, _, e', e''⟩ => by subst e''; subst e'; subst e; exact c_lfilter H₁ hR₁ hinr hb hbl (by rw [h1]; exact hF)) rm2 ?_))))))
    rintro v n₂ nd₂ ⟨sub₂, D₂, rfl, new₂, hR₂⟩
    refine EvA.args (.consV (v := .ref T) (by ktd_rel) (by intro _ _; rfl) (.consI ev_int (by intro _ _; rfl) .nil)) ?_
    rintro _ ⟨_, rfl, tk', _, rfl, rfl⟩
    have T₂ := T₁.sub sub₂
    have hfl := filt_len hF
    have hne : D₂ ≠ T := by obtain ⟨vs, k, h, _⟩ := T₁; exact Ne.symm (Nat.ne_of_lt (new₂ _ h))
    refine (next (by decide) n₂ D₂ _ _ _ _ tk' (H₁.sub sub₂) hR₂ hne (fun i hi => hinr i (filt_mem hF i hi)) (filt_ne hF hb) (by omega) hRR T₂ hzz).run (rm.le (by decide)) ?_
    rintro v n₃ nd₃ ⟨o₃, D₃, rfl, hR₃, T₃⟩
    exact ⟨o₁.trans (fun p hp e => o₃ p (sub₂ p hp) e), D₃, rfl, hR₃, by rw [← htt]; exact T₃⟩
  | @one l s f g h cs t o h2 hz h1 hF hS hF' hRR ih =>
    rintro m n' ⟨m1, ⟨D, m2, hR, hDT⟩, m3, m5, ⟨tq, m4⟩, o₀, hin, hn, hl, ts, hT, hzz, htt, nd'⟩
    have H' := H.other o₀ off
    refine loop_turn (useT (b := true) (tr_cmp (Ev.cast (ev_gt (ev_lenR (by ktd_rel) hR hl) ev_int) (by congr 1; exact decide_eq_true (by omega)))) ?_)
    refine run_cons (run_ifb (b := earP P l) (tr_val (ev_lear (by ktd_rel) H' (by ktd_rel) hR hin h2 hl rm2)) (fun h => by rw [hz] at h; cases h) (fun _ => ?_))
    refine run_cons (run_assign (run_rcat (l' := rot l) (fun _ => by ktd_rel) (fun _ => by ktd_rel) hR (fun _ => evp_some ev_int) (fun _ => evp_none) (fun _ => evp_none) (fun _ => evp_some ev_int) hl pick_rot (fun D' n₁ sub₁ new₁ hR₁ => ?_)))
    have hb := rot_ne hn
    have hbl : (rot l).length ≤ 1000 := by rw [rot_length]; exact hl
    have hinr := rot_in hin
    have hD'T : D' ≠ T := by obtain ⟨vs, k, h, _⟩ := hT; exact Ne.symm (Nat.ne_of_lt (new₁ _ h))
    have T₁ := hT.sub sub₁
    have o₁ : Only [T] n n₁ := o₀.trans fun p hp _ => sub₁ p hp
    have H₁ := H'.sub sub₁
    refine run_cons (run_ifb (b := true) (tr_cmp (Ev.cast (ev_eq (ev_r0 (by ktd_rel) hR₁ hb hbl) (by ktd_rel)) (by rw [cast_eq, decide_eq_true h1]))) (fun _ => ?_) (fun h => by cases h))
    refine run_cons (run_ifb (b := false) (tr_cmp (Ev.cast (ev_eq (a := (1 : Nat)) (by ktd_rel) ev_int) (by rfl))) (fun h => by cases h) (fun _ => run_nil ?_))
    refine run_cons (run_ifb (b := true) (tr_cmp (Ev.cast (ev_eq (a := (1 : Nat)) (by ktd_rel) ev_int) (by rfl))) (fun _ => ?_) (fun h => by cases h))
    refine run_cons (run_assign (run_call g_law_sweep k_law_sweep (args_cons (useV (v := .ref R) (by ktd_rel) (args_cons (run_callF g_law_filter k_law_filter (.consV (v := .ref R) (by ktd_rel) (by intro _ _; rfl) (.consV (v := .ref D') (by ktd_rel) (by intro _ _; rfl) .nil)) (fun vs ⟨_, e, _, e', e''⟩ => by subst e''; subst e'; subst e; exact c_lfilter H₁ hR₁ hinr hb hbl (by rw [h1]; exact hF)) rm2 ?_))))))
    rintro v n₂ nd₂ ⟨sub₂, D₂, rfl, new₂, hR₂⟩
    refine args_nil ?_
    have T₂ := T₁.sub sub₂
    have hfl := filt_len hF
    have hin₂ : ∀ i ∈ f, i < cnt := fun i hi => hinr i (filt_mem hF i hi)
    have hzc : cs.length ≤ 10000 := by rw [List.length_append] at hzz; omega
    refine (c_lsweep (H₁.sub sub₂) hR₂ hin₂ (filt_ne hF hb) (by omega) hS hzc).run rm4 ?_
    rintro v n₃ nd₃ ⟨sub₃, W, D₃, C, rfl, hW, new₃, hR₃, hC⟩
    have T₃ := T₂.sub sub₃
    obtain ⟨vs, kk, hTl, hTt⟩ := T₃
    obtain ⟨ws, kk', hCl, hCt⟩ := hC
    refine run_cons (run_expr (run_meth (by ktd_rel) hTl PySem.F.slot_list_extend PySem.F.type_list_extend ?_ _ (by rfl)))
    refine args_cons (useV (ev_itemT (v := .ref C) (by ktd_rel) hW ev_int (by rfl) rfl (Nat.le_of_ble_eq_true rfl) nosl_const) (args_nil ?_))
    refine run_extend hTl hCl (by rw [hTt.length, hCt.length]; rw [List.length_append] at hzz; omega) fun k'' => ?_
    have o₄ : Only [T] n₃ (put n₃ T (listO (vs ++ ws) k'')) := fun p hp e => mem_put_other hp (by simpa using e)
    have offT : ∀ D ws, (D, tupO ws 0) ∈ n₃ → D ∉ [T] := fun D ws hD e => key_ne nd₃ hD hTl tup_ne_list (by simpa using e)
    have T₄ : DueIn (put n₃ T (listO (vs ++ ws) k'')) T (ts ++ cs) := ⟨_, _, mem_put_same hTl, (hTt.other o₄ offT).append (hCt.other o₄ offT)⟩
    have hD₃T : D₃ ≠ T := by obtain ⟨vs, k, h, _⟩ := T₂; exact Ne.symm (Nat.ne_of_lt (new₃ _ h))
    have hR₄ := hR₃.other o₄ hD₃T
    have hW₄ := o₄ _ hW (offT _ _ hW)
    have H₄ := ((H₁.sub sub₂).sub sub₃).other o₄ off
    have hln := swp_len hS
    have hin₄ : ∀ i ∈ g, i < cnt := fun i hi => hin₂ i (swp_mem hS i hi)
    generalize put n₃ T (listO (vs ++ ws) k'') = n₄ at *
    refine run_cons (run_ret (run_call g_law_run k_law_run (args_cons (useV (v := .ref R) (by ktd_rel) (args_cons (run_callF g_law_filter k_law_filter (.consV (v := .ref R) (by ktd_rel) (by intro _ _; rfl) (.consV (v := .ref D₃) (ev_itemT (by ktd_rel) hW₄ ev_int (by rfl) rfl (Nat.le_of_ble_eq_true rfl) nosl_const) (by intro _ _; rfl) .nil)) (fun vs ⟨_, e, _, e', e''⟩ => by subst e''; subst e'; subst e; exact c_lfilter H₄ hR₄ hin₄ (swp_ne hS (filt_ne hF hb)) (by omega) hF') rm2 ?_))))))
    rintro v n₅ nd₅ ⟨sub₅, D₅, rfl, new₅, hR₅⟩
    refine EvA.args (.consV (v := .ref T) (by ktd_rel) (by intro _ _; rfl) (.consI ev_int (by intro _ _; rfl) .nil)) ?_
    rintro _ ⟨_, rfl, tk', _, rfl, rfl⟩
    have T₅ := T₄.sub sub₅
    have hfl' := filt_len hF'
    have hne : D₅ ≠ T := by obtain ⟨vs, k, h, _⟩ := T₄; exact Ne.symm (Nat.ne_of_lt (new₅ _ h))
    refine (next (by decide) n₅ D₅ _ _ _ _ tk' (H₄.sub sub₅) hR₅ hne (fun i hi => hin₄ i (filt_mem hF' i hi)) (filt_ne hF' (swp_ne hS (filt_ne hF hb))) (by omega) hRR T₅ (by simp only [List.length_append] at hzz ⊢; omega)).run (rm.le (by decide)) ?_
    rintro v n₆ nd₆ ⟨o₆, D₆, rfl, hR₆, T₆⟩
    exact ⟨((o₁.trans fun p hp _ => sub₃ p (sub₂ p hp)).trans o₄).trans (fun p hp e => o₆ p (sub₅ p hp) e), D₆, rfl, hR₆, by rw [← htt, ← List.append_assoc]; exact T₆⟩
theorem lrun2 {R T : Addr} {rs : Nat → Addr} {cnt : Nat} {P : Nat → Pt} (off : OffT R rs cnt T) : LRunOk R rs cnt P T 2 := c_lrun off (by decide) fun h => absurd h (by decide)
theorem lrun1 {R T : Addr} {rs : Nat → Addr} {cnt : Nat} {P : Nat → Pt} (off : OffT R rs cnt T) : LRunOk R rs cnt P T 1 := c_lrun off (by decide) fun _ => lrun2 off
theorem lrun {R T : Addr} {rs : Nat → Addr} {cnt : Nat} {P : Nat → Pt} {g : Nat} (off : OffT R rs cnt T) (hg : g ≤ 2) : LRunOk R rs cnt P T g := by
  match g, hg with
  | 0, _ => exact c_lrun off (by decide) fun _ => lrun1 off
  | 1, _ => exact lrun1 off
  | 2, _ => exact lrun2 off
end
end Mine
namespace Mine
local macro_rules | `(tactic| ktd_rel) => `(tactic| first
  | with_reducible exact ev_int
  | with_reducible exact ev_none
  | with_reducible exact ev_bool
  | ((with_reducible refine' ev_localI ?ka ?kl ?kk ?kx ?kd); (case ka => first | rfl | assumption); (case kl => rfl); (case kk => rfl); (case kx => rfl); (case kd => decide))
  | ((with_reducible refine' ev_local ?ka ?kl ?kk ?kx ?kd); (case ka => first | rfl | assumption); (case kl => rfl); (case kk => rfl); (case kx => rfl); (case kd => decide))
  | ((with_reducible refine' ev_add ?ka ?kb); (case ka => ktd_rel); (case kb => ktd_rel))
  | ((with_reducible refine' ev_sub ?ka ?kb); (case ka => ktd_rel); (case kb => ktd_rel))
  | ((with_reducible refine' ev_lt ?ka ?kb); (case ka => ktd_rel); (case kb => ktd_rel))
  | ((with_reducible refine' ev_le ?ka ?kb); (case ka => ktd_rel); (case kb => ktd_rel))
  | ((with_reducible refine' ev_gt ?ka ?kb); (case ka => ktd_rel); (case kb => ktd_rel))
  | ((with_reducible refine' ev_ge ?ka ?kb); (case ka => ktd_rel); (case kb => ktd_rel))
  | ((with_reducible refine' ev_eq ?ka ?kb); (case ka => ktd_rel); (case kb => ktd_rel))
  | ((with_reducible refine' ev_ne ?ka ?kb); (case ka => ktd_rel); (case kb => ktd_rel))
  | ((with_reducible refine' ev_neg ?ka); (case ka => ktd_rel))
  | ((with_reducible refine' ev_t0 ?ka ?kN); (case ka => ktd_rel); (case kN => with_reducible assumption))
  | ((with_reducible refine' ev_t1 ?ka ?kN); (case ka => ktd_rel); (case kN => with_reducible assumption))
  | ((with_reducible refine' tr_cmp ?ka ?kb); (case ka => ktd_rel); (case kb => rfl))
  | fail "ev")
theorem ints_of : ∀ (vs : List Value) (N : Nat) (f : Nat → Int), vs.length = N → (∀ (j : Nat) (v : Value), vs[j]? = some v → ∃ t, v = .int (f j) t) → IntsAre vs ((List.range N).map f)
  | [], N, f, e, _ => by subst e; exact IntsAre.nil
  | v :: r, N, f, e, h => by
    subst e
    rw [List.length_cons, List.range_succ_eq_map, List.map_cons, List.map_map]
    obtain ⟨t, rfl⟩ := h 0 v rfl
    exact IntsAre.cons _ _ (ints_of r r.length (f ∘ Nat.succ) rfl fun j v hj => h (j + 1) v hj)
section
variable {c : Cfg} {m : Loc} {n : Led} {env : Env}
/-- list(range(..)) -/
theorem run_listR {r : Addr} {a b st : Int} {t u v : Tok} {N : Nat} {Q : Value → Loc → Led → Prop} (h : (r, rangeO a b st t u v) ∈ n) (hsm : Builtin.Range.small a b st = true) (hN : Builtin.Range.rangeSize a b st = ((N : Nat) : Int)) (hz : N ≤ 1000000)
    (q : ∀ D us k, (∀ p ∈ n, p.1 < D) → IntsAre us ((List.range N).map fun i : Nat => a + (i : Int) * st) → Q (.ref D) m ((D, listO us k) :: n)) : Run c m n (call (.type "list") [.ref r]) Q := fun s S => by
  refine call_list_range S.ok.hh (S.N _ h).1 hsm hN (by omega) fun h' tk acc k hk hD hI => ?_
  have hD' : h'.get? s.heap.objs.size = some (listO acc.toList k) := by
    show _ = some ({ cls := .type "list", data := .seq acc.toList.toArray k } : Obj)
    rw [Array.toArray_toList]
    exact hD
  refine ⟨m, _, S.to (S.F.keeps hk) (news_pushed S.F S.N hk hD' rfl) (keys_cons S.nd S.fresh), q _ acc.toList k S.fresh (ints_of _ _ _ (by rw [Array.length_toList]; exact hI.1) fun j v hj => hI.2 j v (by rw [← hj, Array.getElem?_toList]))⟩
theorem pick_tail {l : List Nat} : pickN l (some 1) none = l.tail := by
  cases l with
  | nil => rfl
  | cons x l => simp [pickN, kms_lo, kms_hi]
theorem pr_lt {k i : Nat} (hi : i < k) : pr k i < k := by unfold pr; split <;> omega
theorem pr_idx {k i : Nat} (hi : i < k) : seqIndex? ((i : Int) - 1) k = some (pr k i) := by
  unfold pr
  split
  · rename_i h; subst h; exact seqIdx_neg hi
  · rename_i h
    rw [show (i : Int) - 1 = ((i - 1 : Nat) : Int) by omega]; exact seqIdx_nat (by omega)
/-- rows[k - 1] -/
theorem ev_rowI {value slice : Expr} {pos : Pos} {R : Addr} {rs : Nat → Addr} {cnt : Nat} {P : Nat → Pt} {i : Int} {x : Nat} (hb : EvV c m n env value (.ref R)) (H : RowsIn n R rs cnt P) (he : EvI c m n env slice i) (hi : seqIndex? i cnt = some x) (hx : x < cnt) (hs : NoSl slice) :
    EvV c m n env (.Subscript value slice pos) (.ref (rs x)) := by
  obtain ⟨k, h⟩ := H.list
  refine ev_itemL hb h he (j := x) (by simpa using hi) ?_ (by have := H.few; simp; omega) hs
  rw [List.getElem?_map, List.getElem?_range hx]; rfl
theorem ev_eqT {e1 e2 : Expr} {pos : Pos} {a b : Addr} {A B : Pt} (h1 : EvV c m n env e1 (.ref a)) (hA : TupIn n a A) (h2 : EvV c m n env e2 (.ref b)) (hB : TupIn n b B) (rm : Room 1 c) : EvB c m n env (.Compare e1 [.Eq] [e2] pos) (decide (A = B)) :=
  let ⟨_, _, _, hA⟩ := hA
  let ⟨_, _, _, hB⟩ := hB
  run_cmp (useV h1 (useV h2 (run_eqT hA hB (by have := rm.2; omega) ⟨rfl, rfl, rfl⟩)))
theorem ints_one {i : Nat} {t : Tok} : IntsAre [.int (i : Int) t] (nums [i]) := IntsAre.cons _ _ IntsAre.nil
theorem order_len {f : Nat → Nat} {k : Nat} (hk : 0 < k) : (order f k).length = k := by simp [order]; omega
theorem c_lwhole {R : Addr} {rs : Nat → Addr} {cnt : Nat} {P : Nat → Pt} (H : RowsIn n R rs cnt P) (h2 : 2 ≤ cnt) : Fn 2 240 [.ref R] [] n (fun v n' => (∀ p ∈ n, p ∈ n') ∧ ∃ D, v = .ref D ∧ (∀ p ∈ n, p.1 < D) ∧ RingIn n' D (whole P cnt)) := by
  refine fn_enter (binds := [("rows", .ref R)]) (fun _ => by rfl) (fun _ => by rfl) (fun _ _ _ => BindsTo.of_eq (by rfl)) (by rfl) (by rfl) (by rfl) (by rfl) (by rfl) ?_
  intro c ok rm nd
  obtain ⟨k0, hL⟩ := H.list
  have hlen : ((List.range cnt).map fun i => Value.ref (rs i)).length = cnt := by simp
  have few := H.few
  refine run_cons (run_assign (useI (Ev.ofI (ev_lenL (by ktd_rel) hL (by rw [hlen]; omega)) (by rw [hlen])) fun t0 => ?_))
  refine run_cons (run_assign (useI ev_int fun t1 => ?_))
  refine run_cut (J := fun m n' => (∀ p ∈ n, p ∈ n') ∧ m "rows" = some (.ref R) ∧ m "count" = some (.int (cnt : Nat) t0) ∧ ∃ t, m "twice" = some (.int (tw P cnt cnt) t)) (run_for_range (J := fun i m n' => (∀ p ∈ n, p ∈ n') ∧ m "rows" = some (.ref R) ∧ m "count" = some (.int (cnt : Nat) t0) ∧ ∃ t, m "twice" = some (.int (tw P cnt i) t))
    (run_callT g_range b_range (by decide) (.consI (i := (cnt : Nat)) (by ktd_rel) (by intro _ _; rfl) .nil) (fun vs hvs => ?_))) ?_
  · obtain ⟨t2, _, rfl, rfl⟩ := hvs
    refine run_range1 fun W t v hW => ⟨W, 0, cnt, 1, t, t2, v, cnt, rfl, List.mem_cons_self .., range_small (a := 0) (by decide) (by omega), by rw [show (0 : Int) = ((0 : Nat) : Int) from rfl, range_size, Nat.sub_zero], ⟨fun p hp => List.mem_cons_of_mem _ hp, rfl, rfl, t1, rfl⟩, ?_, ?_⟩
    · rintro i t' m n' I oI hi ⟨sub, m1, m2, t3, m3⟩ nd' off
      refine run_cons (run_assign (run_bin (useI (i := tw P cnt i) (by ktd_rel) fun u1 => run_call g_law_cross k_law_cross (args_cons (run_tuple ((EvA.consI (i := 0) ev_int (by intro _ _; rfl) (.consI (i := 0) ev_int (by intro _ _; rfl) .nil)).args ?_))))))
      rintro _ ⟨u2, _, rfl, u3, _, rfl, rfl⟩
      refine ⟨Nat.le_of_ble_eq_true rfl, fun Z hZ => ?_⟩
      have sub' : ∀ p ∈ n, p ∈ (Z, tupO [.int 0 u2, .int 0 u3] 0) :: (I, oI) :: n' := fun p hp => List.mem_cons_of_mem _ (List.mem_cons_of_mem _ (sub p hp))
      have H' := H.sub sub'
      have hp := pr_lt hi
      have ei : (0 : Int) + (i : Int) * 1 = (i : Int) := by omega
      have TZ : TupIn ((Z, tupO [.int 0 u2, .int 0 u3] 0) :: (I, oI) :: n') Z (0, 0) := ⟨u2, u3, 0, List.mem_cons_self ..⟩
      have s0 : SmP (0, 0) := ⟨by unfold Sml; exact Nat.pow_pos (by decide), by unfold Sml; exact Nat.pow_pos (by decide)⟩
      refine EvA.args (.consV (v := .ref (rs (pr cnt i))) (ev_rowI (i := (i : Int) - 1) (by ktd_rel) H' (Ev.ofI (i := (0 : Int) + (i : Int) * 1 - 1) (by ktd_rel) (by omega)) (pr_idx hi) hp nosl_bin) (by intro _ _; rfl) (.consV (v := .ref (rs i)) (ev_row (x := i) (by ktd_rel) H' (Ev.ofI (i := (0 : Int) + (i : Int) * 1) (by ktd_rel) ei) hi nosl_name) (by intro _ _; rfl) .nil)) ?_
      rintro _ ⟨_, rfl, _, rfl, rfl⟩
      refine (c_cross TZ (H'.row _ hp) (H'.row _ hi) s0 (H.sm _ hp) (H.sm _ hi)).run rm ?_
      rintro v' n'' nd'' ⟨rfl, u4, rfl⟩
      refine run_add fun u5 => run_nil ?_
      exact ⟨n', fun p hp => List.mem_cons_of_mem _ (List.mem_cons_of_mem _ hp), List.mem_cons_of_mem _ (List.mem_cons_self ..), off, nd', sub, m1, m2, u5, rfl⟩
    · rintro m n' h nd'; exact ⟨rfl, h⟩
  rintro m n₁ nd₁ ⟨sub, m1, m2, t3, m3⟩
  have e1 : (cnt : Int) - 1 = ((cnt - 1 : Nat) : Int) := by omega
  have hpos : 0 < cnt := by omega
  have hord := order_len (f := wayOf P cnt) hpos
  refine run_cut (J := fun m n' => (∀ p ∈ n, p ∈ n') ∧ m "rows" = some (.ref R) ∧ ∃ D, m "order" = some (.ref D) ∧ (∀ p ∈ n, p.1 < D) ∧ RingIn n' D (order (wayOf P cnt) cnt)) (run_assign (run_ifexp (useT (b := decide (0 < tw P cnt cnt)) (tr_cmp (ev_gt (by ktd_rel) ev_int)) ?_))) ?_
  · by_cases hb : 0 < tw P cnt cnt
    · rw [if_pos (decide_eq_true hb)]
      have hw : wayOf P cnt = id := by unfold wayOf; rw [if_pos hb]
      refine run_bin (run_list ((EvA.consI (i := ((cnt - 1 : Nat) : Int)) (Ev.ofI (i := (cnt : Int) - 1) (by ktd_rel) e1) (by intro _ _; rfl) .nil).args ?_))
      rintro _ ⟨u1, _, rfl, rfl⟩
      refine ⟨Nat.le_of_ble_eq_true rfl, fun D1 l1 => ?_⟩
      refine run_callt g_list b_list (by decide) (args_cons (run_callT g_range b_range (by decide) (.consI (i := ((cnt - 1 : Nat) : Int)) (Ev.ofI (i := (cnt : Int) - 1) (by ktd_rel) e1) (by intro _ _; rfl) .nil) ?_))
      rintro _ ⟨u2, _, rfl, rfl⟩
      refine run_range1 fun W t v hW => args_nil ?_
      refine run_listR (N := cnt - 1) (List.mem_cons_self ..) (range_small (a := 0) (by decide) (by omega)) (by rw [show (0 : Int) = ((0 : Nat) : Int) from rfl, range_size, Nat.sub_zero]) (by omega) fun D2 us k l2 hus => ?_
      have hl := hus.length
      simp only [List.length_map, List.length_range] at hl
      refine run_addL (k := 0) (k' := k) (List.mem_cons_of_mem _ (List.mem_cons_of_mem _ (List.mem_cons_self ..))) (List.mem_cons_self ..) (by simp; omega) fun D3 l3 => ?_
      refine ⟨rfl, fun p hp => List.mem_cons_of_mem _ (List.mem_cons_of_mem _ (List.mem_cons_of_mem _ (List.mem_cons_of_mem _ (sub p hp)))), m1, D3, rfl, fun p hp => l3 p (List.mem_cons_of_mem _ (List.mem_cons_of_mem _ (List.mem_cons_of_mem _ (sub p hp)))), ⟨_, 0, List.mem_cons_self .., ?_⟩⟩
      rw [hw]
      have : nums (order id cnt) = nums [cnt - 1] ++ (List.range (cnt - 1)).map fun i : Nat => (0 : Int) + (i : Int) * 1 := by simp [order, nums]
      rw [this]
      exact ints_one.append hus
    · rw [if_neg (by simpa using hb)]
      have hw : wayOf P cnt = rv cnt := by unfold wayOf; rw [if_neg hb]
      refine run_bin (run_list ((EvA.consI (i := ((0 : Nat) : Int)) ev_int (by intro _ _; rfl) .nil).args ?_))
      rintro _ ⟨u1, _, rfl, rfl⟩
      refine ⟨Nat.le_of_ble_eq_true rfl, fun D1 l1 => ?_⟩
      refine run_callt g_list b_list (by decide) (args_cons (run_callT g_range b_range (by decide) (.consI (i := (cnt : Int) - 1) (by ktd_rel) (by intro _ _; rfl) (.consI ev_int (by intro _ _; rfl) (.consI (ev_neg ev_int) (by intro _ _; rfl) .nil))) ?_))
      rintro _ ⟨u2, _, rfl, u3, _, rfl, u4, _, rfl, rfl⟩
      refine run_range3 (by decide) ?_ fun W hW => args_nil ?_
      · rfl
      refine run_listR (N := cnt - 1) (List.mem_cons_self ..) (small_down (by omega) (by omega) (by omega) (by omega)) (by rw [rangeSize_downNat]; omega) (by omega) fun D2 us k l2 hus => ?_
      have hl := hus.length
      simp only [List.length_map, List.length_range] at hl
      refine run_addL (k := 0) (k' := k) (List.mem_cons_of_mem _ (List.mem_cons_of_mem _ (List.mem_cons_self ..))) (List.mem_cons_self ..) (by simp; omega) fun D3 l3 => ?_
      refine ⟨rfl, fun p hp => List.mem_cons_of_mem _ (List.mem_cons_of_mem _ (List.mem_cons_of_mem _ (List.mem_cons_of_mem _ (sub p hp)))), m1, D3, rfl, fun p hp => l3 p (List.mem_cons_of_mem _ (List.mem_cons_of_mem _ (List.mem_cons_of_mem _ (sub p hp)))), ⟨_, 0, List.mem_cons_self .., ?_⟩⟩
      rw [hw]
      have : nums (order (rv cnt) cnt) = nums [0] ++ (List.range (cnt - 1)).map fun i : Nat => ((cnt : Int) - 1) + (i : Int) * (-1) := by
        simp only [order, nums, List.map_cons, List.map_map, List.map_nil, List.cons_append, List.nil_append]
        congr 1
        · unfold rv; omega
        · refine List.map_congr_left fun i hi => ?_
          have := List.mem_range.mp hi
          simp only [Function.comp, rv]; omega
      rw [this]
      exact ints_one.append hus
  rintro m n₂ nd₂ ⟨sub₂, m1, D, m2, new, hR⟩
  have H₂ := H.sub sub₂
  have hin : ∀ i ∈ order (wayOf P cnt) cnt, i < cnt := fun i hi => by
    have hW : Way (wayOf P cnt) cnt := by unfold wayOf; split; exact way_id; exact way_rv
    rcases List.mem_cons.mp hi with rfl | hi
    · exact hW.lt _ (by omega)
    · obtain ⟨j, hj, rfl⟩ := List.mem_map.mp hi
      exact hW.lt _ (by have := List.mem_range.mp hj; omega)
  unfold whole
  have hn := order_ne (f := wayOf P cnt) (k := cnt)
  generalize order (wayOf P cnt) cnt = o at *
  have q0 : nth o 0 < cnt := nth_lt' hin hn
  have q1 : nth o 1 < cnt := nth_lt' hin hn
  refine run_cons (run_ret (run_ifexp (useT (b := decide (P (nth o 0) = P (nth o 1))) (tr_cmp (ev_eqT (ev_row (by ktd_rel) H₂ (ev_r0 (by ktd_rel) hR hn (by omega)) q0 nosl_sub) (H₂.row _ q0) (ev_row (by ktd_rel) H₂ (ev_rk (j := 1) (by ktd_rel) hR ev_int rfl (by omega) (by omega) nosl_const) q1 nosl_sub) (H₂.row _ q1) rm)) ?_)))
  by_cases hb : P (nth o 0) = P (nth o 1)
  · rw [if_pos (decide_eq_true hb), if_pos hb]
    refine run_rslice (l' := o.tail) (by ktd_rel) hR (evp_some ev_int) evp_none (by omega) pick_tail fun D' n₃ sub₃ new₃ hR₃ => ⟨fun p hp => sub₃ p (sub₂ p hp), D', rfl, fun p hp => new₃ p (sub₂ p hp), hR₃⟩
  · rw [if_neg (by simpa using hb), if_neg hb]
    exact useV (v := .ref D) (by ktd_rel) ⟨sub₂, D, rfl, new, hR⟩
end
end Mine
namespace Mine
local macro_rules | `(tactic| ktd_rel) => `(tactic| first
  | with_reducible exact ev_int
  | with_reducible exact ev_none
  | with_reducible exact ev_bool
  | ((with_reducible refine' ev_localI ?ka ?kl ?kk ?kx ?kd); (case ka => first | rfl | assumption); (case kl => rfl); (case kk => rfl); (case kx => rfl); (case kd => decide))
  | ((with_reducible refine' ev_local ?ka ?kl ?kk ?kx ?kd); (case ka => first | rfl | assumption); (case kl => rfl); (case kk => rfl); (case kx => rfl); (case kd => decide))
  | ((with_reducible refine' ev_add ?ka ?kb); (case ka => ktd_rel); (case kb => ktd_rel))
  | ((with_reducible refine' ev_sub ?ka ?kb); (case ka => ktd_rel); (case kb => ktd_rel))
  | ((with_reducible refine' ev_lt ?ka ?kb); (case ka => ktd_rel); (case kb => ktd_rel))
  | ((with_reducible refine' ev_le ?ka ?kb); (case ka => ktd_rel); (case kb => ktd_rel))
  | ((with_reducible refine' ev_gt ?ka ?kb); (case ka => ktd_rel); (case kb => ktd_rel))
  | ((with_reducible refine' ev_ge ?ka ?kb); (case ka => ktd_rel); (case kb => ktd_rel))
  | ((with_reducible refine' ev_eq ?ka ?kb); (case ka => ktd_rel); (case kb => ktd_rel))
  | ((with_reducible refine' ev_ne ?ka ?kb); (case ka => ktd_rel); (case kb => ktd_rel))
  | ((with_reducible refine' ev_neg ?ka); (case ka => ktd_rel))
  | ((with_reducible refine' ev_t0 ?ka ?kN); (case ka => ktd_rel); (case kN => with_reducible assumption))
  | ((with_reducible refine' ev_t1 ?ka ?kN); (case ka => ktd_rel); (case kN => with_reducible assumption))
  | ((with_reducible refine' tr_cmp ?ka ?kb); (case ka => ktd_rel); (case kb => rfl))
  | fail "ev")
theorem cells3 {cm : Str → Option Value} {n1 n2 n3 : Str} {c1 c2 c3 : Addr} {cells : List (Addr × Obj)} (x : CellsAre cm [(n1, c1), (n2, c2), (n3, c3)] cells) :
    ∃ o1 o2 o3, cells = [(c1, o1), (c2, o2), (c3, o3)] ∧ o1.data = .cell (cm n1) ∧ o2.data = .cell (cm n2) ∧ o3.data = .cell (cm n3) := by
  cases x with | cons h r => obtain ⟨o2, o3, rfl, h2, h3⟩ := r.two; exact ⟨_, o2, o3, rfl, h, h2, h3⟩
theorem TriAre.get {n : Led} {p : Nat → Addr} : ∀ {vs : List Value} {ts : List Tri} {i : Nat} {t : Tri}, TriAre n p vs ts → ts[i]? = some t → ∃ D, vs[i]? = some (.ref D) ∧ (D, tupO [.ref (p t.1), .ref (p t.2.1), .ref (p t.2.2)] 0) ∈ n
  | [], _, _, _, .nil, e => by simp at e
  | _ :: vs, _ :: ts, 0, _, .cons h _, e => ⟨_, rfl, by cases e; exact h⟩
  | _ :: vs, _ :: ts, i + 1, t, .cons _ r, e => by
    obtain ⟨D, h1, h2⟩ := TriAre.get (vs := vs) (ts := ts) (i := i) (t := t) r (by simpa using e)
    exact ⟨D, by simpa using h1, h2⟩
theorem DueAre.get {n : Led} : ∀ {vs : List Value} {ts : List Tri} {i : Nat} {t : Tri}, DueAre n vs ts → ts[i]? = some t → ∃ D t1 t2 t3, vs[i]? = some (.ref D) ∧ (D, tupO [.int (t.1 : Nat) t1, .int (t.2.1 : Nat) t2, .int (t.2.2 : Nat) t3] 0) ∈ n
  | [], _, _, _, .nil, e => by simp at e
  | _ :: vs, _ :: ts, 0, _, .cons h _, e => by cases e; exact ⟨_, _, _, _, rfl, h⟩
  | _ :: vs, _ :: ts, i + 1, t, .cons _ r, e => by
    obtain ⟨D, t1, t2, t3, h1, h2⟩ := DueAre.get (vs := vs) (ts := ts) (i := i) (t := t) r (by simpa using e)
    exact ⟨D, t1, t2, t3, by simpa using h1, h2⟩
section
variable {c : Cfg} {m : Loc} {n : Led} {env : Env}
theorem inst31 {d : Addr} : (instObj 31 d).cls ≠ .type "tuple" := by simp
theorem tr_isiT {e : Expr} {np tp pos : Pos} {l : Addr} {vs : List Value} {k : Nat} (he : EvV c m n env e (.ref l)) (h : (l, tupO vs k) ∈ n) (hg : env.globals = mainGlobals := by rfl) (hgb : env.builtins = builtinsNs := by rfl) (hke : env.scope.kind = .function := by rfl)
    (hx : env.kindOf "isinstance" = some .globalImplicit := by rfl) (hx' : env.kindOf "tuple" = some .globalImplicit := by rfl) (n1 : NotStar e := by intro _ _; rfl) : EvB c m n env (.Call (.Name "isinstance" np) [e, .Name "tuple" tp] [] pos) true :=
  run_callB g_isinstance b_isinstance (by decide) (.consV he n1 (.consV (v := .type "tuple") (run_blt g_tuple b_tuple (by decide) ⟨rfl, rfl, rfl⟩ hg hgb hke hx' (by decide)) (by intro _ _; rfl) .nil)) (fun vs ⟨_, e, _, e', e''⟩ => by subst e''; subst e'; subst e; exact run_isiT h ⟨rfl, rfl, rfl⟩) hg hgb hke hx
theorem ev_lenT {e : Expr} {np pos : Pos} {l : Addr} {vs : List Value} {k : Nat} (he : EvV c m n env e (.ref l)) (h : (l, tupO vs k) ∈ n) (hz : vs.length ≤ 1000000) (hg : env.globals = mainGlobals := by rfl) (hgb : env.builtins = builtinsNs := by rfl) (hke : env.scope.kind = .function := by rfl)
    (hx : env.kindOf "len" = some .globalImplicit := by rfl) (n1 : NotStar e := by intro _ _; rfl) : EvI c m n env (.Call (.Name "len" np) [e] [] pos) vs.length :=
  run_callB g_len b_len (by decide) (.consV he n1 .nil) (fun vs ⟨_, e, e'⟩ => by subst e'; subst e; exact run_lenT h hz fun t => ⟨rfl, rfl, t, rfl⟩) hg hgb hke hx
theorem ev_cvarI {x : Str} {pos : Pos} {i : Int} {t : Tok} {C : Addr} {oC : Obj} {m₂ : Loc} {scope : Scope} {cl : List (Str × Addr)} (hm : (C, oC) ∈ n) (hO : LCg.NsObj oC m₂) (hv : m₂ x = some (.int i t)) (hk : scope.kind = .function := by rfl) (hx : (compEnvC scope cl C env).kindOf x = some .local := by rfl)
    (hd : (x == ("__debug__" : Str)) = false := by decide) : EvI c m n (compEnvC scope cl C env) (.Name x pos) i := (ev_cvar hm hO hv hk hx hd).use fun v e => ⟨rfl, rfl, t, e⟩
theorem c_told {A1 A2 A3 : Addr} {vs : List Value} {k1 k3 : Nat} {ts : List Tri} {p : Nat → Addr} {cnt : Nat} (h1 : (A1, listO vs k1) ∈ n) (h1' : TriAre n p vs ts) (h2 : DueIn n A2 ts) (h3 : (A3, listO ((List.range cnt).map fun i => .ref (p i)) k3) ∈ n)
    (hp : ∀ i, i < cnt → ∃ d, (p i, instObj 31 d) ∈ n) (hts : ∀ t ∈ ts, t.1 < cnt ∧ t.2.1 < cnt ∧ t.2.2 < cnt) (hz : ts.length ≤ 10000) (hc : cnt ≤ 1000) : Fn 2 250 [.ref A1, .ref A2, .ref A3] [] n (fun v n' => n' = n ∧ v = .bool true) := by
  refine Fn.drop (fn_enterC (binds := [("told", .ref A1), ("due", .ref A2), ("points", .ref A3)]) (fun _ => by rfl) (fun _ => by rfl) (fun _ _ _ => BindsTo.of_eq (by rfl)) (by rfl) (by decide) (by rfl) (by rfl) (by rfl) ?_)
  intro c cells ok rm nd Y new
  obtain ⟨o3, o2, o1, rfl, d3, d2, d1⟩ := cells3 (n1 := "points") (n2 := "due") (n3 := "told") (c1 := c.L + 3) (c2 := c.L + 2) (c3 := c.L + 1) Y
  have sub : ∀ p ∈ n, p ∈ [(c.L + 3, o3), (c.L + 2, o2), (c.L + 1, o1)] ++ n := fun p hp => List.mem_append_right _ hp
  replace d3 : o3.data = .cell (some (.ref A3)) := d3
  replace d2 : o2.data = .cell (some (.ref A2)) := d2
  replace d1 : o1.data = .cell (some (.ref A1)) := d1
  obtain ⟨ws, k2, h2, h2'⟩ := h2
  have lv := h1'.length
  have lw := h2'.length
  have q3 : (c.L + 3, o3) ∈ [(c.L + 3, o3), (c.L + 2, o2), (c.L + 1, o1)] ++ n := by simp
  have q2 : (c.L + 2, o2) ∈ [(c.L + 3, o3), (c.L + 2, o2), (c.L + 1, o1)] ++ n := by simp
  have q1 : (c.L + 1, o1) ∈ [(c.L + 3, o3), (c.L + 2, o2), (c.L + 1, o1)] ++ n := by simp
  generalize [(c.L + 3, o3), (c.L + 2, o2), (c.L + 1, o1)] ++ n = n₀ at *
  refine run_cons (run_ifb (b := false) (tr_cmp (Ev.cast (ev_ne (ev_lenL (ev_cell (by rfl) q1 d1) (sub _ h1) (by omega)) (ev_lenL (ev_cell (by rfl) q2 d2) (sub _ h2) (by omega))) (by rw [lv, lw]; simp))) (fun h => by cases h) (fun _ => run_nil ?_))
  refine run_cons (run_ret (run_cmp (run_comp (ct := some _) (by rfl) (by rfl) (by rfl) (by decide) (by rfl) (run_callT g_range b_range (by decide) (.consI (ev_lenL (ev_cell (by rfl) q2 d2) (sub _ h2) (by omega)) (by intro _ _; rfl) .nil) (fun us hus => ?_)))))
  obtain ⟨t0, _, rfl, rfl⟩ := hus
  refine run_range1 fun W t v hW => ⟨ws.length, _, fun i ys n' => ys = [] ∧ ∀ p ∈ n₀, p ∈ n', Src.range (N := ws.length) (List.mem_cons_self ..) (range_small (a := 0) (by decide) (by omega)) (by rw [show (0 : Int) = ((0 : Nat) : Int) from rfl, range_size, Nat.sub_zero]) (by omega), ⟨?_⟩, ⟨rfl, fun p hp => List.mem_cons_of_mem _ hp⟩, ?_⟩
  · rintro i v ys n' I oI C oC D m₂ hi ⟨tk, rfl⟩ ⟨rfl, sub₁⟩ nd' hC hx off ne
    show Run _ _ _ _ _
    have s' : ∀ p ∈ n', p ∈ (I, oI) :: (C, oC) :: (D, LL []) :: n' := fun p hp => List.mem_cons_of_mem _ (List.mem_cons_of_mem _ (List.mem_cons_of_mem _ hp))
    have s₂ : ∀ p ∈ n, p ∈ (I, oI) :: (C, oC) :: (D, LL []) :: n' := fun p hp => s' p (sub₁ p (sub p hp))
    have hCm : (C, oC) ∈ (I, oI) :: (C, oC) :: (D, LL []) :: n' := List.mem_cons_of_mem _ (List.mem_cons_self ..)
    replace q1 := s' _ (sub₁ _ q1)
    replace q2 := s' _ (sub₁ _ q2)
    replace q3 := s' _ (sub₁ _ q3)
    have hi' : i < ts.length := by omega
    obtain ⟨t, ht⟩ : ∃ t, ts[i]? = some t := ⟨_, List.getElem?_eq_getElem hi'⟩
    obtain ⟨b1, b2, b3⟩ := hts t (List.mem_of_getElem? ht)
    obtain ⟨D1, e1, hD1⟩ := h1'.get ht
    obtain ⟨D2, u1, u2, u3, e2, hD2⟩ := h2'.get ht
    replace hD1 := s₂ _ hD1
    replace hD2 := s₂ _ hD2
    have ei : (0 : Int) + (i : Int) * 1 = (i : Int) := by omega
    rw [ei] at hx
    have key : ∀ j, j < cnt → ∃ d, (p j, instObj 31 d) ∈ (I, oI) :: (C, oC) :: (D, LL []) :: n' := fun j hj => let ⟨d, h⟩ := hp j hj; ⟨d, s₂ _ h⟩
    obtain ⟨d1', g1⟩ := key _ b1
    obtain ⟨d2', g2⟩ := key _ b2
    obtain ⟨d3', g3⟩ := key _ b3
    replace h1 := s₂ _ h1
    replace h2 := s₂ _ h2
    replace h3 := s₂ _ h3
    generalize hN : (I, oI) :: (C, oC) :: (D, LL []) :: n' = N at *
    have pts : ∀ {j : Nat}, j < cnt → ((List.range cnt).map fun i => Value.ref (p i))[j]? = some (.ref (p j)) := fun hj => by rw [List.getElem?_map, List.getElem?_range hj]; rfl
    refine useT (b := false) (Ev.cast (tr_or (b₁ := false) (tr_not (b' := true) (tr_val (tr_isiT (ev_itemL (ev_cell (by rfl) q1 d1) h1 (ev_cvarI hCm hC hx) (seqIdx_nat (by omega)) e1 (by omega) nosl_name) hD1))) fun _ => tr_or (b₁ := false) (tr_cmp (Ev.cast (ev_ne (ev_lenT (ev_itemL (ev_cell (by rfl) q1 d1) h1 (ev_cvarI hCm hC hx) (seqIdx_nat (by omega)) e1 (by omega) nosl_name) hD1 (Nat.le_of_ble_eq_true rfl)) ev_int) (by rfl))) fun _ => tr_or (tr_cmp (Ev.cast (ev_isnot (ev_itemT (ev_itemL (ev_cell (by rfl) q1 d1) h1 (ev_cvarI hCm hC hx) (seqIdx_nat (by omega)) e1 (by omega) nosl_name) hD1 ev_int (by rfl) rfl (Nat.le_of_ble_eq_true rfl) nosl_const) (ev_itemL (ev_cell (by rfl) q3 d3) h3 (ev_itemTI (ev_itemL (ev_cell (by rfl) q2 d2) h2 (ev_cvarI hCm hC hx) (seqIdx_nat (by omega)) e2 (by omega) nosl_name) hD2 ev_int (by rfl) ⟨u1, rfl⟩ (Nat.le_of_ble_eq_true rfl) nosl_const) (seqIdx_nat (by simpa using b1)) (pts b1) (by simp; omega) nosl_sub) g1 g1 inst31) (y := .bool false) (by simp))) fun _ => tr_or (tr_cmp (Ev.cast (ev_isnot (ev_itemT (ev_itemL (ev_cell (by rfl) q1 d1) h1 (ev_cvarI hCm hC hx) (seqIdx_nat (by omega)) e1 (by omega) nosl_name) hD1 ev_int (by rfl) rfl (Nat.le_of_ble_eq_true rfl) nosl_const) (ev_itemL (ev_cell (by rfl) q3 d3) h3 (ev_itemTI (ev_itemL (ev_cell (by rfl) q2 d2) h2 (ev_cvarI hCm hC hx) (seqIdx_nat (by omega)) e2 (by omega) nosl_name) hD2 ev_int (by rfl) ⟨u2, rfl⟩ (Nat.le_of_ble_eq_true rfl) nosl_const) (seqIdx_nat (by simpa using b2)) (pts b2) (by simp; omega) nosl_sub) g2 g2 inst31) (y := .bool false) (by simp))) fun _ => tr_or (tr_cmp (Ev.cast (ev_isnot (ev_itemT (ev_itemL (ev_cell (by rfl) q1 d1) h1 (ev_cvarI hCm hC hx) (seqIdx_nat (by omega)) e1 (by omega) nosl_name) hD1 ev_int (by rfl) rfl (Nat.le_of_ble_eq_true rfl) nosl_const) (ev_itemL (ev_cell (by rfl) q3 d3) h3 (ev_itemTI (ev_itemL (ev_cell (by rfl) q2 d2) h2 (ev_cvarI hCm hC hx) (seqIdx_nat (by omega)) e2 (by omega) nosl_name) hD2 ev_int (by rfl) ⟨u3, rfl⟩ (Nat.le_of_ble_eq_true rfl) nosl_const) (seqIdx_nat (by simpa using b3)) (pts b3) (by simp; omega) nosl_sub) g3 g3 inst31) (y := .bool false) (by simp))) fun _ => tr_or0) (by rfl)) ?_
    exact ⟨rfl, rfl, n', fun p hp => hN ▸ hp, off, nd', rfl, sub₁⟩
  · rintro D ys n₂ ⟨rfl, sub₁⟩ nd₂
    refine run_list (args_nil ⟨Nat.zero_le _, fun E hE => ?_⟩)
    refine run_eqNil (List.mem_cons_of_mem _ (List.mem_cons_self ..)) (List.mem_cons_self ..) (by have := rm.2; omega) ⟨fun p hp => List.mem_cons_of_mem _ (List.mem_cons_of_mem _ (sub₁ p (sub p hp))), rfl⟩
end
end Mine
namespace Mine
local macro_rules | `(tactic| ktd_rel) => `(tactic| first
  | with_reducible exact ev_int
  | with_reducible exact ev_none
  | with_reducible exact ev_bool
  | ((with_reducible refine' ev_localI ?ka ?kl ?kk ?kx ?kd); (case ka => first | rfl | assumption); (case kl => rfl); (case kk => rfl); (case kx => rfl); (case kd => decide))
  | ((with_reducible refine' ev_local ?ka ?kl ?kk ?kx ?kd); (case ka => first | rfl | assumption); (case kl => rfl); (case kk => rfl); (case kx => rfl); (case kd => decide))
  | ((with_reducible refine' ev_add ?ka ?kb); (case ka => ktd_rel); (case kb => ktd_rel))
  | ((with_reducible refine' ev_sub ?ka ?kb); (case ka => ktd_rel); (case kb => ktd_rel))
  | ((with_reducible refine' ev_lt ?ka ?kb); (case ka => ktd_rel); (case kb => ktd_rel))
  | ((with_reducible refine' ev_le ?ka ?kb); (case ka => ktd_rel); (case kb => ktd_rel))
  | ((with_reducible refine' ev_gt ?ka ?kb); (case ka => ktd_rel); (case kb => ktd_rel))
  | ((with_reducible refine' ev_ge ?ka ?kb); (case ka => ktd_rel); (case kb => ktd_rel))
  | ((with_reducible refine' ev_eq ?ka ?kb); (case ka => ktd_rel); (case kb => ktd_rel))
  | ((with_reducible refine' ev_ne ?ka ?kb); (case ka => ktd_rel); (case kb => ktd_rel))
  | ((with_reducible refine' ev_neg ?ka); (case ka => ktd_rel))
  | ((with_reducible refine' ev_t0 ?ka ?kN); (case ka => ktd_rel); (case kN => with_reducible assumption))
  | ((with_reducible refine' ev_t1 ?ka ?kN); (case ka => ktd_rel); (case kN => with_reducible assumption))
  | ((with_reducible refine' tr_cmp ?ka ?kb); (case ka => ktd_rel); (case kb => rfl))
  | fail "ev")
section
variable {c : Cfg} {m : Loc} {n : Led} {env : Env}
theorem run_setitem {l : Addr} {vs : List Value} {k : Nat} {i : Int} {t : Tok} {v : Value} {Q : Unit → Loc → Led → Prop} (h : (l, listO vs k) ∈ n) (h0 : 0 ≤ i) (hi : i < vs.length) (hz : vs.length ≤ 1000000) (q : Q () m (put n l (listO (vs.set i.toNat v) k))) : Run c m n (setItem (.ref l) (.int i t) v) Q := fun s S => by
  have U := upd_put (o' := listO (vs.set i.toNat v) k) S.nd h
  have nd' := S.nd.put l (listO (vs.set i.toNat v) k)
  revert q nd'
  generalize put n l (listO (vs.set i.toNat v) k) = n' at *
  intro q nd'
  obtain ⟨pre, post, rfl, rfl, a, b⟩ := U.split
  have z := S.N (l, listO vs k) (List.mem_append.mpr (.inr (.head _)))
  refine ki_setAt (n := k) (items := vs.toArray) z.1 h0 (by omega) (by simpa using hi) ?_
  refine ⟨m, _, S.to (tk := s.toks) (S.F.change (Heap.SameBut.update ..) z.2.1 z.2.2) (ki_turn _ S.N a b ?_ ?_) nd', q⟩
  · simp
  · simp
/-- rows of small numbers -/
def SmR (n : Led) (vs : List Value) : Prop := ∀ v ∈ vs, ∃ a p, v = .ref a ∧ TupIn n a p ∧ p.1.natAbs ≤ 100 ∧ p.2.natAbs ≤ 100
theorem SmR.sub {n n' : Led} {vs : List Value} (h : SmR n vs) (e : ∀ q ∈ n, q ∈ n') : SmR n' vs := fun v hv => let ⟨a, p, h1, h2, h3⟩ := h v hv; ⟨a, p, h1, h2.sub e, h3⟩
theorem SmR.other {n n' : Led} {vs : List Value} {ds : List Addr} (h : SmR n vs) (o : Only ds n n') (hd : ∀ D ws k, (D, tupO ws k) ∈ n → D ∉ ds) : SmR n' vs := fun v hv =>
  let ⟨a, p, h1, ⟨t, u, k, h2⟩, h3⟩ := h v hv; ⟨a, p, h1, ⟨t, u, k, o _ h2 (hd _ _ _ h2)⟩, h3⟩
theorem rows_of {n : Led} : ∀ {ys : List Value}, (∀ v ∈ ys, ∃ a p, v = .ref a ∧ TupIn n a p ∧ SmP p) → ∃ (rs : Nat → Addr) (P : Nat → Pt), ys = ((List.range ys.length).map fun i => Value.ref (rs i)) ∧ ∀ i, i < ys.length → TupIn n (rs i) (P i) ∧ SmP (P i)
  | [], _ => ⟨fun _ => 0, fun _ => (0, 0), rfl, fun i h => by simp at h⟩
  | v :: ys, h => by
    obtain ⟨rs, P, h1, h2⟩ := rows_of (ys := ys) fun v hv => h v (List.mem_cons_of_mem _ hv)
    obtain ⟨a, p, rfl, h3, h4⟩ := h v (List.mem_cons_self ..)
    refine ⟨fun i => match i with | 0 => a | i + 1 => rs i, fun i => match i with | 0 => p | i + 1 => P i, ?_, ?_⟩
    · rw [List.length_cons, List.range_succ_eq_map, List.map_cons, List.map_map]
      congr 1
    · intro i hi
      cases i with
      | zero => exact ⟨h3, h4⟩
      | succ i => exact h2 i (by simpa using hi)
theorem c_rim : Fn 1 176 [] [] n (fun v n' => (∀ p ∈ n, p ∈ n') ∧ ∃ D vs k, v = .ref D ∧ (D, listO vs k) ∈ n' ∧ vs.length = 8 ∧ SmR n' vs) := by
  refine fn_enter (binds := []) (fun _ => by rfl) (fun _ => by rfl) (fun _ _ _ => BindsTo.of_eq (by rfl)) (by rfl) (by rfl) (by rfl) (by rfl) (by rfl) ?_
  intro c ok rm nd
  have tup : ∀ (n : Led) (env : Env) (x y : Int) (k1 k2 k3 : Nat) (p1 p2 p3 : Pos) (Q : Value → Loc → Led → Prop) (m : Loc), (∀ D n', (∀ p ∈ n, p ∈ n') → (TupIn n' D (x, y)) → Q (.ref D) m n') → Run c m n (eval (.Tuple [.Constant (.int x) k1 p1, .Constant (.int y) k2 p2] k3 p3) env) Q := by
    intro n env x y k1 k2 k3 p1 p2 p3 Q m q
    refine run_tuple ((EvA.consI (i := x) ev_int (by intro _ _; rfl) (.consI (i := y) ev_int (by intro _ _; rfl) .nil)).args ?_)
    rintro _ ⟨t, _, rfl, u, _, rfl, rfl⟩
    exact ⟨Nat.le_of_ble_eq_true rfl, fun D hD => q D _ (fun p hp => List.mem_cons_of_mem _ hp) ⟨t, u, 0, List.mem_cons_self ..⟩⟩
  refine run_cons ?_
  refine run_ret ?_
  refine run_list ?_
  refine args_cons ?_
  refine tup _ _ _ _ _ _ _ _ _ _ _ _ ?_
  intro D1 n1 s1 h1
  refine args_cons ?_
  refine tup _ _ _ _ _ _ _ _ _ _ _ _ ?_
  intro D2 n2 s2 h2
  refine args_cons ?_
  refine tup _ _ _ _ _ _ _ _ _ _ _ _ ?_
  intro D3 n3 s3 h3
  refine args_cons ?_
  refine tup _ _ _ _ _ _ _ _ _ _ _ _ ?_
  intro D4 n4 s4 h4
  refine args_cons ?_
  refine tup _ _ _ _ _ _ _ _ _ _ _ _ ?_
  intro D5 n5 s5 h5
  refine args_cons ?_
  refine tup _ _ _ _ _ _ _ _ _ _ _ _ ?_
  intro D6 n6 s6 h6
  refine args_cons ?_
  refine tup _ _ _ _ _ _ _ _ _ _ _ _ ?_
  intro D7 n7 s7 h7
  refine args_cons ?_
  refine tup _ _ _ _ _ _ _ _ _ _ _ _ ?_
  intro D8 n8 s8 h8
  refine args_nil ?_
  refine ⟨Nat.le_of_ble_eq_true rfl, fun D hD => ⟨fun p hp => List.mem_cons_of_mem _ (s8 p (s7 p (s6 p (s5 p (s4 p (s3 p (s2 p (s1 p hp)))))))), D, _, 0, rfl, List.mem_cons_self .., rfl, ?_⟩⟩
  have s9 : ∀ p ∈ n8, p ∈ (D, listO [.ref D1, .ref D2, .ref D3, .ref D4, .ref D5, .ref D6, .ref D7, .ref D8] 0) :: n8 := fun p hp => List.mem_cons_of_mem _ hp
  replace h8 := h8.sub s9
  replace h7 := (h7.sub s8).sub s9
  replace h6 := ((h6.sub s7).sub s8).sub s9
  replace h5 := (((h5.sub s6).sub s7).sub s8).sub s9
  replace h4 := ((((h4.sub s5).sub s6).sub s7).sub s8).sub s9
  replace h3 := (((((h3.sub s4).sub s5).sub s6).sub s7).sub s8).sub s9
  replace h2 := ((((((h2.sub s3).sub s4).sub s5).sub s6).sub s7).sub s8).sub s9
  replace h1 := (((((((h1.sub s2).sub s3).sub s4).sub s5).sub s6).sub s7).sub s8).sub s9
  intro v hv
  simp only [List.mem_cons, List.not_mem_nil, or_false] at hv
  rcases hv with rfl | rfl | rfl | rfl | rfl | rfl | rfl | rfl
  · exact ⟨_, _, rfl, h1, by decide, by decide⟩
  · exact ⟨_, _, rfl, h2, by decide, by decide⟩
  · exact ⟨_, _, rfl, h3, by decide, by decide⟩
  · exact ⟨_, _, rfl, h4, by decide, by decide⟩
  · exact ⟨_, _, rfl, h5, by decide, by decide⟩
  · exact ⟨_, _, rfl, h6, by decide, by decide⟩
  · exact ⟨_, _, rfl, h7, by decide, by decide⟩
  · exact ⟨_, _, rfl, h8, by decide, by decide⟩
end
end Mine
namespace Mine
local macro_rules | `(tactic| ktd_rel) => `(tactic| first
  | with_reducible exact ev_int
  | with_reducible exact ev_none
  | with_reducible exact ev_bool
  | ((with_reducible refine' ev_localI ?ka ?kl ?kk ?kx ?kd); (case ka => first | rfl | assumption); (case kl => rfl); (case kk => rfl); (case kx => rfl); (case kd => decide))
  | ((with_reducible refine' ev_local ?ka ?kl ?kk ?kx ?kd); (case ka => first | rfl | assumption); (case kl => rfl); (case kk => rfl); (case kx => rfl); (case kd => decide))
  | ((with_reducible refine' ev_add ?ka ?kb); (case ka => ktd_rel); (case kb => ktd_rel))
  | ((with_reducible refine' ev_sub ?ka ?kb); (case ka => ktd_rel); (case kb => ktd_rel))
  | ((with_reducible refine' ev_lt ?ka ?kb); (case ka => ktd_rel); (case kb => ktd_rel))
  | ((with_reducible refine' ev_le ?ka ?kb); (case ka => ktd_rel); (case kb => ktd_rel))
  | ((with_reducible refine' ev_gt ?ka ?kb); (case ka => ktd_rel); (case kb => ktd_rel))
  | ((with_reducible refine' ev_ge ?ka ?kb); (case ka => ktd_rel); (case kb => ktd_rel))
  | ((with_reducible refine' ev_eq ?ka ?kb); (case ka => ktd_rel); (case kb => ktd_rel))
  | ((with_reducible refine' ev_ne ?ka ?kb); (case ka => ktd_rel); (case kb => ktd_rel))
  | ((with_reducible refine' ev_neg ?ka); (case ka => ktd_rel))
  | ((with_reducible refine' ev_t0 ?ka ?kN); (case ka => ktd_rel); (case kN => with_reducible assumption))
  | ((with_reducible refine' ev_t1 ?ka ?kN); (case ka => ktd_rel); (case kN => with_reducible assumption))
  | ((with_reducible refine' tr_cmp ?ka ?kb); (case ka => ktd_rel); (case kb => rfl))
  | fail "ev")
/-- how wide a number of the script is -/
def FB : Nat := 2 ^ 20
def Smf (a : Int) : Prop := a.natAbs < 2 ^ FB
/-- rows of a kind -/
def PR (G : Pt → Prop) (n : Led) (vs : List Value) : Prop := ∀ v ∈ vs, ∃ a p, v = .ref a ∧ TupIn n a p ∧ G p
theorem PR.sub {G : Pt → Prop} {n n' : Led} {vs : List Value} (h : PR G n vs) (e : ∀ q ∈ n, q ∈ n') : PR G n' vs := fun v hv => let ⟨a, p, h1, h2, h3⟩ := h v hv; ⟨a, p, h1, h2.sub e, h3⟩
section
variable {c : Cfg} {m : Loc} {n : Led} {env : Env}
theorem ev_mod' {l r : Expr} {pos : Pos} {a b : Int} (h1 : EvI c m n env l a) (h2 : EvI c m n env r b) (hb : 0 < b) : EvI c m n env (.BinOp l .Mod r pos) (a % b) := by
  have := ev_mod (pos := pos) h1 h2 (by omega)
  rwa [Int.fmod_eq_emod_of_nonneg _ (by omega)] at this
theorem ev_div' {l r : Expr} {pos : Pos} {a b : Int} (h1 : EvI c m n env l a) (h2 : EvI c m n env r b) (hb : 0 < b) (hp : Builtin.divisionGoesByPylong a b = false) : EvI c m n env (.BinOp l .FloorDiv r pos) (a / b) := by
  have := ev_div (pos := pos) h1 h2 (by omega) hp
  rwa [Int.fdiv_eq_ediv_of_nonneg _ (by omega)] at this
/-- a comprehension of pairs -/
theorem comp_pairs {G : Pt → Prop} {base : Led} {e1 e2 : Expr} {k : Nat} {pos : Pos} {x : Str} {scope : Scope} {cl : List (Str × Addr)} {N : Nat} {P : Nat → Value → Prop} (hz : N ≤ 1000000)
    (n1 : NotStar e1) (n2 : NotStar e2) (hel : ∀ i v nn C oC m₂, i < N → P i v → (∀ p ∈ base, p ∈ nn) → LCg.NsObj oC m₂ → m₂ x = some v → (C, oC) ∈ nn → ∃ a b, EvI c m nn (compEnvC scope cl C env) e1 a ∧ EvI c m nn (compEnvC scope cl C env) e2 b ∧ G (a, b)) :
    CompW c m env none (.Tuple [e1, e2] k pos) x scope cl N P (fun i ys n' => (∀ p ∈ base, p ∈ n') ∧ ys.length = i ∧ PR G n' ys) := by
  refine ⟨?_⟩
  rintro i v ys n' I oI C oC D m₂ hi hP ⟨sub, hl, hG⟩ nd' hC hx off ne
  show Run _ _ _ _ _
  have s' : ∀ p ∈ n', p ∈ (I, oI) :: (C, oC) :: (D, LL ys) :: n' := fun p hp => List.mem_cons_of_mem _ (List.mem_cons_of_mem _ (List.mem_cons_of_mem _ hp))
  obtain ⟨a, b, h1, h2, hab⟩ := hel i v ((I, oI) :: (C, oC) :: (D, LL ys) :: n') C oC m₂ hi hP (fun p hp => s' p (sub p hp)) hC hx (List.mem_cons_of_mem _ (List.mem_cons_self ..))
  refine run_tuple ((EvA.consI h1 n1 (.consI h2 n2 .nil)).args ?_)
  rintro _ ⟨t, _, rfl, u, _, rfl, rfl⟩
  refine ⟨Nat.le_of_ble_eq_true rfl, fun E hE => ⟨rfl, (E, tupO [.int a t, .int b u] 0) :: n', ?_, ?_, ?_, ?_, ?_, ?_⟩⟩
  · intro p hp
    simp only [List.mem_cons] at hp ⊢
    rcases hp with h | h | h | h | h <;> simp [h]
  · refine LCg.Off3.of fun p hp => ?_
    rcases List.mem_cons.mp hp with rfl | hp
    · exact ⟨Ne.symm (Nat.ne_of_lt (hE _ (List.mem_cons_self ..))), Ne.symm (Nat.ne_of_lt (hE _ (List.mem_cons_of_mem _ (List.mem_cons_self ..)))), Ne.symm (Nat.ne_of_lt (hE _ (List.mem_cons_of_mem _ (List.mem_cons_of_mem _ (List.mem_cons_self ..)))))⟩
    · exact off.mem p hp
  · exact keys_cons nd' fun p hp => hE p (s' p hp)
  · exact fun p hp => List.mem_cons_of_mem _ (sub p hp)
  · simp [hl]
  · intro w hw
    rcases List.mem_append.mp hw with hw | hw
    · exact (hG.sub fun p hp => List.mem_cons_of_mem _ hp) w hw
    · exact ⟨E, (a, b), List.mem_singleton.mp hw, ⟨t, u, 0, List.mem_cons_self ..⟩, hab⟩
/-- the state of the draw: its cells -/
structure DrawIn (n : Led) (L : Addr) (first : Int) (n' : Led) : Prop where
  sub : ∀ p ∈ n, p ∈ n'
  first : ∃ o, (L + 1, o) ∈ n' ∧ ∃ t, o.data = .cell (some (.int first t))
structure DrawAt (n : Led) (L : Addr) (first : Int) (n' : Led) (R : Addr) (vs : List Value) (kk : Nat) (o : Obj) : Prop extends DrawIn n L first n' where
  cell : (L + 2, o) ∈ n'
  data : o.data = .cell (some (.ref R))
  list : (R, listO vs kk) ∈ n'
  rows : SmR n' vs
  many : 3 ≤ vs.length
  few : vs.length ≤ 20
  off : ∀ p ∈ n, p.1 ≠ R
def DrawRows (n : Led) (L : Addr) (first : Int) (n' : Led) : Prop := ∃ R vs kk o, DrawAt n L first n' R vs kk o
theorem tup_ne_list' {a b : List Value} {k k' : Nat} : tupO a k ≠ listO b k' := fun h => by have := congrArg Obj.cls h; simp at this
theorem cell_ne {o o' : Obj} {v : Option Value} (h : o.data = .cell v) (h' : ∀ v, o'.data ≠ .cell v) : o ≠ o' := fun e => h' v (e ▸ h)
theorem DrawIn.set {n n' : Led} {L : Addr} {first : Int} {o o' : Obj} {v₀ : Option Value} {R : Addr} {vs : List Value} {kk : Nat} (D : DrawIn n L first n') (nd : Keys n') (new : ∀ p ∈ n, p.1 < L) (h : (L + 2, o) ∈ n') (hd : o.data = .cell v₀) (hR : (R, listO vs kk) ∈ n') (hs : SmR n' vs) (h3 : 3 ≤ vs.length) (h20 : vs.length ≤ 20) (hoff : ∀ p ∈ n, p.1 ≠ R) (ho : o'.data = .cell (some (.ref R))) :
    DrawRows n L first (put n' (L + 2) o') := ⟨R, vs, kk, o', {
  sub := fun p hp => mem_put_other (D.sub p hp) (Nat.ne_of_lt (Nat.lt_of_lt_of_le (new p hp) (Nat.le_add_right _ _)))
  first := let ⟨o₁, h1, t, h2⟩ := D.first; ⟨o₁, mem_put_other h1 (Nat.ne_of_lt (Nat.lt_succ_self _)), t, h2⟩
  cell := mem_put_same h
  data := ho
  list := mem_put_other hR (key_ne nd hR h fun e => cell_ne hd (fun v => by simp) e.symm)
  rows := hs.other (ds := [L + 2]) (fun p hp e => mem_put_other hp (by simpa using e)) (fun E ws k hE e => key_ne nd hE h (fun e => cell_ne hd (fun v => by simp) e.symm) (by simpa using e))
  many := h3
  few := h20
  off := hoff }⟩
/-- the rows turn in place -/
theorem DrawAt.turn {n n' : Led} {L : Addr} {first : Int} {R : Addr} {vs vs' : List Value} {kk : Nat} {o : Obj} (D : DrawAt n L first n' R vs kk o) (nd : Keys n') (hl : vs'.length = vs.length) (hs : SmR n' vs') : DrawAt n L first (put n' R (listO vs' kk)) R vs' kk o where
  sub := fun p hp => mem_put_other (D.sub p hp) (D.off p hp)
  first := let ⟨o₁, h1, t, h2⟩ := D.first; ⟨o₁, mem_put_other h1 (key_ne nd h1 D.list (cell_ne h2 fun v => by simp)), t, h2⟩
  cell := mem_put_other D.cell (key_ne nd D.cell D.list (cell_ne D.data fun v => by simp))
  data := D.data
  list := mem_put_same D.list
  rows := hs.other (ds := [R]) (fun p hp e => mem_put_other hp (by simpa using e)) (fun E ws k hE e => key_ne nd hE D.list tup_ne_list' (by simpa using e))
  many := hl ▸ D.many
  few := hl ▸ D.few
  off := D.off
theorem DrawIn.grow {n n' n'' : Led} {L : Addr} {first : Int} (D : DrawIn n L first n') (e : ∀ p ∈ n', p ∈ n'') : DrawIn n L first n'' := ⟨fun p hp => e p (D.sub p hp), let ⟨o, h1, h2⟩ := D.first; ⟨o, e _ h1, h2⟩⟩
theorem cells2 {cm : Str → Option Value} {n1 n2 : Str} {c1 c2 : Addr} {cells : List (Addr × Obj)} (x : CellsAre cm [(n1, c1), (n2, c2)] cells) :
    ∃ o1 o2, cells = [(c1, o1), (c2, o2)] ∧ o1.data = .cell (cm n1) ∧ o2.data = .cell (cm n2) := x.two
/-- a slice of what a call gave -/
theorem run_sliceF {value : Expr} {lower upper : Option Expr} {p pos : Pos} {Q : Value → Loc → Led → Prop} (h : Run c m n (eval value env) (fun v m₁ n₁ => ∃ l vs k lo hi, v = .ref l ∧ (l, listO vs k) ∈ n₁ ∧ EvP c m₁ n₁ env lower lo ∧ EvP c m₁ n₁ env upper hi ∧ vs.length ≤ 1000000 ∧ ∀ D, (∀ p ∈ n₁, p.1 < D) → Q (.ref D) m₁ ((D, listO (slicePick vs.toArray lo hi none).toList 0) :: n₁))) :
    Run c m n (eval (.Subscript value (.Slice lower upper none p) pos) env) Q := fun s S => by
  refine Subscript_ (wpAny_mono (h s S) ?_ fun _ _ e => e)
  rintro _ s₁ ⟨m₁, n₁, S₁, l, vs, k, lo, hi, rfl, hL, h1, h2, hz, q⟩
  refine wpAny_Slice ?_
  refine wpAny_mono (EvP.run (Q := fun v m' n' => m' = m₁ ∧ n' = n₁ ∧ IsPart v lo) h1 (fun v hv => ⟨rfl, rfl, hv⟩) s₁ S₁) ?_ fun _ _ e => e
  rintro vl s₂ ⟨m₂, n₂, S₂, e1, e2, pl⟩
  subst e1; subst e2
  refine wpAny_mono (EvP.run (Q := fun v m' n' => m' = m₂ ∧ n' = n₂ ∧ IsPart v hi) h2 (fun v hv => ⟨rfl, rfl, hv⟩) s₂ S₂) ?_ fun _ _ e => e
  rintro vu s₃ ⟨m₃, n₃, S₃, e1, e2, pu⟩
  subst e1; subst e2
  refine wpAny_pure ?_
  refine kba_turn (value' := .Name "rows" p) (fun _ => rfl) ?_
  refine kmk_slice S₃.F S₃.N (S₃.isList hL) pl pu (fun D h' F' N' l1 => ?_) rfl (fun _ => rfl) (by rw [List.size_toArray, sizeLine_eq]; omega)
  refine ⟨_, _, S₃.to F' ?_ (keys_cons S₃.nd l1), q D l1⟩
  simpa only [Array.toArray_toList] using N'
theorem slice_len {ns : List Int} {x y : Int} (h0 : 0 ≤ x) (h1 : x ≤ y) (h2 : y ≤ ns.length) : ((ns.drop (kms_lo (some x) ns.length)).take (kms_hi (some y) ns.length - kms_lo (some x) ns.length)).length = (y - x).toNat := by
  unfold kms_lo kms_hi
  simp only [if_neg (show ¬ x < 0 by omega), if_neg (show ¬ y < 0 by omega), List.length_take, List.length_drop]
  omega
theorem DrawAt.grow {n n' n'' : Led} {L : Addr} {first : Int} {R : Addr} {vs : List Value} {kk : Nat} {o : Obj} (D : DrawAt n L first n' R vs kk o) (e : ∀ p ∈ n', p ∈ n'') : DrawAt n L first n'' R vs kk o :=
  ⟨D.toDrawIn.grow e, e _ D.cell, D.data, e _ D.list, D.rows.sub e, D.many, D.few, D.off⟩
theorem DrawRows.sub {n n' : Led} {L : Addr} {first : Int} (D : DrawRows n L first n') : ∀ p ∈ n, p ∈ n' := let ⟨_, _, _, _, D⟩ := D; D.sub
theorem notkey {n n' : Led} {D : Addr} {o : Obj} (nd : Keys ((D, o) :: n')) (h : ∀ p ∈ n, p ∈ n') : ∀ p ∈ n, p.1 ≠ D := fun p hp e => (List.nodup_cons.mp nd).1 (List.mem_map.mpr ⟨p, h p hp, e⟩)
theorem DrawAt.noI {n n' : Led} {L : Addr} {first : Int} {R : Addr} {vs : List Value} {kk : Nat} {o : Obj} {I : Addr} (D : DrawAt n L first n' R vs kk o) (h0 : ∀ p ∈ n, p.1 ≠ I) (h1 : L + 1 ≠ I) (h2 : L + 2 ≠ I) (h3 : R ≠ I) (hv : ∀ v ∈ vs, ∀ a, v = .ref a → a ≠ I) : DrawAt n L first (noI n' I) R vs kk o where
  sub := fun p hp => mem_noI (D.sub p hp) (h0 p hp)
  first := let ⟨o, h, h'⟩ := D.first; ⟨o, mem_noI h h1, h'⟩
  cell := mem_noI D.cell h2
  data := D.data
  list := mem_noI D.list h3
  rows := fun v hvm => let ⟨a, p, e, ⟨t, u, k, hT⟩, h⟩ := D.rows v hvm; ⟨a, p, e, ⟨t, u, k, mem_noI hT (hv v hvm a e)⟩, h⟩
  many := D.many
  few := D.few
  off := D.off
theorem draw_sml {f x y : Int} (hf : Smf f) (hx : x.natAbs ≤ 100) (hy : y.natAbs ≤ 100) : SmP (x + f / 4608 * y, y) := by
  unfold SmP Sml Smf at *
  have h1 : (f / 4608).natAbs ≤ f.natAbs := by omega
  have h2 : (f / 4608 * y).natAbs ≤ f.natAbs * 100 := by rw [Int.natAbs_mul]; exact Nat.mul_le_mul h1 hy
  have h3 : (2 : Nat) ^ FB * 128 ≤ 2 ^ BB := by
    rw [show (128 : Nat) = 2 ^ 7 from rfl, ← Nat.pow_add]
    exact Nat.pow_le_pow_right (by decide) (by unfold FB BB; omega)
  have h4 : (2 : Nat) ^ 2 ≤ 2 ^ FB := Nat.pow_le_pow_right (by decide) (show 2 ≤ FB by unfold FB; omega)
  generalize (2 : Nat) ^ FB = A at *
  generalize (2 : Nat) ^ BB = B at *
  constructor
  · show (x + f / 4608 * y).natAbs < B
    omega
  · show y.natAbs < B
    omega
/-- for over a list just made -/
theorem run_for_listJ {x : Str} {px : Pos} {iter : Expr} {body : List Stmt} {pos : Pos} {Q : Flow → Loc → Led → Prop}
    (src : Run c m n (eval iter env) (fun xv m₁ n₁ => ∃ (J : Nat → Loc → Led → Prop) (l : Addr) (vs : List Value) (k : Nat), xv = .ref l ∧ (l, listO vs k) ∈ n₁ ∧ J 0 m₁ n₁ ∧ (∀ i m n, J i m n → ∃ k', (l, listO vs k') ∈ n) ∧
      (∀ i v m n I oI, vs[i]? = some v → J i m n → Keys n → (∀ p ∈ n, p.1 ≠ I) → Run c (upd m x v) ((I, oI) :: n) (execs body env) (ForEnd J I oI i Q)) ∧
      (∀ m n, J vs.length m n → Keys n → Q .next m n)))
    (hl : env.locals = c.L := by rfl) (hk : env.scope.kind = .function := by rfl) (hx : env.kindOf x = some .local := by rfl)
    (hs : ∀ x, foldedSetIterable iter env x = Pure.pure x := by intro _; rfl) : Run c m n (exec (.For (.Name x px) iter body [] pos) env) Q := fun s S => by
  refine wpAny_For (wpAny_mono (src s S) ?_ fun _ _ e => e) hs
  rintro xv s₁ ⟨m₁, n₁, S₁, J, l, vs, k, rfl, hin, hJ, hJl, turn, done⟩
  have hlist : s₁.heap.IsList l vs.toArray := ⟨_, (S₁.N _ hin).1, rfl, k, rfl⟩
  refine wpAny_pyIter_list hlist ?_
  obtain ⟨f1, f2, f3⟩ := notIn_fresh S₁
  have hne : l ≠ s₁.heap.objs.size := f1 _ hin
  have W := Walks.list (prog := PP) (w := c.w) S₁.ok.hh s₁.heap.objs.size l hne vs.toArray
  have hlen : vs.toArray.size = vs.length := by simp
  rw [hlen] at W
  refine codeAny_mono (for_W J W (fun i h st => let ⟨o, e, _⟩ := st.1; ⟨o, e⟩) ?_ (fun i v m n oI hi hP hj nd off => turn i v m n _ oI (by simpa using hP) hj nd off) done hl hk hx f2 f3 vs.length 0 m₁ n₁ _ (by omega)
    (S₁.to (S₁.F.push _) (fun p hp => ⟨Heap.get?_push_of_some _ (S₁.N p hp).1, (S₁.N p hp).2⟩) S₁.nd : St c m₁ n₁ { s₁ with heap := s₁.heap.push { cls := .type "list_iterator", data := .fields #[.ref l, .int 0 0] } })
    ⟨⟨_, Heap.get?_push_size _ rfl, rfl, rfl⟩, hlist.push _⟩ hJ f1) ?_
  · rintro i i' h h' o m n hi ⟨st1, st2⟩ e1 e2 hj N
    obtain ⟨k', hk'⟩ := hJl _ _ _ hj
    refine ⟨?_, ⟨_, (N _ hk').1, rfl, k', rfl⟩⟩
    obtain ⟨o', q, r⟩ := st1
    rw [e1] at q; cases q; exact ⟨o, e2, r⟩
  · intro r s' h
    cases r with
    | ok f => exact h
    | error e => exact h.elim
theorem c_draw {A : Addr} {vs : List Value} {kk : Nat} {ns : List Int} {first : Int} (hA : (A, listO vs kk) ∈ n) (hns : IntsAre vs ns) (h14 : 14 ≤ ns.length) (hz : ns.length ≤ 1000) (hf : ns[0]? = some first) (hs : Smf first) :
    Fn 3 245 [.ref A] [] n (fun v n' => (∀ p ∈ n, p ∈ n') ∧ ∃ R rs cnt P, v = .ref R ∧ RowsIn n' R rs cnt P ∧ 3 ≤ cnt ∧ cnt ≤ 20) := by
  refine fn_enterC (binds := [("numbers", .ref A)]) (fun _ => by rfl) (fun _ => by rfl) (fun _ _ _ => BindsTo.of_eq (by rfl)) (by rfl) (by decide) (by rfl) (by rfl) (by rfl) ?_
  intro c cells ok rm nd Y new
  have rm1 : Room 1 c := rm.le (by decide)
  obtain ⟨o2, o1, rfl, d2, d1⟩ := cells2 (n1 := "rows") (n2 := "first") (c1 := c.L + 2) (c2 := c.L + 1) Y
  have hl : vs.length = ns.length := hns.length
  have sub0 : ∀ p ∈ n, p ∈ [(c.L + 2, o2), (c.L + 1, o1)] ++ n := fun p hp => List.mem_append_right _ hp
  have q2 : (c.L + 2, o2) ∈ [(c.L + 2, o2), (c.L + 1, o1)] ++ n := by simp
  have q1 : (c.L + 1, o1) ∈ [(c.L + 2, o2), (c.L + 1, o1)] ++ n := by simp
  obtain ⟨tf, htf⟩ := hns.get 0 first hf
  refine run_cut (J := fun m n' => m "numbers" = some (.ref A) ∧ DrawIn n c.L first n' ∧ ∃ o v, (c.L + 2, o) ∈ n' ∧ o.data = .cell v) (run_assignc (useV (ev_itemL (j := 0) (v := .int first tf) (by ktd_rel) (sub0 _ hA) ev_int (seqIdx_nat (i := 0) (by omega)) htf (by omega) nosl_const) ⟨c.L + 1, o1, _, rfl, q1, d1, fun o' ho' => ⟨rfl, rfl, ⟨fun p hp => mem_put_other (sub0 p hp) (Nat.ne_of_lt (Nat.lt_of_lt_of_le (new p hp) (Nat.le_add_right _ _))), o', mem_put_same q1, tf, ho'⟩, o2, _, mem_put_other q2 (Ne.symm (Nat.ne_of_lt (Nat.lt_succ_self _))), d2⟩⟩)) ?_
  rintro m n₁ nd₁ ⟨m1, DI, o3, v3, q3, d3⟩
  obtain ⟨o4, q4, t4, d4⟩ := DI.first
  have hA₁ := DI.sub _ hA
  refine run_cut (J := fun m n' => DrawRows n c.L first n') (run_ifb (b := decide (first % 2 = 0)) (tr_cmp (ev_eq (ev_mod' (ev_cellI (by rfl) q4 ⟨t4, d4⟩) ev_int (by decide)) ev_int)) (fun hb => ?_) (fun hb => ?_)) ?_
  · refine run_cons (run_assignc ?_)
    refine run_comp (ct := none) (by rfl) (by rfl) (by rfl) (by decide) (by rfl) ?_
    refine run_slice (by ktd_rel) hA₁ (evp_some ev_int) (evp_some (ev_add ev_int (ev_mod' (ev_div' (ev_cellI (by rfl) q4 ⟨t4, d4⟩) ev_int (by decide) (by rfl)) ev_int (by decide)))) (by omega) fun W hW => ?_
    have hq0 : 0 ≤ first / 2 % 6 := by omega
    have hq5 : first / 2 % 6 ≤ 5 := by omega
    have hws := kssn_any (lo := some 1) (hi := some (4 + first / 2 % 6)) hns
    have hlen := hws.length
    rw [slice_len (by omega) (by omega) (by omega)] at hlen
    generalize (slicePick vs.toArray (some 1) (some (4 + first / 2 % 6)) none).toList = ws at *
    have DI₁ : DrawIn n c.L first ((W, listO ws 0) :: n₁) := DI.grow fun p hp => List.mem_cons_of_mem _ hp
    refine ⟨ws.length, _, _, Src.list (List.mem_cons_self ..) (by omega) (fun i ys n' h => ⟨0, h.1 _ (List.mem_cons_self ..)⟩), comp_pairs (G := fun p => p.1.natAbs ≤ 100 ∧ p.2.natAbs ≤ 100) (base := (W, listO ws 0) :: n₁) (by omega) (by intro _ _; rfl) (by intro _ _; rfl) ?_, ⟨fun p hp => hp, rfl, fun _ h => nomatch h⟩, ?_⟩
    · rintro i v nn C oC m₂ hi hP sub hC hx hCm
      obtain ⟨x, t, rfl, _⟩ := hws.at i v hP
      exact ⟨x % 5, x / 5 % 5, ev_mod' (ev_cvarI hCm hC hx) ev_int (by decide), ev_mod' (ev_div' (ev_cvarI hCm hC hx) ev_int (by decide) (by rfl)) ev_int (by decide), by show (x % 5).natAbs ≤ 100; omega, by show (x / 5 % 5).natAbs ≤ 100; omega⟩
    · rintro D ys n₂ ⟨sub₂, hl₂, hG⟩ ndD
      have up : ∀ p ∈ n₂, p ∈ (D, LL ys) :: n₂ := fun p hp => List.mem_cons_of_mem _ hp
      have m3 := up _ (sub₂ _ (List.mem_cons_of_mem _ q3))
      exact ⟨c.L + 2, o3, v3, rfl, m3, d3, fun o' ho' => run_nil ⟨rfl, ((DI₁.grow sub₂).grow up).set ndD new m3 d3 (List.mem_cons_self ..) (PR.sub hG up) (by omega) (by omega) (notkey ndD (DI₁.grow sub₂).sub) ho'⟩⟩
  · refine run_cut (J := fun m n' => m "numbers" = some (.ref A) ∧ DrawRows n c.L first n') (run_assignc (run_sliceF (run_call0 g_law_rim k_law_rim (c_rim.run rm1 ?_)))) ?_
    · rintro v n₂ nd₂ ⟨sub₂, D, ws, k2, rfl, hD, hl8, hSm⟩
      have hq0 : 0 ≤ first / 2 % 4 := by omega
      have hq3 : first / 2 % 4 ≤ 3 := by omega
      refine ⟨D, ws, k2, none, some (5 + first / 2 % 4), rfl, hD, evp_none, evp_some (ev_add ev_int (ev_mod' (ev_div' (ev_cellI (by rfl) (sub₂ _ q4) ⟨t4, d4⟩) ev_int (by decide) (by rfl)) ev_int (by decide))), by omega, fun E hE => ?_⟩
      have up : ∀ p ∈ n₂, p ∈ (E, listO (slicePick ws.toArray none (some (5 + first / 2 % 4)) none).toList 0) :: n₂ := fun p hp => List.mem_cons_of_mem _ hp
      have epick : (slicePick ws.toArray none (some (5 + first / 2 % 4)) none).toList = ws.take (5 + first / 2 % 4).toNat := by
        rw [kms_pick_eq]
        simp only [kms_pick, kms_lo, kms_hi, if_neg (show ¬ (5 + first / 2 % 4) < 0 by omega), List.drop_zero, Nat.sub_zero]
        rw [Nat.min_eq_left (by omega)]
      refine ⟨c.L + 2, o3, v3, rfl, up _ (sub₂ _ q3), d3, fun o' ho' => ⟨rfl, m1, ((DI.grow sub₂).grow up).set (keys_cons nd₂ hE) new (up _ (sub₂ _ q3)) d3 (List.mem_cons_self ..) ?_ ?_ ?_ (fun p hp => Nat.ne_of_lt (hE p ((DI.grow sub₂).sub p hp))) ho'⟩⟩
      · exact SmR.sub (n := n₂) (by rw [epick]; exact fun v hv => hSm v (List.mem_of_mem_take hv)) up
      · rw [epick, List.length_take]; omega
      · rw [epick, List.length_take]; omega
    rintro m n₂ nd₂ ⟨m1, DR⟩
    have hA₂ := DR.sub _ hA
    have h4 : 4 < ns.length := by omega
    obtain ⟨t5, ht5⟩ := hns.get 4 _ (List.getElem?_eq_getElem h4)
    generalize ns[4] = num4 at *
    refine run_cut (J := fun m n' => m "numbers" = some (.ref A) ∧ DrawRows n c.L first n') (run_ifb (b := decide (num4 % 3 = 0)) (tr_cmp (ev_eq (ev_mod' (ev_itemLI (j := 4) (a := num4) (by ktd_rel) hA₂ ev_int (seqIdx_nat (i := 4) (by omega)) ⟨t5, ht5⟩ (by omega) nosl_const) ev_int (by decide)) ev_int)) (fun hb3 => ?_) (fun hb3 => run_nil ⟨rfl, m1, DR⟩)) ?_
    · obtain ⟨R, ws, k2, o5, DA⟩ := DR
      obtain ⟨g3, g4, g5, f4⟩ := DA.first
      have q5 := DA.cell
      have d5 := DA.data
      refine run_cons (run_assignc ?_)
      refine run_comp (ct := none) (by rfl) (by rfl) (by rfl) (by decide) (by rfl) ?_
      have hq0 : 0 ≤ first / 2 % 4 := by omega
      have hq3 : first / 2 % 4 ≤ 3 := by omega
      refine run_callT g_range b_range (by decide) (.consI (i := -4 - first / 2 % 4) (ev_sub (ev_neg ev_int) (ev_mod' (ev_div' (ev_cellI (by rfl) g4 ⟨g5, f4⟩) ev_int (by decide) (by rfl)) ev_int (by decide))) (by intro _ _; rfl) (.consI (i := 5 + first / 2 % 4) (ev_add ev_int (ev_mod' (ev_div' (ev_cellI (by rfl) g4 ⟨g5, f4⟩) ev_int (by decide) (by rfl)) ev_int (by decide))) (by intro _ _; rfl) .nil)) ?_
      rintro _ ⟨u1, _, rfl, u2, _, rfl, rfl⟩
      generalize first / 2 % 4 = z at *
      refine run_range2 fun W v hW => ⟨(9 + 2 * z).toNat, _, _, Src.range (N := (9 + 2 * z).toNat) (List.mem_cons_self ..) (small_one (by omega) (by omega) (by omega) (by omega)) (by unfold Builtin.Range.rangeSize; rw [if_pos (by decide), if_pos (by omega), Int.ediv_one]; omega) (by omega), comp_pairs (G := fun p => p.1.natAbs ≤ 100 ∧ p.2.natAbs ≤ 100) (base := (W, rangeO (-4 - z) (5 + z) 1 u1 u2 v) :: n₂) (by omega) (by intro _ _; rfl) (by intro _ _; rfl) ?_, ⟨fun p hp => hp, rfl, fun _ h => nomatch h⟩, ?_⟩
      · rintro i v nn C oC m₂ hi ⟨t, rfl⟩ sub hC hx hCm
        have b1 : -7 ≤ -4 - z + (i : Int) * 1 := by omega
        have b2 : -4 - z + (i : Int) * 1 ≤ 7 := by omega
        generalize -4 - z + (i : Int) * 1 = w at *
        have hw : w * w ≤ 49 ∧ 0 ≤ w * w := by
          have : w = -7 ∨ w = -6 ∨ w = -5 ∨ w = -4 ∨ w = -3 ∨ w = -2 ∨ w = -1 ∨ w = 0 ∨ w = 1 ∨ w = 2 ∨ w = 3 ∨ w = 4 ∨ w = 5 ∨ w = 6 ∨ w = 7 := by omega
          rcases this with h | h | h | h | h | h | h | h | h | h | h | h | h | h | h <;> subst h <;> decide
        exact ⟨w, w * w, ev_cvarI hCm hC hx, ev_mul (ev_cvarI hCm hC hx) (ev_cvarI hCm hC hx) (IntMulOk.of_right (bits_le (Nat.lt_of_le_of_lt (show w.natAbs ≤ 7 by omega) (by decide)))), by show w.natAbs ≤ 100; omega, by show (w * w).natAbs ≤ 100; omega⟩
      · rintro D ys n₃ ⟨sub₃, hl₃, hG⟩ ndD
        have up : ∀ p ∈ n₃, p ∈ (D, LL ys) :: n₃ := fun p hp => List.mem_cons_of_mem _ hp
        have m3 := up _ (sub₃ _ (List.mem_cons_of_mem _ q5))
        have DI₃ : DrawIn n c.L first n₃ := DA.toDrawIn.grow fun p hp => sub₃ _ (List.mem_cons_of_mem _ hp)
        exact ⟨c.L + 2, o5, _, rfl, m3, d5, fun o' ho' => run_nil ⟨rfl, m1, (DI₃.grow up).set ndD new m3 d5 (List.mem_cons_self ..) (PR.sub hG up) (by omega) (by omega) (notkey ndD DI₃.sub) ho'⟩⟩
    rintro m n₃ nd₃ ⟨m1, R, rv, k2, o5, DA⟩
    obtain ⟨g3, g4, g5, f4⟩ := DA.first
    have hA₃ := DA.sub _ hA
    refine run_cons (run_for_listJ (run_slice (by ktd_rel) hA₃ (evp_some ev_int) (evp_some (ev_add ev_int (ev_mod' (ev_div' (ev_cellI (by rfl) g4 ⟨g5, f4⟩) ev_int (by decide) (by rfl)) ev_int (by decide)))) (by omega) fun W hW => ?_))
    have hws := kssn_any (lo := some 1) (hi := some (1 + first / 8 % 4)) hns
    have hlw := hws.length
    rw [slice_len (by omega) (by omega) (by omega)] at hlw
    generalize (slicePick vs.toArray (some 1) (some (1 + first / 8 % 4)) none).toList = ws at *
    refine ⟨fun i m n' => ∃ rv, DrawAt n c.L first n' R rv k2 o5 ∧ (W, listO ws 0) ∈ n', W, ws, 0, rfl, List.mem_cons_self .., ⟨rv, DA.grow fun p hp => List.mem_cons_of_mem _ hp, List.mem_cons_self ..⟩, fun i m n' ⟨_, _, h⟩ => ⟨0, h⟩, ?_, ?_⟩
    · rintro i v m n' I oI hv ⟨rv, DA, hWm⟩ nd' off
      obtain ⟨x, t, rfl, _⟩ := hws.at i v hv
      have up : ∀ p ∈ n', p ∈ (I, oI) :: n' := fun p hp => List.mem_cons_of_mem _ hp
      have D1 := DA.grow up
      have many := DA.many
      have few := DA.few
      have hWR : W ≠ R := Ne.symm (Nat.ne_of_lt (hW _ ‹DrawAt n c.L first n₃ R _ k2 o5›.list))
      have hIR : I ≠ R := Ne.symm (off _ DA.list)
      have nd1 : Keys ((I, oI) :: n') := List.nodup_cons.mpr ⟨fun hm => let ⟨p, hp, e⟩ := List.mem_map.mp hm; off p hp e, nd'⟩
      have hz : (0 : Int) < (rv.length : Int) := by omega
      refine run_cons (run_assign (useI (i := x % (rv.length : Int)) (ev_mod' (by ktd_rel) (ev_lenL (ev_cell (by rfl) D1.cell D1.data) D1.list (by omega)) hz) fun ta => ?_))
      have ha0 := Int.emod_nonneg x (show (rv.length : Int) ≠ 0 by omega)
      have ha1 := Int.emod_lt_of_pos x hz
      generalize x % (rv.length : Int) = a at *
      refine run_cons (run_assign (useI (i := (a + 1) % (rv.length : Int)) (ev_mod' (ev_add (by ktd_rel) ev_int) (ev_lenL (ev_cell (by rfl) D1.cell D1.data) D1.list (by omega)) hz) fun tb => ?_))
      have hb0 := Int.emod_nonneg (a + 1) (show (rv.length : Int) ≠ 0 by omega)
      have hb1 := Int.emod_lt_of_pos (a + 1) hz
      generalize (a + 1) % (rv.length : Int) = b at *
      obtain ⟨a, rfl⟩ := Int.eq_ofNat_of_zero_le ha0
      obtain ⟨b, rfl⟩ := Int.eq_ofNat_of_zero_le hb0
      have haL : a < rv.length := by omega
      have hbL : b < rv.length := by omega
      refine run_cons (run_assign (useV (ev_itemL (j := a) (ev_cell (by rfl) D1.cell D1.data) D1.list (i := (a : Int)) (by ktd_rel) (seqIdx_nat haL) (List.getElem?_eq_getElem haL) (by omega) nosl_name) ?_))
      refine run_cons (run_assub (useV (ev_itemL (j := b) (ev_cell (by rfl) D1.cell D1.data) D1.list (i := (b : Int)) (by ktd_rel) (seqIdx_nat hbL) (List.getElem?_eq_getElem hbL) (by omega) nosl_name) (useV (ev_cell (by rfl) D1.cell D1.data) (useI (i := (a : Int)) (by ktd_rel) fun tc => run_setitem D1.list (by omega) (by omega) (by omega) ?_))))
      have D2 := D1.turn nd1 (vs' := rv.set (a : Int).toNat rv[b]) (by simp) (fun v hv => by
        rcases List.mem_or_eq_of_mem_set hv with h | h
        · exact D1.rows v h
        · exact D1.rows v (h ▸ List.getElem_mem _))
      have nd2 := nd1.put R (listO (rv.set (a : Int).toNat rv[b]) k2)
      have hI2 : (I, oI) ∈ put ((I, oI) :: n') R (listO (rv.set (a : Int).toNat rv[b]) k2) := mem_put_other (List.mem_cons_self ..) hIR
      have hW2 : (W, listO ws 0) ∈ put ((I, oI) :: n') R (listO (rv.set (a : Int).toNat rv[b]) k2) := mem_put_other (up _ hWm) hWR
      have hka : rv[a] ∈ rv := List.getElem_mem _
      have hm5 : ∀ v ∈ rv.set (a : Int).toNat rv[b], v ∈ rv := fun v hv => (List.mem_or_eq_of_mem_set hv).elim id fun h => h ▸ List.getElem_mem _
      have hka' : SmR (put ((I, oI) :: n') R (listO (rv.set (a : Int).toNat rv[b]) k2)) [rv[a]] := by
        refine SmR.other (ds := [R]) (n := (I, oI) :: n') (fun v hv => D1.rows v (by rw [List.mem_singleton.mp hv]; exact hka)) (fun p hp e => mem_put_other hp (by simpa using e)) (fun E ws k hE e => key_ne nd1 hE D1.list tup_ne_list' (by simpa using e))
      generalize put ((I, oI) :: n') R (listO (rv.set (a : Int).toNat rv[b]) k2) = n₅ at *
      generalize rv[a] = keep at *
      have hl5 : (rv.set (a : Int).toNat rv[b]).length = rv.length := by simp
      generalize rv.set (a : Int).toNat rv[b] = rw5 at *
      refine run_cons (run_assub (useV (v := keep) (by ktd_rel) (useV (ev_cell (by rfl) D2.cell D2.data) (useI (i := (b : Int)) (by ktd_rel) fun td => run_setitem D2.list (by omega) (by omega) (by omega) ?_))))
      have D3 := D2.turn nd2 (vs' := rw5.set (b : Int).toNat keep) (by simp) (fun v hv => by
        rcases List.mem_or_eq_of_mem_set hv with h | h
        · exact D2.rows v h
        · exact hka' v (by simp [h]))
      have nd3 := nd2.put R (listO (rw5.set (b : Int).toNat keep) k2)
      have hI3 : (I, oI) ∈ put n₅ R (listO (rw5.set (b : Int).toNat keep) k2) := mem_put_other hI2 hIR
      have hW3 : (W, listO ws 0) ∈ put n₅ R (listO (rw5.set (b : Int).toNat keep) k2) := mem_put_other hW2 hWR
      refine run_nil ⟨noI _ I, noI_sub, hI3, noI_off, noI_keys nd3, _, DrawAt.noI D3 (fun p hp => off _ (DA.sub p hp)) ?_ (off _ DA.cell) (Ne.symm hIR) (fun v hv a e => ?_), mem_noI hW3 (off _ hWm)⟩
      · obtain ⟨_, h, _⟩ := DA.first; exact off _ h
      · have hvr : v ∈ rv := (List.mem_or_eq_of_mem_set hv).elim (hm5 v) fun h => h ▸ hka
        obtain ⟨a', p, e', ⟨_, _, _, hT⟩, _⟩ := DA.rows v hvr
        rw [e] at e'; cases e'
        exact off _ hT
    · rintro m n' ⟨rv, DA, _⟩ nd'
      exact run_nil ⟨rfl, R, rv, k2, o5, DA⟩
  rintro m n₂ nd₂ ⟨R, rv, k2, o5, DA⟩
  obtain ⟨g3, g4, g5, f4⟩ := DA.first
  refine run_cut (J := fun m n' => DrawRows n c.L first n') (run_ifb (b := decide (first / 32 % 4 = 3)) (tr_cmp (ev_eq (ev_mod' (ev_div' (ev_cellI (by rfl) g4 ⟨g5, f4⟩) ev_int (by decide) (by rfl)) ev_int (by decide)) ev_int)) (fun hb => ?_) (fun hb => run_nil ⟨rfl, R, rv, k2, o5, DA⟩)) ?_
  · have many := DA.many
    have few := DA.few
    refine run_cons (run_assignc ?_)
    refine run_comp (ct := none) (by rfl) (by rfl) (by rfl) (by decide) (by rfl) ?_
    refine run_callT g_range b_range (by decide) (.consI (i := (rv.length : Int) - 1) (ev_sub (ev_lenL (ev_cell (by rfl) DA.cell DA.data) DA.list (by omega)) ev_int) (by intro _ _; rfl) (.consI (ev_neg ev_int) (by intro _ _; rfl) (.consI (ev_neg ev_int) (by intro _ _; rfl) .nil))) ?_
    rintro _ ⟨u2, _, rfl, u3, _, rfl, u4, _, rfl, rfl⟩
    refine run_range3 (by decide) (by rfl) fun W hW => ?_
    generalize hbase : (W, rangeO ((rv.length : Int) - 1) (-1) (-1) u2 u3 u4) :: n₂ = base
    have hWb : (W, rangeO ((rv.length : Int) - 1) (-1) (-1) u2 u3 u4) ∈ base := hbase ▸ List.mem_cons_self ..
    have D1 : DrawAt n c.L first base R rv k2 o5 := DA.grow fun p hp => hbase ▸ List.mem_cons_of_mem _ hp
    refine ⟨rv.length, _, fun i ys n' => (∀ p ∈ base, p ∈ n') ∧ ys.length = i ∧ SmR n' ys, Src.range (N := rv.length) hWb (small_down (by omega) (by omega) (by omega) (by omega)) (by rw [rangeSize_downNat]; omega) (by omega), ⟨?_⟩, ⟨fun p hp => hp, rfl, fun _ h => nomatch h⟩, ?_⟩
    · rintro i v ys n' I oI C oC D m₂ hi ⟨t, rfl⟩ ⟨sub, hl', hG⟩ nd' hC hx off ne
      show Run _ _ _ _ _
      have s' : ∀ p ∈ n', p ∈ (I, oI) :: (C, oC) :: (D, LL ys) :: n' := fun p hp => List.mem_cons_of_mem _ (List.mem_cons_of_mem _ (List.mem_cons_of_mem _ hp))
      have hj : rv.length - 1 - i < rv.length := by omega
      refine useV (ev_itemL (j := rv.length - 1 - i) (ev_cell (by rfl) (s' _ (sub _ D1.cell)) D1.data) (s' _ (sub _ D1.list)) (ev_cvarI (List.mem_cons_of_mem _ (List.mem_cons_self ..)) hC hx) (by rw [show (rv.length : Int) - 1 + (i : Int) * -1 = ((rv.length - 1 - i : Nat) : Int) by omega]; exact seqIdx_nat hj) (List.getElem?_eq_getElem hj) (by omega) nosl_name) ?_
      refine ⟨rfl, n', fun p hp => hp, off, nd', sub, by simp [hl'], fun w hw => ?_⟩
      rcases List.mem_append.mp hw with hw | hw
      · exact hG w hw
      · rw [List.mem_singleton.mp hw]
        exact (D1.rows.sub sub) _ (List.getElem_mem _)
    · rintro D ys n₃ ⟨sub₃, hl₃, hG⟩ ndD
      have up : ∀ p ∈ n₃, p ∈ (D, LL ys) :: n₃ := fun p hp => List.mem_cons_of_mem _ hp
      have D3 := D1.grow sub₃
      exact ⟨c.L + 2, o5, _, rfl, up _ D3.cell, D3.data, fun o' ho' => run_nil ⟨rfl, (D3.toDrawIn.grow up).set ndD new (up _ D3.cell) D3.data (List.mem_cons_self ..) (hG.sub up) (by omega) (by omega) (notkey ndD D3.sub) ho'⟩⟩
  rintro m n₃ nd₃ ⟨R, rv, k2, o5, DA⟩
  obtain ⟨g3, g4, g5, f4⟩ := DA.first
  have many := DA.many
  have few := DA.few
  refine run_cons (run_ret ?_)
  refine run_comp (ct := none) (by rfl) (by rfl) (by rfl) (by decide) (by rfl) ?_
  refine useV (ev_cell (by rfl) DA.cell DA.data) ⟨rv.length, _, _, Src.list DA.list (by omega) (fun i ys n' h => ⟨k2, h.1 _ DA.list⟩), comp_pairs (G := SmP) (base := n₃) (by omega) (by intro _ _; rfl) (by intro _ _; rfl) ?_, ⟨fun p hp => hp, rfl, fun _ h => nomatch h⟩, ?_⟩
  · rintro i v nn C oC m₂ hi hP sub hC hx hCm
    obtain ⟨a, p, rfl, hT, hp1, hp2⟩ := DA.rows v (List.mem_of_getElem? hP)
    have hT' := hT.sub sub
    exact ⟨p.1 + first / 4608 * p.2, p.2, ev_add (ev_t0 (ev_cvar hCm hC hx) hT') (ev_mul (ev_div' (ev_cellI (by rfl) (sub _ g4) ⟨g5, f4⟩) ev_int (by decide) (by rfl)) (ev_t1 (ev_cvar hCm hC hx) hT') (IntMulOk.of_right (bits_le (Nat.lt_of_le_of_lt hp2 (by decide))))), ev_t1 (ev_cvar hCm hC hx) hT', draw_sml hs hp1 hp2⟩
  · rintro D ys n₄ ⟨sub₄, hl₄, hG⟩ ndD
    have up : ∀ p ∈ n₄, p ∈ (D, LL ys) :: n₄ := fun p hp => List.mem_cons_of_mem _ hp
    obtain ⟨rs, P, e, h⟩ := rows_of (n := (D, LL ys) :: n₄) (ys := ys) (hG.sub up)
    refine ⟨fun p hp => up p (sub₄ p (DA.sub p hp)), D, rs, ys.length, P, rfl, ⟨⟨ys.length, ?_⟩, fun i hi => (h i hi).1, fun i hi => (h i hi).2, by omega⟩, by omega, by omega⟩
    rw [← e]
    exact List.mem_cons_self ..
end
end Mine
namespace Mine
local macro_rules | `(tactic| ktd_rel) => `(tactic| first
  | with_reducible exact ev_int
  | with_reducible exact ev_none
  | with_reducible exact ev_bool
  | ((with_reducible refine' ev_localI ?ka ?kl ?kk ?kx ?kd); (case ka => first | rfl | assumption); (case kl => rfl); (case kk => rfl); (case kx => rfl); (case kd => decide))
  | ((with_reducible refine' ev_local ?ka ?kl ?kk ?kx ?kd); (case ka => first | rfl | assumption); (case kl => rfl); (case kk => rfl); (case kx => rfl); (case kd => decide))
  | ((with_reducible refine' ev_add ?ka ?kb); (case ka => ktd_rel); (case kb => ktd_rel))
  | ((with_reducible refine' ev_sub ?ka ?kb); (case ka => ktd_rel); (case kb => ktd_rel))
  | ((with_reducible refine' ev_lt ?ka ?kb); (case ka => ktd_rel); (case kb => ktd_rel))
  | ((with_reducible refine' ev_le ?ka ?kb); (case ka => ktd_rel); (case kb => ktd_rel))
  | ((with_reducible refine' ev_gt ?ka ?kb); (case ka => ktd_rel); (case kb => ktd_rel))
  | ((with_reducible refine' ev_ge ?ka ?kb); (case ka => ktd_rel); (case kb => ktd_rel))
  | ((with_reducible refine' ev_eq ?ka ?kb); (case ka => ktd_rel); (case kb => ktd_rel))
  | ((with_reducible refine' ev_ne ?ka ?kb); (case ka => ktd_rel); (case kb => ktd_rel))
  | ((with_reducible refine' ev_neg ?ka); (case ka => ktd_rel))
  | ((with_reducible refine' ev_t0 ?ka ?kN); (case ka => ktd_rel); (case kN => with_reducible assumption))
  | ((with_reducible refine' ev_t1 ?ka ?kN); (case ka => ktd_rel); (case kN => with_reducible assumption))
  | ((with_reducible refine' tr_cmp ?ka ?kb); (case ka => ktd_rel); (case kb => rfl))
  | fail "ev")
theorem g_law_more : ∀ P, nsIn (hd.heap_39 P) mainGlobals "_law_more" = some (some (.ref 177)) := fun _ => by rfl
def more14 : List Int := [23, 3, 22, 5, 9, 14, 1, 20, 7, 12, 24, 2, 16, 8]
theorem more_at : ∃ ws k, (∀ P, (hd.heap_39 P).lookup 177 = some (listO ws k)) ∧ IntsAre ws more14 := by
  refine ⟨_, _, fun _ => by rfl, ?_⟩
  unfold more14
  repeat' constructor
section
variable {c : Cfg} {m : Loc} {n : Led} {env : Env}
/-- list(script) + _law_more -/
theorem run_numbers {l : Addr} {vs : List Value} {Q : Value → Loc → Led → Prop} {x : Str} {p1 p2 p3 p4 p5 : Pos} {ns : List Int} (hv : m x = some (.ref l)) (h : c.h₀.IsList l vs.toArray) (hi : IntsAre vs ns) (hz : ns.length ≤ 63)
    (q : ∀ D ws n', (∀ p ∈ n, p ∈ n') → (∀ p ∈ n, p.1 < D) → (D, listO ws 0) ∈ n' → IntsAre ws (ns ++ more14) → Q (.ref D) m n') (hl : env.locals = c.L := by rfl) (hk : env.scope.kind = .function := by rfl) (hx : env.kindOf x = some .local := by rfl)
    (hd : (x == ("__debug__" : Str)) = false := by decide) (hg : env.globals = mainGlobals := by rfl) (hgb : env.builtins = builtinsNs := by rfl) (hx1 : env.kindOf "list" = some .globalImplicit := by rfl) (hx2 : env.kindOf "_law_more" = some .globalImplicit := by rfl) :
    Run c m n (eval (.BinOp (.Call (.Name "list" p1) [.Name x p2] [] p3) .Add (.Name "_law_more" p4) p5) env) Q := by
  obtain ⟨ms, k, hm, hmi⟩ := more_at
  have hl1 := hi.length
  have hl2 : ms.length = 14 := hmi.length
  refine run_bin (run_callT g_list b_list (by decide) (.consV (v := .ref l) (ev_local hv hl hk hx hd) (by intro _ _; rfl) .nil) (fun us hus => ?_) hg hgb hk hx1)
  obtain ⟨_, rfl, rfl⟩ := hus
  intro s S
  refine list_copyK S.F S.N (?_ : s.heap.IsList l vs.toArray) (fun D k' h' F' N' l1 => ?_) (by rw [List.size_toArray, sizeLine_eq]; omega)
  · obtain ⟨o, h1, h2⟩ := h; exact ⟨o, S.F.keep _ _ h1, h2⟩
  refine ⟨m, _, S.to (tk := s.toks) F' N' (keys_cons S.nd l1), run_glob g_law_more ?_ hg hk hx2 (by decide)⟩
  intro s' S'
  have h177 : s'.heap.IsList 177 ms.toArray := ⟨_, (S'.X.keeps S'.F.keep) _ _ (hm _), rfl, k, rfl⟩
  exact add_lists S'.F S'.N (S'.isList (List.mem_cons_self ..)) h177 (fun g F'' N'' => ⟨m, _, S'.to (tk := s'.toks) F'' N'' (keys_cons S'.nd S'.fresh), q _ (vs ++ ms) _ (fun p hp => List.mem_cons_of_mem _ (List.mem_cons_of_mem _ hp)) (fun p hp => S'.fresh p (List.mem_cons_of_mem _ hp)) (List.mem_cons_self ..) (hi.append hmi)⟩) (by rw [sizeLine_eq]; omega)
theorem run_isnotself {x : Addr} {Q : Value → Loc → Led → Prop} (h : Q (.bool false) m n) : Run c m n (compareOp .IsNot (.ref x) (.ref x)) Q := fun s S => wpAny_isNot_ref_self ⟨m, n, S, h⟩
/-- Point(row[0], row[1]) -/
theorem run_point {np pos : Pos} {e1 e2 : Expr} {x y : Int} {Q : Value → Loc → Led → Prop} (h1 : EvI c m n env e1 x) (h2 : EvI c m n env e2 y) (rm : Room 3 c)
    (q : ∀ a d n', Keys n' → Only [] n n' → (∀ p ∈ n, p.1 < d) → d < a → PtIn n' a d x y → Q (.ref a) m n') (hg : env.globals = mainGlobals := by rfl) (hke : env.scope.kind = .function := by rfl)
    (hx : env.kindOf "Point" = some .globalImplicit := by rfl) (n1 : NotStar e1 := by intro _ _; rfl) (n2 : NotStar e2 := by intro _ _; rfl) : Run c m n (eval (.Call (.Name "Point" np) [e1, e2] [] pos) env) Q := by
  refine run_call g_Point k_Point (EvA.args (.consI h1 n1 (.consI h2 n2 .nil)) ?_) hg hke hx (by decide) (n1 _ _) ?_
  · rintro _ ⟨t, _, rfl, u, _, rfl, rfl⟩
    refine run_make rm m_Point i_Point f_Point fun a d l1 l2 => ?_
    have hN := c_ptinit (x := x) (y := y) (t := t) (u := u) (a := a) (n := (a, instObj 31 d) :: (d, dictOf [] 0) :: n) (List.mem_cons_self ..) (List.mem_cons_of_mem _ (List.mem_cons_self ..))
    refine hN.mono (Nat.le_refl _) ?_
    rintro v n' nd' ⟨hv, o, N⟩
    exact ⟨hv, q a d n' nd' (fun r hr _ => o r (List.mem_cons_of_mem _ (List.mem_cons_of_mem _ hr)) (by simpa using Nat.ne_of_lt (l1 _ hr))) l1 l2 N⟩
  · rw [n2]; rfl
/-- the points made -/
def PtsTo (n : Led) (P : Nat → Pt) (ys : List Value) (i : Nat) : Prop := ∃ ps dq : Nat → Addr, ys = ((List.range i).map fun j => Value.ref (ps j)) ∧ ∀ j, j < i → PtIn n (ps j) (dq j) (P j).1 (P j).2
theorem comp_points {base : Led} {R : Addr} {rs : Nat → Addr} {cnt : Nat} {P : Nat → Pt} {e1 e2 : Expr} {np pos : Pos} {x : Str} {scope : Scope} {cl : List (Str × Addr)} (rm : Room 3 c) (n1 : NotStar e1) (n2 : NotStar e2) (hg : ∀ C, (compEnvC scope cl C env).globals = mainGlobals) (hke : ∀ C, (compEnvC scope cl C env).scope.kind = .function)
    (hx : ∀ C, (compEnvC scope cl C env).kindOf "Point" = some .globalImplicit)
    (hel : ∀ i nn C oC m₂, i < cnt → (∀ p ∈ base, p ∈ nn) → LCg.NsObj oC m₂ → m₂ x = some (.ref (rs i)) → (C, oC) ∈ nn → EvI c m nn (compEnvC scope cl C env) e1 (P i).1 ∧ EvI c m nn (compEnvC scope cl C env) e2 (P i).2) :
    CompW c m env none (.Call (.Name "Point" np) [e1, e2] [] pos) x scope cl cnt (fun i v => ((List.range cnt).map fun i => Value.ref (rs i))[i]? = some v) (fun i ys n' => (∀ p ∈ base, p ∈ n') ∧ PtsTo n' P ys i) := by
  refine ⟨?_⟩
  rintro i v ys n' I oI C oC D m₂ hi hP ⟨sub, ps, dq, rfl, hps⟩ nd' hC hx' off ne
  show Run _ _ _ _ _
  rw [List.getElem?_map, List.getElem?_range hi] at hP
  cases hP
  have s' : ∀ p ∈ n', p ∈ (I, oI) :: (C, oC) :: (D, LL ((List.range i).map fun j => Value.ref (ps j))) :: n' := fun p hp => List.mem_cons_of_mem _ (List.mem_cons_of_mem _ (List.mem_cons_of_mem _ hp))
  obtain ⟨h1, h2⟩ := hel i _ C oC m₂ hi (fun p hp => s' p (sub p hp)) hC hx' (List.mem_cons_of_mem _ (List.mem_cons_self ..))
  refine run_point h1 h2 rm (fun a d nn nd o l1 l2 hPt => ?_) (hg C) (hke C) (hx C) n1 n2
  have mI := o _ (List.mem_cons_self ..) (by simp)
  have mC := o _ (List.mem_cons_of_mem _ (List.mem_cons_self ..)) (by simp)
  have mD := o _ (List.mem_cons_of_mem _ (List.mem_cons_of_mem _ (List.mem_cons_self ..))) (by simp)
  have lI := l1 _ (List.mem_cons_self ..)
  have lC := l1 _ (List.mem_cons_of_mem _ (List.mem_cons_self ..))
  have lD := l1 _ (List.mem_cons_of_mem _ (List.mem_cons_of_mem _ (List.mem_cons_self ..)))
  obtain ⟨hin, es, kk, hdd, hxx, hyy⟩ := hPt
  refine ⟨rfl, (a, instObj 31 d) :: (d, dictOf es kk) :: n', ?_, ?_, ?_, ?_, ?_⟩
  · intro p hp
    simp only [List.mem_cons] at hp
    rcases hp with h | h | h | h | h | h
    · exact h ▸ mI
    · exact h ▸ mC
    · exact h ▸ mD
    · exact h ▸ hin
    · exact h ▸ hdd
    · exact o p (s' p h) (by simp)
  · refine LCg.Off3.of fun p hp => ?_
    simp only [List.mem_cons] at hp
    rcases hp with h | h | h
    · subst h; exact ⟨Ne.symm (Nat.ne_of_lt (Nat.lt_trans lI l2)), Ne.symm (Nat.ne_of_lt (Nat.lt_trans lC l2)), Ne.symm (Nat.ne_of_lt (Nat.lt_trans lD l2))⟩
    · subst h; exact ⟨Ne.symm (Nat.ne_of_lt lI), Ne.symm (Nat.ne_of_lt lC), Ne.symm (Nat.ne_of_lt lD)⟩
    · exact off.mem p h
  · exact keys_cons (keys_cons nd' fun p hp => l1 p (s' p hp)) fun p hp => by
      rcases List.mem_cons.mp hp with rfl | hp
      · exact l2
      · exact Nat.lt_trans (l1 p (s' p hp)) l2
  · exact fun p hp => List.mem_cons_of_mem _ (List.mem_cons_of_mem _ (sub p hp))
  · refine ⟨fun j => if j = i then a else ps j, fun j => if j = i then d else dq j, ?_, fun j hj => ?_⟩
    · rw [List.range_succ, List.map_append, List.map_singleton]
      simp only [if_true]
      congr 1
      refine List.map_congr_left fun j hj => ?_
      have := List.mem_range.mp hj
      rw [if_neg (by omega)]
    · by_cases e : j = i
      · subst e
        simp only [if_pos]
        exact ⟨List.mem_cons_self .., es, kk, List.mem_cons_of_mem _ (List.mem_cons_self ..), hxx, hyy⟩
      · simp only [if_neg e]
        exact (hps j (by omega)).sub fun p hp => List.mem_cons_of_mem _ (List.mem_cons_of_mem _ hp)
end
end Mine
namespace Mine
local macro_rules | `(tactic| ktd_rel) => `(tactic| first
  | with_reducible exact ev_int
  | with_reducible exact ev_none
  | with_reducible exact ev_bool
  | ((with_reducible refine' ev_localI ?ka ?kl ?kk ?kx ?kd); (case ka => first | rfl | assumption); (case kl => rfl); (case kk => rfl); (case kx => rfl); (case kd => decide))
  | ((with_reducible refine' ev_local ?ka ?kl ?kk ?kx ?kd); (case ka => first | rfl | assumption); (case kl => rfl); (case kk => rfl); (case kx => rfl); (case kd => decide))
  | ((with_reducible refine' ev_add ?ka ?kb); (case ka => ktd_rel); (case kb => ktd_rel))
  | ((with_reducible refine' ev_sub ?ka ?kb); (case ka => ktd_rel); (case kb => ktd_rel))
  | ((with_reducible refine' ev_lt ?ka ?kb); (case ka => ktd_rel); (case kb => ktd_rel))
  | ((with_reducible refine' ev_le ?ka ?kb); (case ka => ktd_rel); (case kb => ktd_rel))
  | ((with_reducible refine' ev_gt ?ka ?kb); (case ka => ktd_rel); (case kb => ktd_rel))
  | ((with_reducible refine' ev_ge ?ka ?kb); (case ka => ktd_rel); (case kb => ktd_rel))
  | ((with_reducible refine' ev_eq ?ka ?kb); (case ka => ktd_rel); (case kb => ktd_rel))
  | ((with_reducible refine' ev_ne ?ka ?kb); (case ka => ktd_rel); (case kb => ktd_rel))
  | ((with_reducible refine' ev_neg ?ka); (case ka => ktd_rel))
  | ((with_reducible refine' ev_t0 ?ka ?kN); (case ka => ktd_rel); (case kN => with_reducible assumption))
  | ((with_reducible refine' ev_t1 ?ka ?kN); (case ka => ktd_rel); (case kN => with_reducible assumption))
  | ((with_reducible refine' tr_cmp ?ka ?kb); (case ka => ktd_rel); (case kb => rfl))
  | fail "ev")
theorem order_nodup {f : Nat → Nat} {k : Nat} (h : Way f k) (hk : 0 < k) : (order f k).Nodup := by
  have e : k = (k - 1) + 1 := by omega
  have hl : (List.range k).map f = (List.range (k - 1)).map f ++ [f (k - 1)] := by rw [← range_map_succ, ← e]
  have nd : ((List.range k).map f).Nodup := by
    unfold List.Nodup
    rw [List.pairwise_map]
    refine List.Pairwise.imp_of_mem (R := fun a b => a ≠ b) (fun {a b} ha hb hab hf => hab (h.inj (List.mem_range.mp ha) (List.mem_range.mp hb) hf)) List.nodup_range
  rw [hl] at nd
  exact (List.perm_append_comm (l₁ := (List.range (k - 1)).map f) (l₂ := [f (k - 1)])).nodup nd
theorem way_of {P : Nat → Pt} {k : Nat} : Way (wayOf P k) k := by unfold wayOf; split; exact way_id; exact way_rv
theorem whole_facts {P : Nat → Pt} {k : Nat} (hk : 2 ≤ k) : whole P k ≠ [] ∧ (whole P k).Nodup ∧ (whole P k).length ≤ k ∧ ∀ i ∈ whole P k, i < k := by
  have nd := order_nodup (f := wayOf P k) way_of (by omega : 0 < k)
  have hl := order_len (f := wayOf P k) (show 0 < k by omega)
  have hin : ∀ i ∈ order (wayOf P k) k, i < k := fun i hi => by
    have hW : Way (wayOf P k) k := way_of
    rcases List.mem_cons.mp hi with rfl | hi
    · exact hW.lt _ (by omega)
    · obtain ⟨j, hj, rfl⟩ := List.mem_map.mp hi
      exact hW.lt _ (by have := List.mem_range.mp hj; omega)
  unfold whole
  generalize order (wayOf P k) k = o at *
  split
  · refine ⟨fun e => ?_, List.Sublist.nodup (List.tail_sublist o) nd, by simp; omega, fun i hi => hin i (List.mem_of_mem_tail hi)⟩
    have := congrArg List.length e; simp at this; omega
  · exact ⟨fun e => by subst e; simp at hl; omega, nd, by omega, hin⟩
def IsLaw (body : List Stmt) (scope : Scope) : Prop := ∃ name qual params dV kV doc pm cdv ct oc an od osl, ∀ P, (hd.heap_39 P).lookup 255 = some ⟨oc, od, .func (fnOf name qual params body scope dV kV doc pm an cdv ct), osl⟩
def LawRuns (body : List Stmt) (scope : Scope) : Prop := ∀ (c : Cfg) (name : Str) (fa : Addr) (cdv : Value) (m : Loc) (o2 o1 : Obj) (l : Addr) (vs : List Value) (ns : List Int), c.Ok → Room 10 c → m "script" = some (.ref l) → o2.data = .cell none → o1.data = .cell none → c.h₀.IsList l vs.toArray → IntsAre vs ns → ns.length ≤ 63 → (∀ x ∈ ns, Smf x) →
  Run c m [(c.L + 2, o2), (c.L + 1, o1)] (execs body (envOfC name scope c.L fa cdv)) (fun fl m' n' => fl = .ret (.bool true))
/-- what is no cell stays -/
def Keep (n n' : Led) : Prop := ∀ a o, (a, o) ∈ n → (∀ v, o.data ≠ .cell v) → (a, o) ∈ n'
theorem Keep.of {n n' : Led} (h : ∀ p ∈ n, p ∈ n') : Keep n n' := fun a o ho _ => h _ ho
theorem Keep.put {n : Led} {b : Addr} {o₀ o' : Obj} {v₀ : Option Value} (nd : Keys n) (hb : (b, o₀) ∈ n) (hd : o₀.data = .cell v₀) : Keep n (put n b o') := fun a o ho hc => mem_put_other ho (key_ne nd ho hb fun e => hc v₀ (e ▸ hd))
theorem RowsIn.keep {n n' : Led} {R : Addr} {rs : Nat → Addr} {cnt : Nat} {P : Nat → Pt} (h : RowsIn n R rs cnt P) (e : Keep n n') : RowsIn n' R rs cnt P :=
  ⟨let ⟨k, h'⟩ := h.list; ⟨k, e _ _ h' fun v => by simp⟩, fun i hi => let ⟨t, u, k, h'⟩ := h.row i hi; ⟨t, u, k, e _ _ h' fun v => by simp⟩, h.sm, h.few⟩
theorem PtIn.keep {n n' : Led} {a d : Addr} {x y : Int} (N : PtIn n a d x y) (e : Keep n n') : PtIn n' a d x y :=
  let ⟨es, k, h1, h2⟩ := N.dict; ⟨e _ _ N.inst fun v => by simp, es, k, e _ _ h1 fun v => by simp, h2⟩
theorem PtsIn.keep {n n' : Led} {S : Sh} {L : Addr} {dq : Nat → Addr} (H : PtsIn n S L dq) (e : Keep n n') : PtsIn n' S L dq :=
  ⟨fun i hi => (H.pt i hi).keep e, let ⟨k, h⟩ := H.list; ⟨k, e _ _ h fun v => by simp⟩, H.sm, H.pos, H.few⟩
theorem PtsIn.sub {n n' : Led} {S : Sh} {L : Addr} {dq : Nat → Addr} (H : PtsIn n S L dq) (e : ∀ p ∈ n, p ∈ n') : PtsIn n' S L dq := H.keep (Keep.of e)
theorem RingIn.keep {n n' : Led} {D : Addr} {l : List Nat} (h : RingIn n D l) (e : Keep n n') : RingIn n' D l := let ⟨vs, k, h1, h2⟩ := h; ⟨vs, k, e _ _ h1 fun v => by simp, h2⟩
theorem DueAre.keep {n n' : Led} {vs : List Value} {ts : List Tri} (h : DueAre n vs ts) (e : Keep n n') : DueAre n' vs ts := by
  induction h with
  | nil => exact .nil
  | cons a _ ih => exact .cons (e _ _ a fun v => by simp) ih
theorem DueIn.keep {n n' : Led} {C : Addr} {ts : List Tri} (h : DueIn n C ts) (e : Keep n n') : DueIn n' C ts := let ⟨vs, k, h1, h2⟩ := h; ⟨vs, k, e _ _ h1 fun v => by simp, h2.keep e⟩
theorem NodeIn.keep {n n' : Led} {a d p : Addr} {x y : Int} {pv nx : Value} (N : NodeIn n a d p x y pv nx) (e : Keep n n') : NodeIn n' a d p x y pv nx :=
  let ⟨es, h1, h2⟩ := N.dict; ⟨e _ _ N.inst fun v => by simp, es, e _ _ h1 fun v => by simp, h2⟩
theorem Nds.keep {n n' : Led} {S : Sh} {pv nx : Nat → Nat} (N : Nds n S pv nx) (e : Keep n n') : Nds n' S pv nx := ⟨fun i hi => (N.node i hi).keep e⟩
theorem put_cons_ne {n : Led} {a b : Addr} {o o' : Obj} (h : a ≠ b) : put ((a, o) :: n) b o' = (a, o) :: put n b o' := by unfold put; simp [h]
theorem Made.other {n0 n n' : Led} {S0 S : Sh} {l : List Nat} {last : Value} {M : Addr} {vs : List Value} {k : Nat} (h : Made n0 S0 S l last n) (nd : Keys n) (hM : (M, listO vs k) ∈ n) (h0 : ∀ p ∈ n0, p.1 ≠ M) (o : ∀ p ∈ n, p.1 ≠ M → p ∈ n') : Made n0 S0 S l last n' where
  sub := fun p hp => o p (h.sub p hp) (h0 p hp)
  ring := by
    have key : ∀ {a d p x y v w}, NodeIn n a d p x y v w → NodeIn n' a d p x y v w := fun N =>
      let ⟨es, h1, h2⟩ := N.dict; ⟨o _ N.inst (key_ne nd N.inst hM inst_ne_list), es, o _ h1 (key_ne nd h1 hM fun e => list_ne_dict e.symm), h2⟩
    rcases h.ring with ⟨e, e'⟩ | ⟨x, r, pv, nx, e, N, hL, e'⟩
    · exact .inl ⟨e, e'⟩
    · exact .inr ⟨x, r, pv, nx, e, ⟨fun i hi => key (N.node i hi), N.ia, N.id⟩, hL, e'⟩
  new := h.new
  sk := h.sk
  sp := h.sp
  sP := h.sP
theorem Lk.rotk {pv nx : Nat → Nat} {l : List Nat} (h : Lk pv nx l) : ∀ k, k ≤ l.length → Lk pv nx (l.drop k ++ l.take k)
  | 0, _ => by simpa using h
  | k + 1, hk => by
    have ih := Lk.rotk h k (by omega)
    have hk' : k < l.length := by omega
    have e : l.drop k = l[k] :: l.drop (k + 1) := List.drop_eq_getElem_cons hk'
    rw [e] at ih
    have := ih.rot'
    have e2 : l.take (k + 1) = l.take k ++ [l[k]] := by rw [List.take_add_one, List.getElem?_eq_getElem hk']; rfl
    rw [e2, ← List.append_assoc]
    exact this
theorem rotk_head {cnt k : Nat} (h : k < cnt) : nth ((List.range cnt).drop k ++ (List.range cnt).take k) 0 = k := by
  rw [nth_lt (by simp; omega)]
  rw [List.getElem_append_left (by simp; omega)]
  simp
theorem rotk_mem {l : List Nat} {k i : Nat} (h : i ∈ l.drop k ++ l.take k) : i ∈ l := (List.mem_append.mp h).elim List.mem_of_mem_drop List.mem_of_mem_take
theorem pick_rotk {l : List Nat} {k : Nat} (h : k ≤ l.length) : pickN l (some (k : Int)) none ++ pickN l none (some (k : Int)) = l.drop k ++ l.take k := by
  unfold pickN kms_lo kms_hi
  simp only [if_neg (show ¬ (k : Int) < 0 by omega), List.drop_zero, Nat.sub_zero, Int.toNat_natCast]
  rw [Nat.min_eq_left h]
  congr 1
  rw [List.take_of_length_le]
  simp
section
variable {c : Cfg} {m : Loc} {n : Led} {env : Env}
set_option maxHeartbeats 4000000 in
theorem law_core : ∃ body scope, IsLaw body scope ∧ LawRuns body scope := by
  refine ⟨_, _, ⟨_, _, _, _, _, _, _, _, _, _, _, _, _, fun _ => by rfl⟩, ?_⟩
  intro c name fa cdv m o2 o1 l vs ns ok rm m1 d2 d1 hS hI h63 hsm
  have rm1 : Room 1 c := rm.le (by decide)
  have rm2 : Room 2 c := rm.le (by decide)
  have rm3 : Room 3 c := rm.le (by decide)
  refine run_cons (run_assign (run_numbers m1 hS hI h63 fun A ws n₁ sub₁ new₁ hA hws => ?_))
  have q2 := sub₁ (c.L + 2, o2) (by simp)
  have q1 := sub₁ (c.L + 1, o1) (by simp)
  have hwl : ws.length = ns.length + 14 := by rw [hws.length, List.length_append]; rfl
  obtain ⟨first, hf, hfs⟩ : ∃ first, (ns ++ more14)[0]? = some first ∧ Smf first := by
    cases ns with
    | nil => exact ⟨23, rfl, by unfold Smf; exact Nat.lt_of_lt_of_le (show (23 : Int).natAbs < 2 ^ 5 by decide) (Nat.pow_le_pow_right (by decide) (by unfold FB; decide))⟩
    | cons x r => exact ⟨x, rfl, hsm x (List.mem_cons_self ..)⟩
  obtain ⟨tf, htf⟩ := hws.get 0 first hf
  refine run_cons (run_assign (useV (ev_itemL (j := 0) (v := .int first tf) (by ktd_rel) hA ev_int (seqIdx_nat (i := 0) (by omega)) htf (by omega) nosl_const) ?_))
  refine run_cons (run_assign (run_callF g_law_draw k_law_draw (.consV (v := .ref A) (by ktd_rel) (by intro _ _; rfl) .nil) (fun us ⟨_, e, e'⟩ => by subst e'; subst e; exact c_draw hA hws (by rw [List.length_append]; show 14 ≤ _ + 14; omega) (by rw [List.length_append]; show _ + 14 ≤ 1000; omega) hf hfs) rm3 ?_))
  rintro v n₂ nd₂ ⟨sub₂, R, rs, cnt, P, rfl, H, h3, h20⟩
  replace q2 := sub₂ _ q2
  replace q1 := sub₂ _ q1
  obtain ⟨kR, hRl⟩ := H.list
  have hRlen : ((List.range cnt).map fun i => Value.ref (rs i)).length = cnt := by simp
  refine run_cons (run_assign (useI (Ev.ofI (ev_lenL (by ktd_rel) hRl (by rw [hRlen]; omega)) (by rw [hRlen])) fun tc => ?_))
  refine run_cons ?_
  refine run_acomp (ct := none) (by rfl) (by rfl) (by rfl) (by rfl) (by decide) (by rfl) ?_
  have src : Src c n₂ (fun i ys n' => (∀ p ∈ n₂, p ∈ n') ∧ PtsTo n' P ys i) (.ref R) cnt (fun i v => ((List.range cnt).map fun i => Value.ref (rs i))[i]? = some v) := by
    have := Src.list (c := c) (K := fun i ys n' => (∀ p ∈ n₂, p ∈ n') ∧ PtsTo n' P ys i) hRl (by rw [hRlen]; omega) (fun i ys n' h => ⟨kR, h.1 _ hRl⟩)
    rwa [hRlen] at this
  refine useV (v := .ref R) (by ktd_rel) ⟨cnt, _, _, src, comp_points (base := n₂) (R := R) (P := P) rm3 (by intro _ _; rfl) (by intro _ _; rfl) (fun _ => rfl) (fun _ => rfl) (fun _ => rfl) ?_, ⟨fun p hp => hp, fun _ => 0, fun _ => 0, rfl, fun j hj => by omega⟩, ?_⟩
  · intro i nn C oC m₂ hi sub hC hx hCm
    have T := (H.row i hi).sub sub
    exact ⟨ev_t0 (ev_cvar hCm hC hx) T, ev_t1 (ev_cvar hCm hC hx) T⟩
  rintro LP ys n₃ ⟨sub₃, ps, dq, rfl, hps⟩ nd₃
  refine then_next ?_
  generalize hS0 : ({ k := cnt, a := fun _ => 0, d := fun _ => 0, p := ps, P := P } : Sh) = S0
  have k0 : S0.k = cnt := by rw [← hS0]
  have p0 : S0.p = ps := by rw [← hS0]
  have P0 : S0.P = P := by rw [← hS0]
  have up₄ : ∀ p ∈ n₂, p ∈ (LP, LL ((List.range cnt).map fun j => Value.ref (ps j))) :: n₃ := fun p hp => List.mem_cons_of_mem _ (sub₃ p hp)
  have H₄ := H.sub up₄
  have Pt₄ : PtsIn ((LP, LL ((List.range cnt).map fun j => Value.ref (ps j))) :: n₃) S0 LP dq := by
    subst hS0
    exact ⟨fun i hi => (hps i hi).sub fun p hp => List.mem_cons_of_mem _ hp, ⟨_, List.mem_cons_self ..⟩, fun i hi => H.sm i hi, by show 0 < cnt; omega, by show cnt ≤ 1000; omega⟩
  replace q2 := up₄ _ q2
  replace q1 := up₄ _ q1
  generalize (LP, LL ((List.range cnt).map fun j => Value.ref (ps j))) :: n₃ = n₄ at *
  clear src hps hRl
  -- made = []
  refine run_cons (run_assignc (run_list (args_nil ⟨Nat.zero_le _, fun MA hMA => ⟨c.L + 1, o1, _, rfl, List.mem_cons_of_mem _ q1, d1, fun o' ho' => ?_⟩⟩)))
  have hMA1 : MA ≠ c.L + 1 := Ne.symm (Nat.ne_of_lt (hMA _ q1))
  rw [put_cons_ne hMA1]
  have kp : Keep n₄ (put n₄ (c.L + 1) o') := Keep.put nd₃ q1 d1
  have H₅ := H₄.keep kp
  have Pt₅ := Pt₄.keep kp
  have hMA0 : ∀ p ∈ put n₄ (c.L + 1) o', p.1 < MA := fun p hp => by
    rcases put_mem hp with h | h
    · rw [h]; exact hMA (c.L + 1, o1) q1
    · exact hMA _ h.1
  replace q1 : (c.L + 1, o') ∈ put n₄ (c.L + 1) o' := mem_put_same q1
  replace q2 : (c.L + 2, o2) ∈ put n₄ (c.L + 1) o' := mem_put_other q2 (Ne.symm (Nat.ne_of_lt (Nat.lt_succ_self _)))
  generalize put n₄ (c.L + 1) o' = n₅ at *
  -- the nodes
  refine run_cons (run_assign (useV ev_none ?_))
  obtain ⟨kp0, hLP⟩ := Pt₅.list
  have hptl : (ptsOf S0).length = cnt := by simp [k0]
  have rm4 : Room 4 c := rm.le (by decide)
  refine run_cut (J := fun m n' => ∃ S' last kk, Made n₅ S0 S' ((List.range cnt).map id) last n' ∧ (MA, listO ((List.range cnt).map fun j => .ref (S'.a j)) kk) ∈ n' ∧ m "first" = some (.int first tf) ∧ m "rows" = some (.ref R) ∧ m "count" = some (.int (cnt : Nat) tc) ∧ m "points" = some (.ref LP)) (run_for_range (J := fun i m n' => ∃ S' last kk, Made n₅ S0 S' ((List.range i).map id) last n' ∧ m "last" = some last ∧ (MA, listO ((List.range i).map fun j => .ref (S'.a j)) kk) ∈ n' ∧ m "first" = some (.int first tf) ∧ m "rows" = some (.ref R) ∧ m "count" = some (.int (cnt : Nat) tc) ∧ m "points" = some (.ref LP))
    (run_callT g_range b_range (by decide) (.consI (i := (cnt : Nat)) (by ktd_rel) (by intro _ _; rfl) .nil) (fun us hus => ?_))) ?_
  · obtain ⟨t2, _, rfl, rfl⟩ := hus
    refine run_range1 fun W t v hW => ⟨W, 0, cnt, 1, t, t2, v, cnt, rfl, List.mem_cons_self .., range_small (a := 0) (by decide) (by omega), by rw [show (0 : Int) = ((0 : Nat) : Int) from rfl, range_size, Nat.sub_zero], ⟨S0, .none, 0, ⟨fun p hp => List.mem_cons_of_mem _ (List.mem_cons_of_mem _ hp), .inl ⟨rfl, rfl⟩, (fun i hi => by simp at hi), rfl, rfl, rfl⟩, rfl, List.mem_cons_of_mem _ (List.mem_cons_self ..), rfl, rfl, rfl, rfl⟩, ?_, ?_⟩
    · rintro i t' m n' I oI hi ⟨S', last, kk, M, mL, hML, m1, m2, m3, m4⟩ nd' off
      have ei : (0 : Int) + (i : Int) * 1 = (i : Int) := by omega
      have up : ∀ p ∈ n', p ∈ (I, oI) :: n' := fun p hp => List.mem_cons_of_mem _ hp
      refine run_cons (run_assign (link_turn (i := i) (st := (i : Int)) (k0 ▸ way_id) (by omega) M (Pt₅.pt i (by omega)) off (Ev.ofI (i := (0 : Int) + (i : Int) * 1) (by ktd_rel) ei) (ev_itemL (j := i) (by ktd_rel) (up _ (M.sub _ hLP)) (Ev.ofI (i := (0 : Int) + (i : Int) * 1) (j := (i : Int)) (by ktd_rel) ei) (seqIdx_nat (by omega)) (by rw [List.getElem?_map, List.getElem?_range (by omega)]; rfl) (by omega) nosl_name) (by ktd_rel) rm4 ?_))
      intro a S'' n'' nd'' hI M'' ha hold o
      have hMAn : MA ≠ I := off _ hML
      have hMA'' : (MA, listO ((List.range i).map fun j => .ref (S'.a j)) kk) ∈ n'' := o _ (up _ hML) fun hm => by
        obtain ⟨j, hj, e⟩ := List.mem_map.mp hm
        obtain ⟨_, _, N⟩ := M.ring.node hj
        obtain ⟨es, h, _⟩ := N.dict
        exact key_ne nd' h hML (fun e => list_ne_dict e.symm) e
      have q1'' : (c.L + 1, o') ∈ n'' := noI_sub _ (M''.sub _ q1)
      refine run_cons (run_expr (run_meth (ev_cell (by rfl) q1'' ho') hMA'' PySem.F.slot_list_append PySem.F.type_list_append (args_cons (useV (v := .ref a) (by ktd_rel) (args_nil (run_append hMA'' (by simp; omega) (run_nil ?_))))) _ (by rfl)))
      have hsh : ((List.range i).map fun j => Value.ref (S'.a j)) ++ [.ref a] = (List.range (i + 1)).map fun j => .ref (S''.a j) := by
        rw [List.range_succ, List.map_append, List.map_singleton, ha]
        congr 1
        refine List.map_congr_left fun j hj => ?_
        exact congrArg Value.ref (hold j (List.mem_range.mp hj)).symm
      rw [hsh]
      refine ⟨noI _ I, noI_sub, mem_put_other hI (Ne.symm hMAn), noI_off, noI_keys (nd''.put _ _), S'', .ref a, kk + 1, M''.other (noI_keys nd'') (mem_noI hMA'' hMAn) (fun p hp => Nat.ne_of_lt (hMA0 p hp)) (fun p hp e => mem_noI (mem_put_other (noI_sub p hp) e) (noI_off p hp)), rfl, mem_noI (mem_put_same hMA'') hMAn, m1, m2, m3, m4⟩
    · rintro m n' ⟨S', last, kk, M, mL, hML, m1, m2, m3, m4⟩ nd'
      exact ⟨rfl, S', last, kk, M, hML, m1, m2, m3, m4⟩
  rintro m n₆ nd₆ ⟨S, last, kk, M, hML, m1, m2, m3, m4⟩
  rw [List.map_id] at M
  have Sk : S.k = cnt := M.sk.trans k0
  have Sp : S.p = ps := M.sp.trans p0
  have SP : S.P = P := M.sP.trans P0
  obtain ⟨G, x0, r0, pv, nx, _, N, hLk, _⟩ := M.nds (by intro e; have := congrArg List.length e; simp at this; omega) (fun i hi => List.mem_range.mpr (Sk ▸ hi)) Pt₅.sm
  have H₆ := H₅.sub M.sub
  have Pt₆ := Pt₅.sub M.sub
  have q1₆ := M.sub _ q1
  have q2₆ := M.sub _ q2
  clear M q1 q2 H₅ Pt₅ H₄ Pt₄ kp hLP
  -- ring
  refine run_cons (run_assign (run_callt g_list b_list (by decide) (args_cons (run_callT g_range b_range (by decide) (.consI (i := (cnt : Nat)) (by ktd_rel) (by intro _ _; rfl) .nil) ?_))))
  rintro _ ⟨u2, _, rfl, rfl⟩
  refine run_range1 fun W t v hW => args_nil ?_
  refine run_listR (N := cnt) (List.mem_cons_self ..) (range_small (a := 0) (by decide) (by omega)) (by rw [show (0 : Int) = ((0 : Nat) : Int) from rfl, range_size, Nat.sub_zero]) (by omega) fun DR us k l2 hus => ?_
  have hRg : RingIn ((DR, listO us k) :: (W, rangeO 0 (cnt : Nat) 1 t u2 v) :: n₆) DR (List.range cnt) := ⟨us, k, List.mem_cons_self .., by
    have : nums (List.range cnt) = (List.range cnt).map fun i : Nat => (0 : Int) + (i : Int) * 1 := List.map_congr_left fun i _ => by omega
    rw [this]; exact hus⟩
  have up : ∀ p ∈ n₆, p ∈ (DR, listO us k) :: (W, rangeO 0 (cnt : Nat) 1 t u2 v) :: n₆ := fun p hp => List.mem_cons_of_mem _ (List.mem_cons_of_mem _ hp)
  have H₇ := H₆.sub up
  have Pt₇ := Pt₆.sub up
  have N₇ := N.sub up
  have q1₇ := up _ q1₆
  have q2₇ := up _ q2₆
  have hML₇ := up _ hML
  generalize (DR, listO us k) :: (W, rangeO 0 (cnt : Nat) 1 t u2 v) :: n₆ = n₇ at *
  clear up hus l2 H₆ Pt₆ N q1₆ q2₆ hML nd₆ hW
  have hrl : ∀ k, k ≤ cnt → ((List.range cnt).drop k ++ (List.range cnt).take k).length = cnt := fun k hk => by simp; omega
  have hri : ∀ k, ∀ i ∈ (List.range cnt).drop k ++ (List.range cnt).take k, i < cnt := fun k i hi => List.mem_range.mp (rotk_mem hi)
  -- the ear tests
  refine run_cut (J := fun m n' => (∀ p ∈ n₇, p ∈ n') ∧ m "first" = some (.int first tf) ∧ m "rows" = some (.ref R) ∧ m "count" = some (.int (cnt : Nat) tc) ∧ m "points" = some (.ref LP) ∧ m "ring" = some (.ref DR)) (run_for_range (J := fun i m n' => (∀ p ∈ n₇, p ∈ n') ∧ m "first" = some (.int first tf) ∧ m "rows" = some (.ref R) ∧ m "count" = some (.int (cnt : Nat) tc) ∧ m "points" = some (.ref LP) ∧ m "ring" = some (.ref DR))
    (run_callT g_range b_range (by decide) (.consI (i := (cnt : Nat)) (by ktd_rel) (by intro _ _; rfl) .nil) (fun us hus => ?_))) ?_
  · obtain ⟨t2, _, rfl, rfl⟩ := hus
    refine run_range1 fun W t v hW => ⟨W, 0, cnt, 1, t, t2, v, cnt, rfl, List.mem_cons_self .., range_small (a := 0) (by decide) (by omega), by rw [show (0 : Int) = ((0 : Nat) : Int) from rfl, range_size, Nat.sub_zero], ⟨fun p hp => List.mem_cons_of_mem _ hp, m1, m2, m3, m4, rfl⟩, ?_, fun m n' h nd' => ⟨rfl, h⟩⟩
    rintro i t' m n' I oI hi ⟨sub, m1, m2, m3, m4, m5⟩ nd' off
    have ei : (0 : Int) + (i : Int) * 1 = (i : Int) := by omega
    have up : ∀ p ∈ n₇, p ∈ (I, oI) :: n' := fun p hp => List.mem_cons_of_mem _ (sub p hp)
    have hl := hrl i (by omega)
    refine run_cons (run_if (is_cmp (useV (ev_isear (l := (List.range cnt).drop i ++ (List.range cnt).take i) G (N₇.sub up) (hLk.rotk i (by simp; omega)) (fun j hj => Sk ▸ hri i j hj) (by omega) (by
      rw [rotk_head hi]
      exact ev_itemL (j := i) (ev_cell (by rfl) (up _ q1₇) ho') (up _ hML₇) (Ev.ofI (i := (0 : Int) + (i : Int) * 1) (j := (i : Int)) (by ktd_rel) ei) (seqIdx_nat (by simpa using hi)) (by rw [List.getElem?_map, List.getElem?_range hi]; rfl) (by simp; omega) nosl_name) rm2)
      (run_call g_law_ear k_law_ear (args_cons (useV (v := .ref R) (by ktd_rel) (args_cons (run_rcat (l' := (List.range cnt).drop i ++ (List.range cnt).take i) (fun _ => by ktd_rel) (fun _ => by ktd_rel) (hRg.sub up) (fun _ => evp_some (Ev.ofI (i := (0 : Int) + (i : Int) * 1) (j := (i : Int)) (by ktd_rel) ei)) (fun _ => evp_none) (fun _ => evp_none) (fun _ => evp_some (Ev.ofI (i := (0 : Int) + (i : Int) * 1) (j := (i : Int)) (by ktd_rel) ei)) (by simp; omega) (pick_rotk (by simp; omega)) (fun D' n₈ sub₈ new₈ hR₈ => args_nil ?_)))))))))
    refine (c_lear ((H₇.sub up).sub sub₈) hR₈ (hri i) (by omega) (by omega)).run rm2 ?_
    rintro v' n₉ nd₉ ⟨rfl, rfl⟩
    refine run_isnotb (truth_bool ?_)
    rw [SP, bne_self_eq_false]
    simp only [Bool.false_eq_true, if_false]
    exact run_nil (run_nil ⟨n', fun p hp => sub₈ p (List.mem_cons_of_mem _ hp), sub₈ _ (List.mem_cons_self ..), off, nd', sub, m1, m2, m3, m4, m5⟩)
  rintro m n₈ nd₈ ⟨sub₈, m1, m2, m3, m4, m5⟩
  replace H₇ := H₇.sub sub₈
  replace Pt₇ := Pt₇.sub sub₈
  replace N₇ := N₇.sub sub₈
  replace q1₇ := sub₈ _ q1₇
  replace q2₇ := sub₈ _ q2₇
  replace hML₇ := sub₈ _ hML₇
  replace hRg := hRg.sub sub₈
  refine run_cons (run_assign (useI (i := first / 1152 % 4) (ev_mod' (ev_div' (by ktd_rel) ev_int (by decide) (by rfl)) ev_int (by decide)) fun tst => ?_))
  have hst0 : 0 ≤ first / 1152 % 4 := by omega
  have hst4 : first / 1152 % 4 < 4 := by omega
  generalize first / 1152 % 4 = st at *
  refine run_cons (run_assign (run_list (args_nil ⟨Nat.zero_le _, fun T hT => ?_⟩)))
  have off : OffT R rs cnt T := ⟨by obtain ⟨k, h⟩ := H₇.list; exact Nat.ne_of_lt (hT _ h), fun i hi => by obtain ⟨_, _, _, h⟩ := H₇.row i hi; exact Nat.ne_of_lt (hT _ h)⟩
  have up : ∀ p ∈ n₈, p ∈ (T, listO [] 0) :: n₈ := fun p hp => List.mem_cons_of_mem _ hp
  have hT0 : DueIn ((T, listO [] 0) :: n₈) T [] := ⟨[], 0, List.mem_cons_self .., .nil⟩
  have keepT : ∀ {n'}, Only [T] ((T, listO [] 0) :: n₈) n' → ∀ p ∈ n₈, p ∈ n' := fun o p hp => o p (up p hp) (by simpa using Nat.ne_of_lt (hT p hp))
  have H₉ := H₇.sub up
  have hRg₉ := hRg.sub up
  obtain ⟨kp, hLP⟩ := Pt₇.list
  generalize (T, listO [] 0) :: n₈ = n₉ at *
  have rm8 : Room 8 c := rm.le (by decide)
  have rm7 : Room 7 c := rm.le (by decide)
  have hinst : ∀ i, i < cnt → ∃ d, (ps i, instObj 31 d) ∈ n₈ := fun i hi => ⟨_, by have := (Pt₇.pt i (by omega)).inst; rw [p0] at this; exact this⟩
  have hpl : ptsOf S0 = (List.range cnt).map fun i => Value.ref (ps i) := by unfold ptsOf; rw [k0, p0]
  refine run_cons (run_ifb (b := decide (st = 3)) (tr_cmp (ev_eq (by ktd_rel) ev_int)) (fun hb => ?_) (fun hb => run_nil ?_))
  · -- handed whole
    obtain ⟨wne, wnd, wlen, win⟩ := whole_facts (P := P) (k := cnt) (by omega)
    obtain ⟨tt, hR, hS0', htl, hmem⟩ : ∃ tt : List Tri, (2 < (whole P cnt).length → ∃ o, RunR P 0 (whole P cnt) (nth (whole P cnt) 0) tt o) ∧ (¬ 2 < (whole P cnt).length → tt = []) ∧ tt.length ≤ 1000 ∧ ∀ q ∈ tt, q.1 < cnt ∧ q.2.1 < cnt ∧ q.2.2 < cnt := by
      by_cases h : 2 < (whole P cnt).length
      · obtain ⟨t, o, r⟩ := run_total (P := P) (g := 0) (by decide) wne wnd
        exact ⟨t, fun _ => ⟨o, r.run⟩, fun h' => absurd h h', by have := r.len; omega, fun q hq => by have := r.mem q hq; exact ⟨win _ this.1, win _ this.2.1, win _ this.2.2⟩⟩
      · exact ⟨[], fun h' => absurd h' h, fun _ => rfl, by simp, fun q hq => nomatch hq⟩
    refine run_cons (run_assign (run_callF g_law_whole k_law_whole (.consV (v := .ref R) (by ktd_rel) (by intro _ _; rfl) .nil) (fun us ⟨_, e, e'⟩ => by subst e'; subst e; exact c_lwhole H₉ (by omega)) rm2 ?_))
    rintro v n₁₀ nd₁₀ ⟨sub₁₀, DW, rfl, newW, hRW⟩
    have hTn : T < DW := by obtain ⟨_, _, h, _⟩ := hT0; exact newW _ h
    refine run_cut (J := fun m n' => (∀ p ∈ n₈, p ∈ n') ∧ DueIn n' T tt ∧ m "count" = some (.int (cnt : Nat) tc) ∧ m "points" = some (.ref LP) ∧ m "due" = some (.ref T)) (run_ifb (b := decide (2 < (whole P cnt).length)) (tr_cmp (Ev.cast (ev_gt (ev_lenR (by ktd_rel) hRW (by omega)) ev_int) (by congr 1; exact decide_eq_decide.mpr (by omega)))) (fun hb2 => ?_) (fun hb2 => ?_)) ?_
    · have hb2' := of_decide_eq_true hb2
      obtain ⟨o, hRun⟩ := hR hb2'
      refine run_cons (run_expr (run_callF g_law_run k_law_run (.consV (v := .ref R) (by ktd_rel) (by intro _ _; rfl) (.consV (v := .ref DW) (by ktd_rel) (by intro _ _; rfl) (.consV (v := .ref T) (by ktd_rel) (by intro _ _; rfl) (.consI ev_int (by intro _ _; rfl) .nil)))) ?_ rm8 ?_ (k := 8) (Post := LRunPost T ([] ++ tt) o n₁₀)))
      · rintro _ ⟨_, rfl, _, rfl, _, rfl, tk, _, rfl, rfl⟩
        exact lrun off (g := 0) (by decide) n₁₀ DW (whole P cnt) o [] tt tk (H₉.sub sub₁₀) hRW (Ne.symm (Nat.ne_of_lt hTn)) win wne (by omega) hRun (hT0.sub sub₁₀) (by simp; omega)
      · rintro v n₁₁ nd₁₁ ⟨o₁₁, D', rfl, _, hD⟩
        refine run_nil ⟨rfl, fun p hp => o₁₁ p (sub₁₀ p (up p hp)) (by simpa using Nat.ne_of_lt (hT p hp)), hD, m3, m4, rfl⟩
    · have hb2' := of_decide_eq_false hb2
      rw [hS0' hb2']
      exact run_nil ⟨rfl, fun p hp => sub₁₀ p (up p hp), hT0.sub sub₁₀, m3, m4, rfl⟩
    rintro m n₁₂ nd₁₂ ⟨sub₁₂, hDue, m3, m4, m6⟩
    refine run_cons (run_assign (run_callT g_list b_list (by decide) (.consV (v := .ref LP) (by ktd_rel) (by intro _ _; rfl) .nil) (fun us hus => ?_)))
    obtain ⟨_, rfl, rfl⟩ := hus
    have hptl : (ptsOf S0).length = cnt := by simp [k0]
    refine run_listL (sub₁₂ _ hLP) (by omega) fun LH kh hLH => ?_
    have up₁ : ∀ p ∈ n₁₂, p ∈ (LH, listO (ptsOf S0) kh) :: n₁₂ := fun p hp => List.mem_cons_of_mem _ hp
    have Pt₉ : PtsIn ((LH, listO (ptsOf S0) kh) :: n₁₂) S0 LH dq := ⟨fun i hi => ((Pt₇.pt i hi).sub sub₁₂).sub up₁, ⟨kh, List.mem_cons_self ..⟩, Pt₇.sm, Pt₇.pos, Pt₇.few⟩
    have hmLH : (LH, listO (ptsOf S0) kh) ∈ (LH, listO (ptsOf S0) kh) :: n₁₂ := List.mem_cons_self ..
    replace hDue := hDue.sub up₁
    replace sub₁₂ : ∀ p ∈ n₈, p ∈ (LH, listO (ptsOf S0) kh) :: n₁₂ := fun p hp => up₁ p (sub₁₂ p hp)
    generalize (LH, listO (ptsOf S0) kh) :: n₁₂ = n₁₃ at *
    refine run_cons (run_ret (run_and (run_call g_law_told k_law_told (args_cons (run_call g_earcut k_earcut (args_cons (useV (v := .ref LH) (by ktd_rel) (args_cons (run_list (args_nil ⟨Nat.zero_le _, fun E hE => args_nil ?_⟩))))))))))
    have up₂ : ∀ p ∈ n₁₃, p ∈ (E, listO [] 0) :: n₁₃ := fun p hp => List.mem_cons_of_mem _ hp
    obtain ⟨oo, hRR⟩ : ∃ o, 2 < (whole S0.P S0.k).length → RunR S0.P 0 (whole S0.P S0.k) (nth (whole S0.P S0.k) 0) tt o := by
      rw [P0, k0]
      by_cases h : 2 < (whole P cnt).length
      · obtain ⟨o, h'⟩ := hR h; exact ⟨o, fun _ => h'⟩
      · exact ⟨[], fun h' => absurd h' h⟩
    refine (c_earcut (Pt₉.sub up₂) (by omega) hRR (by rw [P0, k0]; exact hS0') (by omega)).run rm7 ?_
    rintro v n₁₄ nd₁₄ ⟨sub₁₄, TT, rfl, hTT⟩
    refine EvA.args (.consV (v := .ref T) (by ktd_rel) (by intro _ _; rfl) (.consV (v := .ref LP) (by ktd_rel) (by intro _ _; rfl) .nil)) ?_
    rintro _ ⟨_, rfl, _, rfl, rfl⟩
    have s14 : ∀ p ∈ n₁₃, p ∈ n₁₄ := fun p hp => sub₁₄ p (up₂ p hp)
    obtain ⟨tvs, ktt, hTl, hTa⟩ := hTT.list
    rw [p0] at hTa
    rw [hpl] at hLP
    refine (c_told (vs := tvs) (ts := tt) (p := ps) (cnt := cnt) hTl hTa (hDue.sub s14) (s14 _ (sub₁₂ _ hLP)) (fun i hi => let ⟨d, h⟩ := hinst i hi; ⟨d, s14 _ (sub₁₂ _ h)⟩) hmem (by omega) (by omega)).run rm2 ?_
    rintro v n₁₅ nd₁₅ ⟨rfl, rfl⟩
    refine truth_bool ?_
    simp only [if_true]
    refine run_one (run_cmp (useI (ev_lenL (by ktd_rel) (s14 _ hmLH) (by omega)) fun ta => useI (i := (cnt : Nat)) (by ktd_rel) fun tb => run_eq ?_))
    rw [hptl, decide_eq_true rfl]
    rfl
  · have hb' := of_decide_eq_false hb
    obtain ⟨g, rfl⟩ := Int.eq_ofNat_of_zero_le hst0
    have hg : g ≤ 2 := by omega
    have hcn : (0 : Int) < (cnt : Int) := by omega
    refine run_cons (run_assign (useI (i := first / 128 % 9 % (cnt : Int)) (ev_mod' (ev_mod' (ev_div' (by ktd_rel) ev_int (by decide) (by rfl)) ev_int (by decide)) (by ktd_rel) hcn) fun tb => ?_))
    have hb0 := Int.emod_nonneg (first / 128 % 9) (show (cnt : Int) ≠ 0 by omega)
    have hb1 := Int.emod_lt_of_pos (first / 128 % 9) hcn
    generalize first / 128 % 9 % (cnt : Int) = bg at *
    obtain ⟨b, rfl⟩ := Int.eq_ofNat_of_zero_le hb0
    have hbc : b < cnt := by omega
    have hlb := hrl b (by omega)
    have hLb := hLk.rotk b (by simp; omega)
    obtain ⟨t, o, hRuns⟩ := run_total (P := P) hg hLb.ne hLb.nodup
    have htl : t.length ≤ 100 := by
      have := hRuns.len
      rw [hlb] at this
      have : (3 - g) * cnt ≤ 3 * 20 := Nat.mul_le_mul (by omega) h20
      omega
    have htm : ∀ q ∈ t, q.1 < cnt ∧ q.2.1 < cnt ∧ q.2.2 < cnt := fun q hq => by have := hRuns.mem q hq; exact ⟨hri b _ this.1, hri b _ this.2.1, hri b _ this.2.2⟩
    have hol : o.length ≤ cnt := hlb ▸ hRuns.sub.len
    have hoi : ∀ i ∈ o, i < cnt := fun i hi => hri b i (hRuns.sub.mem i hi)
    refine run_cons (run_assignc (run_call g_law_run k_law_run (args_cons (useV (v := .ref R) (by ktd_rel) (args_cons (run_rcat (l' := (List.range cnt).drop b ++ (List.range cnt).take b) (fun _ => by ktd_rel) (fun _ => by ktd_rel) hRg₉ (fun _ => evp_some (i := (b : Int)) (by ktd_rel)) (fun _ => evp_none) (fun _ => evp_none) (fun _ => evp_some (i := (b : Int)) (by ktd_rel)) (by simp; omega) (pick_rotk (by simp; omega)) (fun DB n₁₀ sub₁₀ new₁₀ hRB => ?_)))))))
    refine EvA.args (.consV (v := .ref T) (by ktd_rel) (by intro _ _; rfl) (.consI (i := (g : Int)) (by ktd_rel) (by intro _ _; rfl) .nil)) ?_
    rintro _ ⟨_, rfl, tk, _, rfl, rfl⟩
    have hDBT : DB ≠ T := by obtain ⟨_, _, h, _⟩ := hT0; exact Ne.symm (Nat.ne_of_lt (new₁₀ _ h))
    refine (lrun off hg n₁₀ DB _ o [] t tk (H₉.sub sub₁₀) hRB hDBT (hri b) hLb.ne (by omega) hRuns.run (hT0.sub sub₁₀) (by simp; omega)).run (rm.le (by omega)) ?_
    rintro v n₁₁ nd₁₁ ⟨o₁₁, DL, rfl, hRL, hDue⟩
    have s11 : ∀ p ∈ n₈, p ∈ n₁₁ := fun p hp => o₁₁ p (sub₁₀ p (up p hp)) (by simpa using Nat.ne_of_lt (hT p hp))
    refine ⟨c.L + 2, o2, _, rfl, s11 _ q2₇, d2, fun o'' ho'' => ?_⟩
    have kp12 : Keep n₁₁ (put n₁₁ (c.L + 2) o'') := Keep.put nd₁₁ (s11 _ q2₇) d2
    have kp8 : Keep n₈ (put n₁₁ (c.L + 2) o'') := fun a o h h' => kp12 a o (s11 _ h) h'
    have q2₁₂ : (c.L + 2, o'') ∈ put n₁₁ (c.L + 2) o'' := mem_put_same (s11 _ q2₇)
    have q1₁₂ : (c.L + 1, o') ∈ put n₁₁ (c.L + 2) o'' := mem_put_other (s11 _ q1₇) (Nat.ne_of_lt (Nat.lt_succ_self _))
    replace hRL := hRL.keep kp12
    replace hDue := hDue.keep kp12
    have nd₁₂ := nd₁₁.put (c.L + 2) o''
    have N₁₂ := N₇.keep kp8
    have hML₁₂ := kp8 _ _ hML₇ (fun v => by simp)
    rw [hpl] at hLP
    have hLP₁₂ := kp8 _ _ hLP (fun v => by simp)
    have hin₁₂ : ∀ i, i < cnt → ∃ d, (ps i, instObj 31 d) ∈ put n₁₁ (c.L + 2) o'' := fun i hi => let ⟨d, h⟩ := hinst i hi; ⟨d, kp8 _ _ h (fun v => by simp)⟩
    generalize put n₁₁ (c.L + 2) o'' = n₁₂ at *
    -- mark, triangles
    have hp00 : ((List.range cnt).map fun i => Value.ref (ps i))[0]? = some (.ref (ps 0)) := by rw [List.getElem?_map, List.getElem?_range (by omega)]; rfl
    have hplen : ((List.range cnt).map fun i => Value.ref (ps i)).length = cnt := by simp
    refine run_cons (run_assign (run_tuple ((EvA.consV (v := .ref (ps 0)) (ev_itemL (j := 0) (by ktd_rel) hLP₁₂ ev_int (seqIdx_nat (i := 0) (by omega)) hp00 (by omega) nosl_const) (by intro _ _; rfl) (.consV (v := .ref (ps 0)) (ev_itemL (j := 0) (by ktd_rel) hLP₁₂ ev_int (seqIdx_nat (i := 0) (by omega)) hp00 (by omega) nosl_const) (by intro _ _; rfl) (.consV (v := .ref (ps 0)) (ev_itemL (j := 0) (by ktd_rel) hLP₁₂ ev_int (seqIdx_nat (i := 0) (by omega)) hp00 (by omega) nosl_const) (by intro _ _; rfl) .nil))).args ?_)))
    rintro _ ⟨_, rfl, _, rfl, _, rfl, rfl⟩
    refine ⟨Nat.le_of_ble_eq_true rfl, fun MK hMK => ?_⟩
    refine run_cons (run_assign (run_list ((EvA.consV (v := .ref MK) (by ktd_rel) (by intro _ _; rfl) .nil).args ?_)))
    rintro _ ⟨_, rfl, rfl⟩
    refine ⟨Nat.le_of_ble_eq_true rfl, fun TT hTT => ?_⟩
    have up₃ : ∀ p ∈ n₁₂, p ∈ (TT, listO [.ref MK] 0) :: (MK, tupO [.ref (ps 0), .ref (ps 0), .ref (ps 0)] 0) :: n₁₂ := fun p hp => List.mem_cons_of_mem _ (List.mem_cons_of_mem _ hp)
    have hTTs : TrisIn ((TT, listO [.ref MK] 0) :: (MK, tupO [.ref (ps 0), .ref (ps 0), .ref (ps 0)] 0) :: n₁₂) S.p TT [.ref MK] [] := ⟨[], 0, List.mem_cons_self .., .nil⟩
    have offTT : ∀ p ∈ n₁₂, p.1 ≠ TT := fun p hp => Nat.ne_of_lt (hTT p (List.mem_cons_of_mem _ hp))
    have ndT : Keys ((TT, listO [.ref MK] 0) :: (MK, tupO [.ref (ps 0), .ref (ps 0), .ref (ps 0)] 0) :: n₁₂) := keys_cons (keys_cons nd₁₂ hMK) hTT
    have N₁₃ := N₁₂.sub up₃
    generalize (TT, listO [.ref MK] 0) :: (MK, tupO [.ref (ps 0), .ref (ps 0), .ref (ps 0)] 0) :: n₁₂ = n₁₃ at *
    refine run_cons (run_expr (run_callF g_earcut_linked k_earcut_linked (.consV (v := .ref (S.a b)) (ev_itemL (j := b) (ev_cell (by rfl) (up₃ _ q1₁₂) ho') (up₃ _ hML₁₂) (i := (b : Int)) (by ktd_rel) (seqIdx_nat (by simpa using hbc)) (by rw [List.getElem?_map, List.getElem?_range hbc]; rfl) (by simp; omega) nosl_name) (by intro _ _; rfl) (.consV (v := .ref TT) (by ktd_rel) (by intro _ _; rfl) (.consI (i := 0) ev_int (by intro _ _; rfl) (.consI (i := 0) ev_int (by intro _ _; rfl) (.consI (i := 0) ev_int (by intro _ _; rfl) (.consI (i := (g : Int)) (by ktd_rel) (by intro _ _; rfl) .nil)))))) ?_ (rm.le (by omega)) ?_ (k := 6 - g) (Post := LinkPost S TT [.ref MK] ([] ++ t) o n₁₃)))
    · rintro _ ⟨_, rfl, _, rfl, x1, _, rfl, x2, _, rfl, x3, _, rfl, x4, _, rfl, rfl⟩
      have := link (S := S) (T := TT) (base := [.ref MK]) G hg n₁₃ pv nx ((List.range cnt).drop b ++ (List.range cnt).take b) o [] t (.int 0 x1) (.int 0 x2) (.int 0 x3) x4 N₁₃ hLb (fun j hj => Sk ▸ hri b j hj) (SP ▸ hRuns.run) hTTs (by simp; omega)
      rw [rotk_head hbc] at this
      exact this
    rintro v n₁₄ nd₁₄ ⟨rfl, o₁₄, ⟨pv', nx', N₁₄, hLo⟩, hTT₁₄⟩
    have kp14 : ∀ a ob, (a, ob) ∈ n₁₂ → (∀ es k, ob ≠ dictOf es k) → (a, ob) ∈ n₁₄ := fun a ob h h' => o₁₄ _ (up₃ _ h) fun hm => by
      rcases List.mem_cons.mp hm with e | hm
      · exact offTT _ h e
      · exact N₁₃.off ndT (up₃ _ h) h' hm
    have noff : ∀ a ob, (a, ob) ∈ n₁₂ → (∀ es k, ob ≠ dictOf es k) → a ∉ TT :: S.ds := fun a ob h h' hm => by
      rcases List.mem_cons.mp hm with e | hm
      · exact offTT _ h e
      · exact N₁₃.off ndT (up₃ _ h) h' hm
    obtain ⟨dvs, dk, hd1, hd2⟩ := hDue
    have hDue' : DueIn n₁₄ T t := ⟨dvs, dk, kp14 _ _ hd1 (fun _ _ => list_ne_dict), hd2.other (ds := TT :: S.ds) (fun p hp e => o₁₄ p (up₃ p hp) e) (fun D ws h => noff _ _ h fun _ _ => tup_ne_dict)⟩
    obtain ⟨lvs, lk, hl1, hl2⟩ := hRL
    have hRL₁₄ : RingIn n₁₄ DL o := ⟨lvs, lk, kp14 _ _ hl1 (fun _ _ => list_ne_dict), hl2⟩
    have hML₁₄ := kp14 _ _ hML₁₂ (fun _ _ => list_ne_dict)
    have hLP₁₄ := kp14 _ _ hLP₁₂ (fun _ _ => list_ne_dict)
    have cellnd : ∀ {ob : Obj} {v : Option Value}, ob.data = .cell v → ∀ es k, ob ≠ dictOf es k := fun h es k e => by rw [e] at h; cases h
    have q1₁₄ := kp14 _ _ q1₁₂ (cellnd ho')
    have q2₁₄ := kp14 _ _ q2₁₂ (cellnd ho'')
    have hin₁₄ : ∀ i, i < cnt → ∃ d, (ps i, instObj 31 d) ∈ n₁₄ := fun i hi => let ⟨d, h⟩ := hin₁₂ i hi; ⟨d, kp14 _ _ h (fun _ _ => inst_ne_dict)⟩
    obtain ⟨tvs, ktt, hTl, hTa⟩ := hTT₁₄.list
    rw [Sp] at hTa
    have htvl : tvs.length = t.length := hTa.length
    refine run_cons (run_if (is_or (is_cmp (useV (ev_itemL (j := 0) (v := .ref MK) (by ktd_rel) hTl ev_int (seqIdx_nat (i := 0) (by simp)) rfl (by simp; omega) nosl_const) (useV (v := .ref MK) (by ktd_rel) (run_isnotself (truth_bool ?_)))))))
    simp only [Bool.false_eq_true, if_false]
    refine is_or (is_not (is_plain (run_call g_law_told k_law_told (args_cons (run_slice (by ktd_rel) hTl (evp_some ev_int) evp_none (by simp; omega) fun TS hTS => EvA.args (.consV (v := .ref T) (by ktd_rel) (by intro _ _; rfl) (.consV (v := .ref LP) (by ktd_rel) (by intro _ _; rfl) .nil)) ?_)))))
    rintro _ ⟨_, rfl, _, rfl, rfl⟩
    have epick : (slicePick ([Value.ref MK] ++ tvs).toArray (some 1) none none).toList = tvs := by
      rw [kms_pick_eq]
      simp [kms_pick, kms_lo, kms_hi]
    rw [epick]
    have up₄ : ∀ p ∈ n₁₄, p ∈ (TS, listO tvs 0) :: n₁₄ := fun p hp => List.mem_cons_of_mem _ hp
    refine (c_told (vs := tvs) (ts := t) (p := ps) (cnt := cnt) (List.mem_cons_self ..) (hTa.other (ds := []) (fun p hp _ => up₄ p hp) (fun _ _ _ => by simp)) (hDue'.sub up₄) (up₄ _ hLP₁₄) (fun i hi => let ⟨d, h⟩ := hin₁₄ i hi; ⟨d, up₄ _ h⟩) htm (by omega) (by omega)).run rm2 ?_
    rintro v n₁₅ nd₁₅ ⟨rfl, rfl⟩
    refine truth_bool ?_
    simp only [Bool.not_true, Bool.false_eq_true, if_false]
    refine is_or0 ?_
    simp only [Bool.false_eq_true, if_false]
    refine run_nil ?_
    have N₁₅ := N₁₄.sub up₄
    have hRL₁₅ := hRL₁₄.sub up₄
    have hML₁₅ := up₄ _ hML₁₄
    have q1₁₅ := up₄ _ q1₁₄
    have q2₁₅ := up₄ _ q2₁₄
    generalize (TS, listO tvs 0) :: n₁₄ = n₁₅ at *
    refine run_cons (run_ret (run_cmp (run_comp (ct := some _) (by rfl) (by rfl) (by rfl) (by decide) (by rfl) (run_callT g_range b_range (by decide) (.consI (ev_lenR (ev_cell (by rfl) q2₁₅ ho'') hRL₁₅ (by omega)) (by intro _ _; rfl) .nil) (fun us hus => ?_)))))
    obtain ⟨t0, _, rfl, rfl⟩ := hus
    refine run_range1 fun W t v hW => ⟨o.length, _, fun i ys n' => ys = [] ∧ ∀ p ∈ n₁₅, p ∈ n', Src.range (N := o.length) (List.mem_cons_self ..) (range_small (a := 0) (by decide) (by omega)) (by rw [show (0 : Int) = ((0 : Nat) : Int) from rfl, range_size, Nat.sub_zero]) (by omega), ⟨?_⟩, ⟨rfl, fun p hp => List.mem_cons_of_mem _ hp⟩, ?_⟩
    · rintro i v ys n' I oI C oC D m₂ hi' ⟨tk, rfl⟩ ⟨rfl, sub⟩ nd' hC hx off' ne
      show Run _ _ _ _ _
      have s' : ∀ p ∈ n₁₅, p ∈ (I, oI) :: (C, oC) :: (D, LL []) :: n' := fun p hp => List.mem_cons_of_mem _ (List.mem_cons_of_mem _ (List.mem_cons_of_mem _ (sub p hp)))
      have hCm : (C, oC) ∈ (I, oI) :: (C, oC) :: (D, LL []) :: n' := List.mem_cons_of_mem _ (List.mem_cons_self ..)
      have r1 := s' _ q1₁₅
      have r2 := s' _ q2₁₅
      have hML' := s' _ hML₁₅
      have hRL' := hRL₁₅.sub s'
      have N' := N₁₅.sub s'
      have ei : (0 : Int) + (i : Int) * 1 = (i : Int) := by omega
      have q_i : nth o i < cnt := hoi _ (nth_mem hLo.ne)
      have q_n : nth o (i + 1) < cnt := hoi _ (nth_mem hLo.ne)
      have q_p : nth o (pr o.length i) < cnt := hoi _ (nth_mem hLo.ne)
      have gm : ∀ j, j < cnt → ((List.range cnt).map fun j => Value.ref (S.a j))[j]? = some (.ref (S.a j)) := fun j hj => by rw [List.getElem?_map, List.getElem?_range hj]; rfl
      have M0 := N'.node _ (Sk ▸ q_i)
      have hpv : pv' (nth o i) = nth o (pr o.length i) := by
        unfold pr
        split
        · rename_i e; rw [e]; exact hLo.prv0
        · rename_i e
          have := hLo.prv (i - 1)
          rwa [Nat.sub_add_cancel (by omega)] at this
      rw [hLo.nxt i, hpv] at M0
      generalize hN : (I, oI) :: (C, oC) :: (D, LL []) :: n' = NN at *
      refine useT (b := false) (Ev.cast (tr_or (tr_cmp (ev_isnotN G N' (i := nth o (i + 1)) (j := nth o (i + 1)) (ev_next (ev_itemL (j := nth o i) (v := .ref (S.a (nth o i))) (ev_cell (by rfl) r1 ho') hML' (ev_rk (j := i) (ev_cell (by rfl) r2 ho'') hRL' (ev_cvarI hCm hC hx) ei hi' (by omega) nosl_name) (seqIdx_nat (by simpa using q_i)) (gm _ q_i) (by simp; omega) nosl_sub) M0) (ev_itemL (j := nth o (i + 1)) (v := .ref (S.a (nth o (i + 1)))) (ev_cell (by rfl) r1 ho') hML' (ev_rmod (i := i + 1) (ev_cell (by rfl) r2 ho'') hRL' (Ev.ofI (i := (0 : Int) + (i : Int) * 1 + 1) (ev_add (ev_cvarI hCm hC hx) ev_int) (by omega)) (ev_lenR (ev_cell (by rfl) r2 ho'') hRL' (by omega)) hLo.ne (by omega)) (seqIdx_nat (by simpa using q_n)) (gm _ q_n) (by simp; omega) nosl_sub) (Sk ▸ q_n) (Sk ▸ q_n))) fun _ => tr_or (tr_cmp (ev_isnotN G N' (i := nth o (pr o.length i)) (j := nth o (pr o.length i)) (ev_prev (ev_itemL (j := nth o i) (v := .ref (S.a (nth o i))) (ev_cell (by rfl) r1 ho') hML' (ev_rk (j := i) (ev_cell (by rfl) r2 ho'') hRL' (ev_cvarI hCm hC hx) ei hi' (by omega) nosl_name) (seqIdx_nat (by simpa using q_i)) (gm _ q_i) (by simp; omega) nosl_sub) M0) (ev_itemL (j := nth o (pr o.length i)) (v := .ref (S.a (nth o (pr o.length i)))) (ev_cell (by rfl) r1 ho') hML' (ev_ring (j := pr o.length i) (ev_cell (by rfl) r2 ho'') hRL' (Ev.ofI (i := (0 : Int) + (i : Int) * 1 - 1) (j := (i : Int) - 1) (ev_sub (ev_cvarI hCm hC hx) ev_int) (by omega)) (pr_idx hi') (pr_lt hi') (by omega) nosl_bin) (seqIdx_nat (by simpa using q_p)) (gm _ q_p) (by simp; omega) nosl_sub) (Sk ▸ q_p) (Sk ▸ q_p))) fun _ => tr_or0) (by simp)) ?_
      exact ⟨rfl, rfl, n', fun p hp => hN ▸ hp, off', nd', rfl, sub⟩
    · rintro D ys n₂ ⟨rfl, sub⟩ nd₂
      refine run_list (args_nil ⟨Nat.zero_le _, fun E hE => ?_⟩)
      exact run_eqNil (List.mem_cons_of_mem _ (List.mem_cons_self ..)) (List.mem_cons_self ..) (by have := rm.2; omega) rfl
end
end Mine
namespace Mine
theorem IsLaw.uniq {b b' : List Stmt} {s s' : Scope} (h : IsLaw b s) (h' : IsLaw b' s') (P : Params) : b = b' ∧ s = s' := by
  obtain ⟨name, qual, params, dV, kV, doc, pm, cdv, ct, oc, an, od, osl, e⟩ := h
  obtain ⟨name', qual', params', dV', kV', doc', pm', cdv', ct', oc', an', od', osl', e'⟩ := h'
  have := (e P).symm.trans (e' P)
  have h1 := congrArg (fun o : Option Obj => match o with | some ⟨_, _, .func fd, _⟩ => fd.body | _ => .stmts []) this
  have h2 := congrArg (fun o : Option Obj => match o with | some ⟨_, _, .func fd, _⟩ => fd.scope | _ => s) this
  exact ⟨FuncBody.stmts.inj h1, h2⟩
theorem law_runs (P : Params) {body : List Stmt} {scope : Scope} (h : IsLaw body scope) : LawRuns body scope := by
  obtain ⟨b, s, h', r⟩ := law_core
  obtain ⟨rfl, rfl⟩ := h.uniq h' P
  exact r
theorem law_join {w : World} {mean : ExcName → Option Value} {mg mb : Str → Option Value} {hb : Heap} {s₁ : Shared} {h₁ : Heap} {tk : Nat} {name : Str} {fa : Addr} {cdv : Value} {scope : Scope} {body : List Stmt} {o2 o1 : Obj} {l : Addr} {vs : List Value} {ns : List Int} {m : Loc} {E : Value → Shared → Prop} {Q : Flow → Shared → Prop}
    (hlaw : IsLaw body scope) (hk : scope.kind = .function) (K0 : Below callerA hb [] s₁.heap) (KX : (hd.heap_39 w.params).In s₁.heap) (T : Top VV loose mean mg mb s₁.heap)
    (F : Fr s₁.heap s₁.heap.objs.size h₁ m) (N0 : News s₁.heap s₁.heap.objs.size h₁ [(s₁.heap.objs.size + 1 + 1, o2), (s₁.heap.objs.size + 1, o1)])
    (hm : m "script" = some (.ref l)) (d2 : o2.data = .cell none) (d1 : o1.data = .cell none) (hL : s₁.heap.IsList l vs.toArray) (hI : IntsAre vs ns) (h63 : ns.length ≤ 63) (hlay : (PyData.list (ns.map .int)).layable0 = true)
    (hQ : ∀ s' : Shared, s'.gens = s₁.gens → s'.os = s₁.os → (∀ b o, s₁.heap.get? b = some o → s'.heap.get? b = some o) → Q (.ret (.bool true)) s') :
    wpAny (model PP w) (callerA.deeper (envOfC name scope s₁.heap.objs.size fa cdv)) (execs body (envOfC name scope s₁.heap.objs.size fa cdv)) Q E { heap := h₁, gens := s₁.gens, drawn := s₁.drawn, toks := tk, os := s₁.os } := by
  let c : Cfg := { w := w, mean := mean, mg := mg, mb := mb, A := callerA.deeper (envOfC name scope s₁.heap.objs.size fa cdv), A₀ := callerA, base := hb, h₀ := s₁.heap, fenv := envOfC name scope s₁.heap.objs.size fa cdv, outer := [], L := s₁.heap.objs.size, s₀ := s₁ }
  have ok : c.Ok := ⟨K0, KX, T, Around.frames_deeper rfl, rfl, hk, rfl⟩
  have rm : Room 10 c := ⟨by
    show (callerA.deeper _).depth + 2 * 10 + 20 < recursionLimit
    simp only [depth_deeper, depth_caller]; decide, by
    show (callerA.deeper _).units + 16 * 10 + 200 < cLine
    simp only [units_deeper, units_caller]; decide⟩
  have nd : Keys [(s₁.heap.objs.size + 1 + 1, o2), (s₁.heap.objs.size + 1, o1)] := by unfold Keys; simp
  have r := law_runs w.params hlaw c name fa cdv m o2 o1 l vs ns ok rm hm d2 d1 hL hI h63 (fun x hx => by
    have h := intBits_le_of_item hx hlay
    exact intBits_le_iff.mp h)
  refine wpAny_mono (r _ ⟨ok, F, N0, nd, rfl, rfl, rfl⟩) ?_ fun _ _ e => e.elim
  rintro fl s' ⟨m', n', S', rfl⟩
  exact hQ s' S'.gens S'.os S'.F.keep
end Mine
set_option maxHeartbeats 8000000 in
theorem PySem.Challenge.cw_et5011_01_holds : PySem.Challenge.rw_et5011_01.Holds :=
  Mine.hd (by
  k_go0
  refine' Mine.law_join ?hlaw ?hk ?K0 ?KX ?T ?F ?N0 ?hm ?d2 ?d1 ?hL ?hI ?h63 ?hlay ?hQ
  case F => assumption
  case hlaw => exact ⟨_, _, _, _, _, _, _, _, _, _, _, _, _, fun _ => by rfl⟩
  case hk => rfl
  case K0 => assumption
  case KX => assumption
  case T => assumption
  case N0 => assumption
  case hm => rfl
  case d2 => assumption
  case d1 => assumption
  case hL => assumption
  case hI => assumption
  case h63 => omega
  case hlay => assumption
  case hQ =>
    intro s' hg' ho' hk'
    exact ⟨.inl ⟨_, _, [], rfl, fun _ => rfl, ReadsW.bool true, by wrow_post, fun _ => ⟨List.nodup_nil, fun _ hm => nomatch hm⟩⟩, hk', ho', hg'.trans (by assumption)⟩)
