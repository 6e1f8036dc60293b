import PyProof.Rows.All
import PyProof.CodeObj
import PyProof.EnumMake
import Open.Boot
import KE.KBoundM
import Wide.All
import OpenK.AllK
import Wide.FinOn
import Lean
import PySem.Challenge.RW_aj5032_01
open PySem PySem.W PyProof.Rows PySem.Calls
set_option Elab.async false
set_option maxRecDepth 100000
namespace A5
/-! F0 -/
abbrev prog : Program := PySem.Challenge.pw_aj5032_01
def stmtAt (i : Nat) : Stmt := (prog.main.body[i]?).getD (.Pass default)
def clsBody : Stmt → List Stmt
  | .ClassDef _ _ _ b _ _ _ _ _ _ _ => b
  | _ => []
def methAt (i : Nat) : Stmt := ((clsBody (stmtAt 13))[i]?).getD (.Pass default)
def fnBody : Stmt → List Stmt
  | .FunctionDef _ _ b _ _ _ _ _ _ _ => b
  | _ => []
def fnScope : Stmt → Scope
  | .FunctionDef _ _ _ _ _ _ s _ _ _ => s
  | _ => default
def fnArgs : Stmt → Arguments
  | .FunctionDef _ a _ _ _ _ _ _ _ _ => a
  | _ => default
def fnName : Stmt → Str
  | .FunctionDef n _ _ _ _ _ _ _ _ _ => n
  | _ => default

def fd (st : Stmt) (qual : Str) (pm code : Value) : FuncData :=
  { name := fnName st, qualname := qual, params := fnArgs st, body := .stmts (fnBody st), scope := fnScope st, globals := mainGlobals, closure := [],
    defaults := .none, kwdefaults := .none, doc := .none, pyModule := pm, annotations := none, code := code, closureTuple := .none, builtins := builtinsNs }
def fnObj (st : Stmt) (qual : Str) (pm code : Value) : Obj := { cls := .type "function", dict := none, data := .func (fd st qual pm code), slots := #[] }

/-- the one table that a call may lengthen -/
abbrev T : Addr := 146

/-- the code object at 150 and its table -/
abbrev TabOk (h : Heap) (ps : Array Value) : Prop := h.IsCode 150 T ps ∧ h.TableAt 150 T ps
theorem TabOk.keeps {h h' : Heap} {ps : Array Value} (x : TabOk h ps) (k : ∀ b o, h.get? b = some o → h'.get? b = some o) : TabOk h' ps := ⟨x.1.keeps k, x.2.keeps k⟩

/-- how a call may move the state (the tokens apart) -/
structure AdvH (h : Heap) (g : Array GenState) (d : Drawn) (o : OsState) (h' : Heap) (g' : Array GenState) (d' : Drawn) (o' : OsState) : Prop where
  keep : ∀ b x, b ≠ T → h.get? b = some x → h'.get? b = some x
  gens : ∃ k, g' = g ++ Array.replicate k .finished
  drawn : d' = d
  os : o' = o
  tab : ∀ ps, TabOk h ps → ∃ ps', TabOk h' ps'
abbrev Adv (s s' : Shared) : Prop := AdvH s.heap s.gens s.drawn s.os s'.heap s'.gens s'.drawn s'.os

theorem Adv.refl (s : Shared) : Adv s s := ⟨fun _ _ _ e => e, ⟨0, by simp⟩, rfl, rfl, fun ps i => ⟨ps, i⟩⟩
theorem AdvH.trans {h h' h'' : Heap} {g g' g'' : Array GenState} {d d' d'' : Drawn} {o o' o'' : OsState} (a : AdvH h g d o h' g' d' o') (b : AdvH h' g' d' o' h'' g'' d'' o'') : AdvH h g d o h'' g'' d'' o'' := by
  obtain ⟨k, hk⟩ := a.gens
  obtain ⟨l, hl⟩ := b.gens
  exact ⟨fun c o h e => b.keep c o h (a.keep c o h e), ⟨k + l, by rw [hl, hk, Array.append_assoc, Array.replicate_append_replicate]⟩, b.drawn.trans a.drawn, b.os.trans a.os, fun ps i => let ⟨_, j⟩ := a.tab ps i; b.tab _ j⟩
/-- an extension of the heap -/
theorem AdvH.ext {h h' : Heap} {g : Array GenState} {d : Drawn} {o : OsState} (k : ∀ b o, h.get? b = some o → h'.get? b = some o) : AdvH h g d o h' g d o :=
  ⟨fun b o _ e => k b o e, ⟨0, by simp⟩, rfl, rfl, fun ps i => ⟨ps, TabOk.keeps i k⟩⟩
theorem code_low {h h' : Heap} {ps : Array Value} (x : TabOk h ps) (k : ∀ b o, b < 262 → h.get? b = some o → h'.get? b = some o) : TabOk h' ps :=
  let ⟨⟨o, vs, file, tf, flags, tg, inF, text, tt, op, a, r1, r2, r3, r4, r5, r6, b, r⟩, ⟨o2, vs2, a2, r7⟩, t⟩ := x
  ⟨⟨o, vs, file, tf, flags, tg, inF, text, tt, op, k _ _ (by decide) a, r1, r2, r3, r4, r5, r6, k _ _ (by decide) b, r⟩, ⟨o2, vs2, k _ _ (by decide) a2, r7⟩, k _ _ (by decide) t⟩
/-- the same, what is low untouched -/
theorem AdvH.chg {h h₂ h' : Heap} {g g' : Array GenState} {d d' : Drawn} {o o' : OsState} (a : AdvH h g d o h₂ g' d' o') (k : ∀ b x, b ≠ T → h.get? b = some x → h'.get? b = some x) (k2 : ∀ b x, b < 262 → h₂.get? b = some x → h'.get? b = some x) :
    AdvH h g d o h' g' d' o' := ⟨k, a.gens, a.drawn, a.os, fun ps i => let ⟨ps', j⟩ := a.tab ps i; ⟨ps', code_low j k2⟩⟩
theorem AdvH.push {h : Heap} {g : Array GenState} {d : Drawn} {o : OsState} (x : Obj) : AdvH h g d o (h.push x) g d o :=
  .ext fun _ _ e => Heap.get?_push_of_some _ e

theorem ns_keep {h h' : Heap} {L : Addr} {m : Str → Option Value} (n : h.Ns L m) (k : ∀ o, h.get? L = some o → h'.get? L = some o) : h'.Ns L m :=
  let ⟨o, es, ep, a, b, c, d⟩ := n; ⟨o, es, ep, k o a, b, c, d⟩


section
variable {M : Model} {A : Around} {E : Value → Shared → Prop} {s : Shared} {env : Env}
theorem cw_type {pos : Pos} {X : String} {first : List Value} {e : Expr} {rest : List Expr} {Q : Value → Shared → Prop}
    (h : wpAny M A (spliced (backTo pos (starEach (e :: rest) env))) (fun vs s₁ => wpAny M A (call (.type X) (first ++ vs)) Q E s₁) E s)
    (he : starEach (e :: rest) env = (false, eval e env) :: starEach rest env := by rfl)
    (hplain : (backTo pos (starEach rest env)).any (·.1) = false := by rfl) :
    wpAny M A (callWith pos (.type X) first (backTo pos (starEach (e :: rest) env)) []) Q E s := by
  rw [he] at h ⊢
  exact PySem.callWith_type (by show (false || (backTo pos (starEach rest env)).any (·.1)) = false; rw [hplain]; rfl) (evalArgs_plain h)
theorem cw_fn {pos : Pos} {a : Addr} {o : Obj} {fd : FuncData} {first : List Value} {e : Expr} {rest : List Expr} {Q : Value → Shared → Prop}
    (h : wpAny M A (spliced (backTo pos (starEach (e :: rest) env))) (fun vs s₁ => (s₁.heap.get? a = some o ∧ o.data = .func fd) ∧ wpAny M A (call (.ref a) (first ++ vs)) Q E s₁) E s)
    (he : starEach (e :: rest) env = (false, eval e env) :: starEach rest env := by rfl) :
    wpAny M A (callWith pos (.ref a) first (backTo pos (starEach (e :: rest) env)) []) Q E s := by
  rw [he] at h ⊢
  exact callWith_function (evalArgs_plain h)
end

section
variable {M : Model} {A : Around} {E : Value → Shared → Prop} {s : Shared} {env : Env}
theorem xAssign {x pos' value pos} {Q : Flow → Shared → Prop} (h : wpAny M A (eval value env) (fun v s₁ => wpAny M A (storeName env x v) (fun _ => Q .next) E s₁) E s)
    (hs : swapsWith value (some (.Name x pos')) pos.line env = pure false := by kernel_rfl) : wpAny M A (exec (.Assign [.Name x pos'] value pos) env) Q E s := wpAny_Assign_Name h hs
theorem xExpr {e pos} {Q : Flow → Shared → Prop} (h : wpAny M A (eval e env) (fun v s' => match v with | .ref _ => False | _ => Q .next s') E s)
    (hi : interactive env = false := by kernel_rfl) (hs : swapsWith e none pos.line env = pure false := by kernel_rfl) : wpAny M A (exec (.Expr e pos) env) Q E s := wpAny_Expr h hi hs
theorem xFor {target iter body orelse pos} {Q : Flow → Shared → Prop}
    (h : wpAny M A (eval iter env) (fun x s₁ => wpAny M A (pyIter x) (fun it s₂ => codeAny M A (.forLoop target it body orelse env) (fun r s' => match r with | .ok f => Q f s' | .error e => cameBackBy M A env E e s') s₂) E s₁) E s)
    (hs : ∀ x, foldedSetIterable iter env x = pure x := by intro _; kernel_rfl) : wpAny M A (exec (.For target iter body orelse pos) env) Q E s := wpAny_For h hs
theorem xLot {x : Str} {np : Pos} {it v : Value} {Q : Unit → Shared → Prop} (h : Q () s) : wpAny M A (letOwnedTupleGo (.Name x np) it v) Q E s := wpAny_pure h
theorem xName {x : Str} {np : Pos} {whole : Sem Value} {Q : Bool → Shared → Prop} (h : wpAny M A whole (fun v s₁ => wpAny M A (truthy v) Q E s₁) E s) : wpAny M A (PySem.isTrue (.Name x np) env whole) Q E s := wpAny_isTrue_value h
theorem xCallT {f : Expr} {args : List Expr} {kw : List Keyword} {np : Pos} {whole : Sem Value} {Q : Bool → Shared → Prop} (h : wpAny M A whole (fun v s₁ => wpAny M A (truthy v) Q E s₁) E s) : wpAny M A (PySem.isTrue (.Call f args kw np) env whole) Q E s := wpAny_isTrue_value h
theorem xItem {pos : Pos} {e : Expr} {rest : List Expr} {Q : List Value → Shared → Prop}
    (h : wpAny M A (eval e env) (fun v s₁ => wpAny M A (spliced (backTo pos (starEach rest env))) (fun vs s₂ => Q (v :: vs) s₂) E s₁) E s)
    (he : starEach (e :: rest) env = (false, eval e env) :: starEach rest env := by kernel_rfl) : wpAny M A (spliced (backTo pos (starEach (e :: rest) env))) Q E s := wpAny_items_cons h he
theorem xMeth {o : Expr} {name : Str} {apos pos : Pos} {args : List Expr} {Q : Value → Shared → Prop}
    (h : wpAny M A (eval o env) (fun ov s₁ => wpAny M A (getMethod ov name (do return (← importBound o env).getD true)) (fun fx s₂ => wpAny M A (callWith pos fx.1 fx.2 (backTo pos (starEach args env)) []) Q E s₂) E s₁) E s)
    (he : eval (.Call (.Attribute o name apos) args [] pos) env = (do
      let ov ← eval o env
      standAt apos.atName
      let (f, first) ← holding [ov] (getMethod ov name (do return (← importBound o env).getD true))
      callWith pos f first (backTo pos (starEach args env)) []) := by kernel_rfl) : wpAny M A (eval (.Call (.Attribute o name apos) args [] pos) env) Q E s := MethodCall_ h he
theorem xCwB {pos : Pos} {id : String} {first : List Value} {e : Expr} {rest : List Expr} {Q : Value → Shared → Prop}
    (h : wpAny M A (spliced (backTo pos (starEach (e :: rest) env))) (fun vs s₁ => wpAny M A (call (.builtin id) (first ++ vs)) Q E s₁) E s)
    (he : starEach (e :: rest) env = (false, eval e env) :: starEach rest env := by kernel_rfl) (hp : (backTo pos (starEach rest env)).any (·.1) = false := by kernel_rfl) :
    wpAny M A (callWith pos (.builtin id) first (backTo pos (starEach (e :: rest) env)) []) Q E s := callWith_method1 h he hp
theorem xCwT {pos : Pos} {id : String} {first : List Value} {e : Expr} {rest : List Expr} {Q : Value → Shared → Prop}
    (h : wpAny M A (spliced (backTo pos (starEach (e :: rest) env))) (fun vs s₁ => wpAny M A (call (.type id) (first ++ vs)) Q E s₁) E s)
    (he : starEach (e :: rest) env = (false, eval e env) :: starEach rest env := by kernel_rfl) (hp : (backTo pos (starEach rest env)).any (·.1) = false := by kernel_rfl) :
    wpAny M A (callWith pos (.type id) first (backTo pos (starEach (e :: rest) env)) []) Q E s := cw_type h he hp
end

local macro_rules | `(tactic| walk_at "a") => `(tactic| with_reducible refine wpAny_execs_nil ?_)
local macro_rules | `(tactic| walk_at "a") => `(tactic| with_reducible refine wpAny_execs_cons ?_)
local macro_rules | `(tactic| walk_at "a") => `(tactic| with_reducible refine wpAny_Return_some ?_)
local macro_rules | `(tactic| walk_at "a") => `(tactic| with_reducible refine wpAny_If ?_)
local macro_rules | `(tactic| walk_at "a") => `(tactic| with_reducible refine xAssign ?_)
local macro_rules | `(tactic| walk_at "a") => `(tactic| with_reducible refine xFor ?_)
local macro_rules | `(tactic| walk_at "a") => `(tactic| with_reducible refine xExpr ?_)
local macro_rules | `(tactic| walk_at "a") => `(tactic| with_reducible refine xName ?_)
local macro_rules | `(tactic| walk_at "a") => `(tactic| with_reducible refine xCallT ?_)
local macro_rules | `(tactic| walk_at "a") => `(tactic| with_reducible refine wpAny_isTrue_Not ?_)
local macro_rules | `(tactic| walk_at "a") => `(tactic| with_reducible refine wpAny_isTrue_Compare1 ?_)
local macro_rules | `(tactic| walk_at "a") => `(tactic| with_reducible refine wpAny_Compare1 ?_)
local macro_rules | `(tactic| walk_at "a") => `(tactic| with_reducible refine wpAny_BinOp ?_)
local macro_rules | `(tactic| walk_at "a") => `(tactic| with_reducible refine wpAny_UnaryOp ?_)
local macro_rules | `(tactic| walk_at "a") => `(tactic| with_reducible refine wpAny_IfExp ?_)
local macro_rules | `(tactic| walk_at "a") => `(tactic| with_reducible refine wpAny_Call_NameR ?_)
local macro_rules | `(tactic| walk_at "a") => `(tactic| with_reducible refine Subscript_ ?_)
local macro_rules | `(tactic| walk_at "a") => `(tactic| with_reducible refine wpAny_Constant_int ?_)
local macro_rules | `(tactic| walk_at "a") => `(tactic| with_reducible refine wpAny_Constant_none ?_)
local macro_rules | `(tactic| walk_at "a") => `(tactic| with_reducible refine wpAny_Constant_bool ?_)
local macro_rules | `(tactic| walk_at "a") => `(tactic| with_reducible refine wpAny_Constant_str ?_)
local macro_rules | `(tactic| walk_at "a") => `(tactic| with_reducible refine xItem ?_)
local macro_rules | `(tactic| walk_at "a") => `(tactic| with_reducible refine wpAny_items_nil ?_)
local macro_rules | `(tactic| walk_at "a") => `(tactic| with_reducible refine xCwB ?_)
local macro_rules | `(tactic| walk_at "a") => `(tactic| with_reducible refine xCwT ?_)
local macro_rules | `(tactic| walk_at "a") => `(tactic| with_reducible refine wpAny_List ?_)
local macro_rules | `(tactic| walk_at "a") => `(tactic| with_reducible refine xMeth ?_)
local macro_rules | `(tactic| walk_at "a") => `(tactic| with_reducible refine PyProof.Rows.add_int ?_)
local macro_rules | `(tactic| walk_at "a") => `(tactic| with_reducible refine PyProof.Rows.sub_int ?_)
local macro_rules | `(tactic| walk_at "a") => `(tactic| with_reducible refine PyProof.Rows.eq_int ?_)
local macro_rules | `(tactic| walk_at "a") => `(tactic| with_reducible refine wpAny_lt_int ?_)
local macro_rules | `(tactic| walk_at "a") => `(tactic| with_reducible refine PyProof.Rows.ge_int ?_)
local macro_rules | `(tactic| walk_at "a") => `(tactic| with_reducible refine wpAny_truthy_bool ?_)
local macro_rules | `(tactic| walk_at "a") => `(tactic| with_reducible refine PyProof.Rows.truthy_int ?_)
local macro_rules | `(tactic| walk_at "as") => `(tactic| repeat walk_at "a")
/-! F1 -/
structure Gl (mg mb : Str → Option Value) (h : Heap) : Prop where
  top : ∃ o, h.get? 261 = some o
  g : h.Ns mainGlobals mg
  b : h.Ns builtinsNs mb
  bi : ∀ x : Str, x ≠ "__name__" → mb x = bootBuiltins x
  lim : h.NoLimit

section
variable {mg mb : Str → Option Value}
theorem Gl.keeps {h h' : Heap} (G : Gl mg mb h) (k : ∀ b o, b ≠ T → h.get? b = some o → h'.get? b = some o) : Gl mg mb h' :=
  ⟨let ⟨o, e⟩ := G.top; ⟨o, k _ o (by decide) e⟩, ns_keep G.g fun o e => k _ o (by decide) e, ns_keep G.b fun o e => k _ o (by decide) e, G.bi, let ⟨mc, a, b⟩ := G.lim; ⟨mc, ns_keep a fun o e => k _ o (by decide) e, b⟩⟩
theorem Gl.adv {h h' : Heap} {g g' : Array GenState} {d d' : Drawn} {o o' : OsState} (G : Gl mg mb h) (a : AdvH h g d o h' g' d' o') : Gl mg mb h' := G.keeps a.keep
end

/-- a plain function of the text stands at a -/
structure FnAt (h : Heap) (a : Addr) (st : Stmt) (qual : Str) (pm code : Value) : Prop where
  obj : h.get? a = some (fnObj st qual pm code)
  code : ∃ c o vs t, code = .ref c ∧ c ≠ T ∧ h.get? c = some o ∧ o.data = .fields vs ∧ vs[1]? = some (.str qual t)
  ne : a ≠ T
theorem FnAt.crec {h : Heap} {a : Addr} {st : Stmt} {qual : Str} {pm code : Value} (F : FnAt h a st qual pm code) : h.CodeRec code qual :=
  let ⟨c, o, vs, t, e, _, a, b, d⟩ := F.code; ⟨c, o, vs, t, e, a, b, d⟩
theorem FnAt.adv {h h' : Heap} {g g' : Array GenState} {d d' : Drawn} {o o' : OsState} {a : Addr} {st : Stmt} {qual : Str} {pm code : Value} (F : FnAt h a st qual pm code) (k : AdvH h g d o h' g' d' o') : FnAt h' a st qual pm code :=
  ⟨k.keep _ _ F.ne F.obj, let ⟨c, o, vs, t, e, n, a, b, d⟩ := F.code; ⟨c, o, vs, t, e, n, k.keep _ _ n a, b, d⟩, F.ne⟩

/-- amid a function's body: s the state at its call, c the state now, L its frame -/
structure BdH (s : Shared) (L : Addr) (m : Str → Option Value) (h : Heap) (g : Array GenState) (d : Drawn) (o : OsState) : Prop where
  adv : AdvH s.heap s.gens s.drawn s.os h g d o
  ns : h.Ns L m
  old : s.heap.get? L = none
  hi : 262 ≤ L
  top : ∃ o, s.heap.get? 261 = some o
abbrev Bd (s : Shared) (L : Addr) (m : Str → Option Value) (c : Shared) : Prop := BdH s L m c.heap c.gens c.drawn c.os
theorem BdH.new {s : Shared} {L : Addr} {m : Str → Option Value} {h : Heap} {g : Array GenState} {d : Drawn} {o : OsState} (B : BdH s L m h g d o) : L < h.objs.size := let ⟨_, _, _, e, _⟩ := B.ns; Heap.lt_size e
theorem fresh_of {s : Shared} {h : Heap} {g : Array GenState} {d : Drawn} {o : OsState} (a : AdvH s.heap s.gens s.drawn s.os h g d o) (top : ∃ o, s.heap.get? 261 = some o) : 262 ≤ h.objs.size ∧ s.heap.get? h.objs.size = none := by
  obtain ⟨x, e⟩ := top
  have hi : 262 ≤ h.objs.size := Heap.lt_size (a.keep _ x (by decide) e)
  refine ⟨hi, ?_⟩
  cases q : s.heap.get? h.objs.size with
  | none => rfl
  | some y => exact absurd (Heap.lt_size (a.keep _ y (fun z => by rw [z] at hi; exact absurd hi (by decide)) q)) (Nat.lt_irrefl _)
theorem BdH.fresh {s : Shared} {L : Addr} {m : Str → Option Value} {h : Heap} {g : Array GenState} {d : Drawn} {o : OsState} (B : BdH s L m h g d o) : s.heap.get? h.objs.size = none := (fresh_of B.adv B.top).2
theorem BdH.big {s : Shared} {L : Addr} {m : Str → Option Value} {h : Heap} {g : Array GenState} {d : Drawn} {o : OsState} (B : BdH s L m h g d o) : 262 ≤ h.objs.size := (fresh_of B.adv B.top).1
def upd (m : Str → Option Value) (x : Str) (v : Value) : Str → Option Value := fun y => if y = x then some v else m y
theorem upd_self {m : Str → Option Value} {x : Str} {v : Value} : upd m x v x = some v := if_pos rfl
theorem upd_ne {m : Str → Option Value} {x y : Str} {v : Value} (h : y ≠ x) : upd m x v y = m y := if_neg h
local macro_rules | `(tactic| walk_at "lk") => `(tactic| first | assumption | exact upd_self | (refine (upd_ne (by decide)).trans ?_; walk_at "lk") | (k_dflt (exact rfl)))

theorem BdH.step {s : Shared} {L : Addr} {m : Str → Option Value} {h h' : Heap} {g g' : Array GenState} {d d' : Drawn} {o o' : OsState} (B : BdH s L m h g d o) (a : AdvH h g d o h' g' d' o') : BdH s L m h' g' d' o' :=
  ⟨B.adv.trans a, ns_keep B.ns fun o e => a.keep _ o (fun q => by have := B.hi; rw [q] at this; exact absurd this (by decide)) e, B.old, B.hi, B.top⟩

section
variable {w : World} {A : Around} {E : Value → Shared → Prop} {s c : Shared} {env : Env} {mg mb : Str → Option Value} {L : Addr} {m : Str → Option Value} {Q : Value → Shared → Prop} {x : Str} {pos : Pos} {v : Value}
abbrev M (w : World) : Model := model prog w

theorem rdL {h : Heap} {g g' : Array GenState} {d d' : Drawn} {tk : Nat} {o o' : OsState} (B : BdH s L m h g d o) (hv : m x = some v) (k : Q v ⟨h, g', d', tk, o'⟩) (hL : env.locals = L := by kernel_rfl) (hk : env.scope.kind = .function := by kernel_rfl) (hl : env.kindOf x = some .local := by kernel_rfl)
    (hd : (x == ("__debug__" : Str)) = false := by kernel_rfl) : wpAny (M w) A (eval (.Name x pos) env) Q E ⟨h, g', d', tk, o'⟩ := wpAny_Name (wpAny_loadName_local (s := ⟨h, g', d', tk, o'⟩) hk hl (hL ▸ B.ns) hv k) hd
theorem rdG (G : Gl mg mb s.heap) (hv : mg x = some v) (h : Q v s) (hk : env.scope.kind = .function := by kernel_rfl) (hl : env.kindOf x = some .globalImplicit := by kernel_rfl)
    (hg : env.globals = mainGlobals := by kernel_rfl) (hd : (x == ("__debug__" : Str)) = false := by kernel_rfl) : wpAny (M w) A (eval (.Name x pos) env) Q E s :=
  Name_function_global hk hl (loadGlobal_global (hg ▸ G.g) hv h) hd
theorem rdB (G : Gl mg mb s.heap) (hm : mg x = none) (hv : bootBuiltins x = some v) (h : Q v s) (hn : x ≠ "__name__" := by decide) (hk : env.scope.kind = .function := by kernel_rfl) (hl : env.kindOf x = some .globalImplicit := by kernel_rfl)
    (hg : env.globals = mainGlobals := by kernel_rfl) (hb : env.builtins = builtinsNs := by kernel_rfl) (hd : (x == ("__debug__" : Str)) = false := by kernel_rfl) : wpAny (M w) A (eval (.Name x pos) env) Q E s :=
  Name_function_global hk hl (loadGlobal_builtin (hg ▸ G.g) hm (hb ▸ G.b) ((G.bi x hn).trans hv) h) hd
theorem stL {Q : Unit → Shared → Prop} {h : Heap} {g : Array GenState} {d : Drawn} {tk : Nat} {o : OsState} (B : BdH s L m h g d o)
    (k : ∀ h' tk', BdH s L (upd m x v) h' g d o → Heap.SameBut L h h' → Q () ⟨h', g, d, tk', o⟩)
    (hL : env.locals = L := by kernel_rfl) (hk : env.scope.kind = .function := by kernel_rfl) (hl : env.kindOf x = some .local := by kernel_rfl) : wpAny (M w) A (storeName env x v) Q E ⟨h, g, d, tk, o⟩ := by
  subst hL
  exact wpAny_storeName_local hl (s := ⟨h, g, d, tk, o⟩) B.ns (fun h' n sb => k h' _ ⟨B.adv.chg (fun b o hb e => (sb.2 b (fun q => by
      subst q; rw [B.old] at e; cases e)).trans (B.adv.keep b o hb e)) (fun b o hb e => (sb.2 b (fun q => by rw [q] at hb; exact absurd B.hi (Nat.not_le.mpr hb))).trans e),
      n, B.old, B.hi, B.top⟩ sb) (by rw [hk]; rfl)

theorem b_len : bootBuiltins "len" = some (.builtin "len") := by kernel_rfl
theorem b_range : bootBuiltins "range" = some (.type "range") := by kernel_rfl
theorem b_max : bootBuiltins "max" = some (.builtin "max") := by kernel_rfl
theorem b_min : bootBuiltins "min" = some (.builtin "min") := by kernel_rfl
theorem b_bytes : bootBuiltins "bytes" = some (.type "bytes") := by kernel_rfl
theorem b_isi : bootBuiltins "isinstance" = some (.builtin "isinstance") := by kernel_rfl
theorem b_divmod : bootBuiltins "divmod" = some (.builtin "divmod") := by kernel_rfl
theorem b_iter : bootBuiltins "iter" = some (.builtin "iter") := by kernel_rfl
theorem b_zip : bootBuiltins "zip" = some (.type "zip") := by kernel_rfl
theorem b_ie : bootBuiltins "IndexError" = some (.type "IndexError") := by kernel_rfl
theorem b_te : bootBuiltins "TypeError" = some (.type "TypeError") := by kernel_rfl

def flowV : Flow → Value
  | .ret v => v
  | _ => .none

theorem enter {f : Addr} {st : Stmt} {qual : Str} {pm code : Value} {args : List Value} {binds : List (Str × Value)} {body : List Stmt}
    (hroom : A.depth < recursionLimit) (G : Gl mg mb s.heap) (F : FnAt s.heap f st qual pm code) (hbody : fnBody st = body) (hbind : bindArgs (fd st qual pm code) ⟨args, []⟩ = pure binds)
    (hcell : ((fnScope st).names.all fun x => decide (x.2 ≠ .cell)) = true) (hloc : (binds.all fun x => decide ((fnScope st).names.lookup x.1 = some .local)) = true)
    (h : ∀ h₁ L tk A', A' = A.deeper (callEnv (fd st qual pm code) L f) → A'.depth = A.depth + 1 → A'.handled = A.handled → BdH s L (fun x => binds.reverse.lookup x) h₁ s.gens s.drawn s.os →
      wpAny (M w) A' (execs body (callEnv (fd st qual pm code) L f)) (fun f s' => Q (flowV f) s')
        (fun e s' => wpAny (M w) A' (leaving (callEnv (fd st qual pm code) L f) e) (fun _ s'' => E e s'') (fun e' s'' => E e' s'') s')
        ⟨h₁, s.gens, s.drawn, tk, s.os⟩)
    (hco : (fnScope st).isCoroutine = false := by rfl) (hgen : (fnScope st).isGenerator = false := by rfl) (hk : (fnScope st).kind = .function := by rfl) :
    wpAny (M w) A (call (.ref f) args) Q E s := by
  refine wpAny_call (codeAny_call_function (fd := fd st qual pm code) hroom F.obj rfl hco hgen rfl F.crec ?_)
  rw [hbind]
  refine wpAny_pure (wpAny_newFunctionEnv (fun x hx => of_decide_eq_true (List.all_eq_true.mp hcell x hx)) (fun x hx => of_decide_eq_true (List.all_eq_true.mp hloc x hx)) (fun h₁ n sb => ?_) hk)
  have kp : ∀ b o, s.heap.get? b = some o → h₁.get? b = some o := fun b o e => sb.extBut b o (Nat.ne_of_lt (Heap.lt_size e)) (Heap.get?_push_of_some _ e)
  refine ⟨ns_lim kp, codeAny_func ?_⟩
  rw [show fnBody st = body from hbody]
  refine wpAny_mono (h h₁ s.heap.objs.size _ _ rfl (depth_deeper ..) rfl ⟨AdvH.ext kp, n, (fresh_of (AdvH.ext fun _ _ e => e) G.top).2, (fresh_of (s := s) (AdvH.ext fun _ _ e => e) G.top).1, G.top⟩) (fun fl s' q => ?_) fun _ _ q => q
  cases fl <;> exact q
where
  ns_lim {h₁ : Heap} (kp : ∀ b o, s.heap.get? b = some o → h₁.get? b = some o) : h₁.NoLimit := let ⟨mc, a, b⟩ := G.lim; ⟨mc, ns_keep a fun o e => kp _ o e, b⟩
end

theorem cw_def {w : World} {A : Around} {E : Value → Shared → Prop} {s : Shared} {hx : Heap} {env : Env} {pos : Pos} {a : Addr} {st : Stmt} {qual : Str} {pm code : Value} {first : List Value} {e : Expr} {rest : List Expr} {Q : Value → Shared → Prop} (_F : FnAt hx a st qual pm code)
    (h : wpAny (M w) A (spliced (backTo pos (starEach (e :: rest) env))) (fun vs s₁ => FnAt s₁.heap a st qual pm code ∧ wpAny (M w) A (call (.ref a) (first ++ vs)) Q E s₁) E s)
    (he : starEach (e :: rest) env = (false, eval e env) :: starEach rest env := by kernel_rfl) :
    wpAny (M w) A (callWith pos (.ref a) first (backTo pos (starEach (e :: rest) env)) []) Q E s :=
  cw_fn (o := fnObj st qual pm code) (fd := fd st qual pm code) (wpAny_mono h (fun _ _ q => ⟨⟨q.1.obj, rfl⟩, q.2⟩) fun _ _ q => q) he

def litCell : { st : Stmt // stmtAt 19 = st } := ⟨_, by
  delta stmtAt prog PySem.Challenge.pw_aj5032_01
  dsimp only [List.getElem?_cons_succ, List.getElem?_cons_zero, Option.getD_some]⟩
abbrev stCell : Stmt := litCell.1
def bodCell : { b : List Stmt // fnBody stCell = b } := ⟨_, by delta stCell litCell; dsimp only [fnBody]⟩

def cellAt (ns : List Int) (k : Nat) : Int := ns.getD k 0


structure LstAt (h : Heap) (l : Addr) (vs : List Value) : Prop where
  is : h.IsList l vs.toArray
  hi : 262 ≤ l
theorem ne_T {a : Addr} (h : 262 ≤ a) : a ≠ T := fun e => by rw [e] at h; exact absurd h (by decide)
theorem LstAt.adv {h h' : Heap} {g g' : Array GenState} {d d' : Drawn} {o o' : OsState} {l : Addr} {vs : List Value} (x : LstAt h l vs) (a : AdvH h g d o h' g' d' o') : LstAt h' l vs :=
  ⟨let ⟨o, ho, r⟩ := x.is; ⟨o, a.keep _ _ (ne_T x.hi) ho, r⟩, x.hi⟩
theorem LstAt.same {h h' : Heap} {L l : Addr} {vs : List Value} (x : LstAt h l vs) (sb : Heap.SameBut L h h') (ne : l ≠ L) : LstAt h' l vs :=
  ⟨let ⟨o, ho, r⟩ := x.is; ⟨o, (sb.2 _ ne).trans ho, r⟩, x.hi⟩

theorem ints_len {vs : List Value} {ns : List Int} (h : IntsAre vs ns) : vs.length = ns.length := by
  induction h with
  | nil => rfl
  | cons n t _ ih => simp [ih]
theorem ints_at {vs : List Value} {ns : List Int} (h : IntsAre vs ns) : ∀ (k : Nat), k < ns.length → ∃ t, vs[k]? = some (.int (ns.getD k 0) t) := by
  induction h with
  | nil => intro k hk; exact absurd hk (Nat.not_lt_zero _)
  | cons n t _ ih =>
    intro k hk
    cases k with
    | zero => exact ⟨t, rfl⟩
    | succ k =>
      obtain ⟨t', e⟩ := ih k (by simpa using hk)
      exact ⟨t', by simpa using e⟩

set_option maxHeartbeats 4000000 in
theorem cell_ok {w : World} {A : Around} {E : Value → Shared → Prop} {s : Shared} {mg mb : Str → Option Value} {Q : Value → Shared → Prop} {f l : Addr} {pm code : Value} {vs : List Value} {ns : List Int} {k : Nat} {z : Int} {t : Tok}
    (hroom : A.depth < recursionLimit) (G : Gl mg mb s.heap) (hf : FnAt s.heap f stCell "_law_cell" pm code) (hl : LstAt s.heap l vs) (hi : IntsAre vs ns) (hm : mg "len" = none) (hfit : ns.length ≤ 63) (hk : k < 1000) (ez : z = (k : Int))
    (h : ∀ s' t', Adv s s' → Q (.int (cellAt ns k) t') s') : wpAny (M w) A (call (.ref f) [.ref l, .int z t]) Q E s := by
  subst ez
  refine enter hroom G hf bodCell.2 (binds := [("script", .ref l), ("k", .int k t)]) rfl (by decide) rfl (fun h₁ L tk A' eA dA hA B => ?_)
  have G₁ := G.adv B.adv
  have l₁ := hl.adv B.adv
  delta bodCell
  dsimp only
  walk_at "as"
  with_reducible refine rdL B rfl ?_
  walk_at "as"
  with_reducible refine rdB G₁ hm b_len ?_
  walk_at "as"
  with_reducible refine rdL B rfl ?_
  walk_at "as"
  dsimp only [List.nil_append]
  have hz : vs.toArray.size = ns.length := by simpa using ints_len hi
  refine call_len_list l₁.is (by omega) ?_
  walk_at "as"
  by_cases hlt : k < ns.length
  · rw [if_pos (by rw [hz]; simpa using hlt)]
    obtain ⟨t', e⟩ := ints_at hi k hlt
    walk_at "as"
    with_reducible refine rdL B rfl (rdL B rfl ?_)
    refine tail_any (T := "list") (id := "list.__getitem__") (let ⟨o, ho, hc, _⟩ := l₁.is; ⟨o, ho, hc⟩) slot_list_getitem.lookup ?_ (by with_unfolding_all rfl)
    refine wpAny_getItem_list l₁.is (by omega) (by omega) (by rw [Int.toNat_natCast]; simpa using e) ?_
    exact h _ _ B.adv
  · rw [if_neg (by rw [hz]; simpa using hlt)]
    refine wpAny_Constant_int ?_
    have : (0 : Int) = cellAt ns k := by unfold cellAt; rw [List.getD_eq_getElem?_getD, List.getElem?_eq_none (by omega)]; rfl
    rw [this]
    exact h _ _ B.adv
/-! F2 -/
theorem BdH.mut {s : Shared} {L a : Addr} {m : Str → Option Value} {h h' : Heap} {g : Array GenState} {d : Drawn} {o : OsState} (B : BdH s L m h g d o) (sb : Heap.SameBut a h h') (ha : s.heap.get? a = none) (ne : a ≠ L) (hi : 262 ≤ a) : BdH s L m h' g d o :=
  ⟨B.adv.chg (fun b x hb e => (sb.2 b (fun q => by subst q; rw [ha] at e; cases e)).trans (B.adv.keep b x hb e)) (fun b o hb e => (sb.2 b (fun q => by rw [q] at hb; exact absurd hi (Nat.not_le.mpr hb))).trans e),
    ns_keep B.ns fun o e => (sb.2 L (Ne.symm ne)).trans e, B.old, B.hi, B.top⟩
theorem BdH.mutE {s : Shared} {L a : Addr} {m : Str → Option Value} {h h' : Heap} {g : Array GenState} {d : Drawn} {o : OsState} (B : BdH s L m h g d o) (sb : Heap.ExtBut a h h') (ha : s.heap.get? a = none) (ne : a ≠ L) (hi : 262 ≤ a) : BdH s L m h' g d o :=
  ⟨B.adv.chg (fun b x hb e => sb b x (fun q => by subst q; rw [ha] at e; cases e) (B.adv.keep b x hb e)) (fun b o hb e => sb b o (fun q => by rw [q] at hb; exact absurd hi (Nat.not_le.mpr hb)) e),
    ns_keep B.ns fun o e => sb L o (Ne.symm ne) e, B.old, B.hi, B.top⟩

def litPlaces : { st : Stmt // stmtAt 20 = st } := ⟨_, by
  delta stmtAt prog PySem.Challenge.pw_aj5032_01
  dsimp only [List.getElem?_cons_succ, List.getElem?_cons_zero, Option.getD_some]⟩
abbrev stPlaces : Stmt := litPlaces.1
def bodPlaces : { b : List Stmt // fnBody stPlaces = b } := ⟨_, by delta stPlaces litPlaces; dsimp only [fnBody]⟩

def placeOf (ns : List Int) (way : Int) (start : Nat) (among : Int) (k : Nat) : Int :=
  if way = 0 then ((k : Int) + cellAt ns start).fmod (max among 1)
  else if way = 1 then (if among ≠ 0 then (cellAt ns (start + k)).fmod (2 * among) - among else 0)
  else if way = 2 then ((k : Int) + cellAt ns start).fmod (max among 1) - among
  else (cellAt ns (start + k)).fmod (2 * among + 2) - among - 1
def placesOf (ns : List Int) (way : Int) (start many : Nat) (among : Int) : List Int := (List.range many).map (placeOf ns way start among)

theorem ints_snoc {vs : List Value} {ns : List Int} (h : IntsAre vs ns) (n : Int) (t : Tok) : IntsAre (vs ++ [.int n t]) (ns ++ [n]) := by
  induction h with
  | nil => exact .cons n t .nil
  | cons m u _ ih => exact .cons m u ih

/-- a list of the call's own -/
structure LstIn (s : Shared) (L : Addr) (h : Heap) (l : Addr) (vs : List Value) : Prop where
  obj : ∃ n, h.get? l = some (listOf vs.toArray n)
  old : s.heap.get? l = none
  ne : l ≠ L
  hi : 262 ≤ l
theorem LstIn.same {s : Shared} {L a l : Addr} {h h' : Heap} {vs : List Value} (x : LstIn s L h l vs) (sb : Heap.SameBut a h h') (ne : l ≠ a) : LstIn s L h' l vs :=
  ⟨let ⟨n, e⟩ := x.obj; ⟨n, (sb.2 _ ne).trans e⟩, x.old, x.ne, x.hi⟩
theorem LstIn.adv {s : Shared} {L l : Addr} {h h' : Heap} {g g' : Array GenState} {d d' : Drawn} {o o' : OsState} {vs : List Value} (x : LstIn s L h l vs) (a : AdvH h g d o h' g' d' o') : LstIn s L h' l vs :=
  ⟨let ⟨n, e⟩ := x.obj; ⟨n, a.keep _ _ (ne_T x.hi) e⟩, x.old, x.ne, x.hi⟩
theorem LstIn.lst {s : Shared} {L l : Addr} {h : Heap} {vs : List Value} (x : LstIn s L h l vs) : LstAt h l vs := ⟨let ⟨n, e⟩ := x.obj; ⟨_, e, rfl, n, rfl⟩, x.hi⟩

/-- a record of the call's own (an iterator) -/
structure RecIn (s : Shared) (L : Addr) (h : Heap) (a : Addr) (x : Obj) : Prop where
  obj : h.get? a = some x
  old : s.heap.get? a = none
  ne : a ≠ L
  hi : 262 ≤ a
theorem RecIn.same {s : Shared} {L a b : Addr} {h h' : Heap} {x : Obj} (r : RecIn s L h a x) (sb : Heap.SameBut b h h') (ne : a ≠ b) : RecIn s L h' a x := ⟨(sb.2 _ ne).trans r.obj, r.old, r.ne, r.hi⟩
theorem RecIn.adv {s : Shared} {L a : Addr} {h h' : Heap} {g g' : Array GenState} {d d' : Drawn} {o o' : OsState} {x : Obj} (r : RecIn s L h a x) (k : AdvH h g d o h' g' d' o') : RecIn s L h' a x := ⟨k.keep _ _ (ne_T r.hi) r.obj, r.old, r.ne, r.hi⟩

section
variable {w : World} {A : Around} {E : Value → Shared → Prop} {s : Shared} {env : Env} {L : Addr} {m : Str → Option Value} {h : Heap} {g : Array GenState} {d : Drawn} {t : Nat} {o : OsState}
theorem app_own {l : Addr} {vs : List Value} {x : Value} {Q : Value → Shared → Prop} (B : BdH s L m h g d o) (I : LstIn s L h l vs) (hz : vs.length ≤ 1000)
    (k : ∀ h', BdH s L m h' g d o → LstIn s L h' l (vs ++ [x]) → Heap.SameBut l h h' → Q .none ⟨h', g, d, t, o⟩) : wpAny (M w) A (call (.builtin "list.append") [.ref l, x]) Q E ⟨h, g, d, t, o⟩ := by
  obtain ⟨n, e⟩ := I.obj
  refine append_at (s := ⟨h, g, d, t, o⟩) (hsz := by rw [List.size_toArray, sizeLine_eq]; omega) e fun h' sb e' => k h' (B.mut sb I.old I.ne I.hi) ⟨⟨n + 1, ?_⟩, I.old, I.ne, I.hi⟩ sb
  rw [e']; simp
theorem get_append {l : Addr} {vs : List Value} {pl : Sem Bool} {Q : Value × List Value → Shared → Prop} (I : LstIn s L h l vs) (k : Q (.builtin "list.append", [.ref l]) ⟨h, g, d, t, o⟩) :
    wpAny (M w) A (getMethod (.ref l) "append" pl) Q E ⟨h, g, d, t, o⟩ := by
  obtain ⟨n, e⟩ := I.obj
  exact getMethod_list_append (s := ⟨h, g, d, t, o⟩) e rfl rfl k
end

def rIt (i : Int) (left : Int) : Obj := { cls := .type "range_iterator", data := .fields #[rawInt i, rawInt left, rawInt 1] }

theorem iter_range {w : World} {A : Around} {E : Value → Shared → Prop} {s : Shared} {L : Addr} {m : Str → Option Value} {h : Heap} {g : Array GenState} {d : Drawn} {tk : Nat} {o : OsState} {n : Nat} {t : Tok} {Q : Value → Shared → Prop}
    (B : BdH s L m h g d o) (hn : n ≤ 1000)
    (k : ∀ h' IT tk', BdH s L m h' g d o → AdvH h g d o h' g d o → RecIn s L h' IT (rIt 0 n) → h.objs.size ≤ IT → Q (.ref IT) ⟨h', g, d, tk', o⟩) :
    wpAny (M w) A (call (.type "range") [.int n t]) (fun x s₁ => wpAny (M w) A (pyIter x) Q E s₁) E ⟨h, g, d, tk, o⟩ := by
  refine call_range_1 ?_
  refine wpAny_pyIter_range (Heap.get?_push_size _ rfl) (small_one (by decide) (by decide) (by omega) (by omega)) ?_
  have hsz : Builtin.Range.rangeSize 0 n 1 = n := by rw [rangeSize_one]; split <;> omega
  rw [hsz]
  have z := Heap.size_push h { cls := .type "range", data := .fields #[.int 0 tk, .int n t, .int 1 (tk + 1)] }
  have B' := B.step (AdvH.push { cls := .type "range", data := .fields #[.int 0 tk, .int n t, .int 1 (tk + 1)] })
  refine k _ _ _ (B'.step (AdvH.push _)) ((AdvH.push _).trans (AdvH.push _)) ⟨Heap.get?_push_size _ rfl, B'.fresh, Nat.ne_of_gt B'.new, B'.big⟩ ?_
  show _ ≤ (h.push _).objs.size; rw [z]; exact Nat.le_succ _

theorem new_list {w : World} {A : Around} {E : Value → Shared → Prop} {s : Shared} {env : Env} {L : Addr} {m : Str → Option Value} {h : Heap} {g : Array GenState} {d : Drawn} {tk : Nat} {o : OsState} {pos : Pos} {Q : Value → Shared → Prop}
    (B : BdH s L m h g d o) (k : ∀ h' D, BdH s L m h' g d o → AdvH h g d o h' g d o → LstIn s L h' D [] → h.objs.size ≤ D → Q (.ref D) ⟨h', g, d, tk, o⟩) :
    wpAny (M w) A (eval (.List [] pos) env) Q E ⟨h, g, d, tk, o⟩ := by
  refine wpAny_List (wpAny_items_nil ⟨by decide, ?_⟩)
  exact k _ _ (B.step (AdvH.push _)) (AdvH.push _) ⟨⟨0, Heap.get?_push_size _ rfl⟩, B.fresh, Nat.ne_of_gt B.new, B.big⟩ (Nat.le_refl _)

structure PlI (s : Shared) (L l D IT : Addr) (ns : List Int) (way : Int) (start many among : Nat) (t1 t2 t4 : Tok) (i : Nat) (h : Heap) (g : Array GenState) (d : Drawn) (o : OsState) : Prop where
  le : i ≤ many
  fr : ∃ m, BdH s L m h g d o ∧ m "script" = some (.ref l) ∧ m "way" = some (.int way t1) ∧ m "start" = some (.int start t2) ∧ m "among" = some (.int among t4) ∧ m "out" = some (.ref D)
  it : RecIn s L h IT (rIt i (many - i))
  out : ∃ vs, LstIn s L h D vs ∧ IntsAre vs (placesOf ns way start i among)

set_option maxHeartbeats 8000000 in
theorem places_ok {w : World} {A : Around} {E : Value → Shared → Prop} {s : Shared} {mg mb : Str → Option Value} {Q : Value → Shared → Prop} {f fc l : Addr} {pm code pmc codec : Value} {vs : List Value} {ns : List Int} {way : Int} {start many : Nat} {among : Nat} {t1 t2 t3 t4 : Tok}
    (hh : A.handled = none) (hroom : A.depth + 1 < recursionLimit) (G : Gl mg mb s.heap) (hf : FnAt s.heap f stPlaces "_law_places" pm code) (hc : FnAt s.heap fc stCell "_law_cell" pmc codec) (mc : mg "_law_cell" = some (.ref fc))
    (hl : LstAt s.heap l vs) (hi : IntsAre vs ns) (hm : mg "len" = none) (hr : mg "range" = none) (hx : mg "max" = none) (hfit : ns.length ≤ 63) (hs : start < 100) (hmany : many ≤ 9) (ha : among ≤ 9)
    (hQ : ∀ s' d us, Adv s s' → LstAt s'.heap d us → IntsAre us (placesOf ns way start many among) → Q (.ref d) s') :
    wpAny (M w) A (call (.ref f) [.ref l, .int way t1, .int start t2, .int many t3, .int among t4]) Q E s := by
  refine enter (by omega) G hf bodPlaces.2 (binds := [("script", .ref l), ("way", .int way t1), ("start", .int start t2), ("many", .int many t3), ("among", .int among t4)]) rfl (by decide) rfl (fun h₁ L tk A' eA dA hA B => ?_)
  delta bodPlaces
  dsimp only
  refine wpAny_execs_cons (wpAny_Assign_Name (new_list B fun h₁ D B a₁ l₁ z₁ => stL B fun h₂ tk₂ B₂ sb₂ => ?_))
  replace l₁ := l₁.same sb₂ l₁.ne
  walk_at "as"
  with_reducible refine rdB (G.adv B₂.adv) hr b_range ?_
  walk_at "as"
  with_reducible refine rdL B₂ (by walk_at "lk") ?_
  walk_at "as"
  dsimp only [List.nil_append]
  refine iter_range B₂ (by omega) fun h₃ IT tk₃ B₃ a₃ r₃ z₃ => ?_
  have ne : D ≠ IT := by
    obtain ⟨n, e⟩ := l₁.obj
    exact Nat.ne_of_lt (Nat.lt_of_lt_of_le (Heap.lt_size e) z₃)
  refine codeAny_forLoop_any (fun n c => ∃ i, n = many - i ∧ PlI s L l D IT ns way start many among t1 t2 t4 i c.heap c.gens c.drawn c.os) ?_ many ⟨0, rfl, Nat.zero_le _, ⟨_, B₃, by walk_at "lk", by walk_at "lk", by walk_at "lk", by walk_at "lk", by walk_at "lk"⟩, by simpa using r₃, ⟨[], l₁.adv a₃, .nil⟩⟩
  rintro n ⟨h, g, d, t, o⟩ ⟨i, rfl, le, ⟨m, B, m1, m2, m3, m4, m5⟩, r, ⟨us, I, iu⟩⟩
  dsimp only at B r I
  have hz : us.length = i := by rw [ints_len iu]; simp [placesOf]
  by_cases hlt : i < many
  · refine wpAny_pyNext_range_item (s := ⟨h, g, d, t, o⟩) (x := i) (left := (many : Int) - i) (step := 1) r.obj (by omega) fun h₄ r₄ sb₄ => ?_
    dsimp only
    replace B := B.mut sb₄ r.old r.ne r.hi
    replace I := I.same sb₄ ne
    have r₄ : RecIn s L h₄ IT (rIt (i + 1 : Nat) (many - (i + 1 : Nat))) := ⟨by rw [show ((i + 1 : Nat) : Int) = (i : Int) + 1 by omega, show (many : Int) - ((i : Int) + 1) = (many : Int) - i - 1 by omega]; exact r₄, r.old, r.ne, r.hi⟩
    with_reducible refine xLot (wpAny_assign_Name (stL B fun h₅ tk₅ B₅ sb₅ => ?_))
    replace I := I.same sb₅ I.ne
    replace r₄ := r₄.same sb₅ r₄.ne
    generalize hm6 : upd m "k" (.int i t) = m6 at B₅
    have e1 : m6 "script" = some (.ref l) := by subst hm6; walk_at "lk"
    have e2 : m6 "way" = some (.int way t1) := by subst hm6; walk_at "lk"
    have e3 : m6 "start" = some (.int start t2) := by subst hm6; walk_at "lk"
    have e4 : m6 "among" = some (.int among t4) := by subst hm6; walk_at "lk"
    have e5 : m6 "out" = some (.ref D) := by subst hm6; walk_at "lk"
    have e6 : m6 "k" = some (.int i t) := by subst hm6; walk_at "lk"
    clear hm6 m1 m2 m3 m4 m5
    have cell : ∀ {h g d t o k z tk} {Q : Value → Shared → Prop} {E : Value → Shared → Prop} {A' : Around}, BdH s L m6 h g d o → A'.depth < recursionLimit → k < 1000 → z = ((k : Nat) : Int) →
        (∀ h' g' d' tk' o' t', AdvH h g d o h' g' d' o' → BdH s L m6 h' g' d' o' → Q (.int (cellAt ns k) t') ⟨h', g', d', tk', o'⟩) →
        wpAny (M w) A' (call (.ref fc) [.ref l, .int z tk]) Q E ⟨h, g, d, t, o⟩ := fun B hr hk ez k' =>
      cell_ok (s := ⟨_, _, _, _, _⟩) hr (G.adv B.adv) (hc.adv B.adv) (hl.adv B.adv) hi hm hfit hk ez fun s' t' a => k' s'.heap s'.gens s'.drawn s'.toks s'.os t' a (B.step a)
    walk_at "as"
    with_reducible refine rdG (G.adv B₅.adv) mc ?_
    with_reducible refine cw_def hc ?_
    walk_at "as"
    with_reducible refine rdL B₅ e1 ?_
    walk_at "as"
    with_reducible refine rdL B₅ e3 ?_
    with_reducible refine rdL B₅ e6 ?_
    walk_at "as"
    dsimp only [List.nil_append]
    refine ⟨hc.adv B₅.adv, ?_⟩
    refine cell B₅ (by omega) (k := start + i) (by omega) rfl fun h₆ g₆ d₆ tk₆ o₆ t₆ a₆ B₆ => ?_
    replace I := I.adv a₆
    replace r₄ := r₄.adv a₆
    with_reducible refine stL B₆ fun h₇ tk₇ B₇ sb₇ => ?_
    replace I := I.same sb₇ I.ne
    replace r₄ := r₄.same sb₇ r₄.ne
    generalize hm7 : upd m6 "cell" (.int (cellAt ns (start + i)) t₆) = m7 at B₇
    have f1 : m7 "script" = some (.ref l) := by subst hm7; walk_at "lk"
    have f2 : m7 "way" = some (.int way t1) := by subst hm7; walk_at "lk"
    have f3 : m7 "start" = some (.int start t2) := by subst hm7; walk_at "lk"
    have f4 : m7 "among" = some (.int among t4) := by subst hm7; walk_at "lk"
    have f5 : m7 "out" = some (.ref D) := by subst hm7; walk_at "lk"
    have f6 : m7 "k" = some (.int i t) := by subst hm7; walk_at "lk"
    have f7 : m7 "cell" = some (.int (cellAt ns (start + i)) t₆) := by subst hm7; walk_at "lk"
    clear hm7 cell
    have cell : ∀ {h g d t o k z tk} {Q : Value → Shared → Prop} {E : Value → Shared → Prop} {A' : Around}, BdH s L m7 h g d o → A'.depth < recursionLimit → k < 1000 → z = ((k : Nat) : Int) →
        (∀ h' g' d' tk' o' t', AdvH h g d o h' g' d' o' → BdH s L m7 h' g' d' o' → Q (.int (cellAt ns k) t') ⟨h', g', d', tk', o'⟩) →
        wpAny (M w) A' (call (.ref fc) [.ref l, .int z tk]) Q E ⟨h, g, d, t, o⟩ := fun B hr hk ez k' =>
      cell_ok (s := ⟨_, _, _, _, _⟩) hr (G.adv B.adv) (hc.adv B.adv) (hl.adv B.adv) hi hm hfit hk ez fun s' t' a => k' s'.heap s'.gens s'.drawn s'.toks s'.os t' a (B.step a)
    have fin : ∀ {h g d o tk z t'}, BdH s L m7 h g d o → RecIn s L h IT (rIt (i + 1 : Nat) (many - (i + 1 : Nat))) → LstIn s L h D (us ++ [.int z t']) → z = placeOf ns way start among i →
        ∃ m, m < many - i ∧ ∃ j, m = many - j ∧ PlI s L l D IT ns way start many among t1 t2 t4 j (Shared.mk h g d tk o).heap g d o := fun {h g d o tk z t'} B r I e => by
      subst e
      refine ⟨many - (i + 1), by omega, i + 1, rfl, hlt, ⟨m7, B, f1, f2, f3, f4, f5⟩, r, _, I, ?_⟩
      have : placesOf ns way start (i + 1) among = placesOf ns way start i among ++ [placeOf ns way start among i] := by simp [placesOf, List.range_succ]
      rw [this]
      exact ints_snoc iu _ _
    have mx : ∀ {h g d t o tk tk'} {Q : Value → Shared → Prop} {E : Value → Shared → Prop} {A' : Around}, BdH s L m7 h g d o → A'.handled = none →
        (∀ h' tk'' t', AdvH h g d o h' g d o → BdH s L m7 h' g d o → Q (.int (max (among : Int) 1) t') ⟨h', g, d, tk'', o⟩) →
        wpAny (M w) A' (call (.builtin "max") [.int among tk, .int 1 tk']) Q E ⟨h, g, d, t, o⟩ := fun {h g d t o tk tk' Q E A'} B hh k => by
      refine max_two_ints (s := ⟨h, g, d, t, o⟩) hh fun h' tk'' kp => ?_
      have e : (if (1 : Int) > (among : Int) then Value.int 1 tk' else .int among tk) = .int (max (among : Int) 1) (if (1 : Int) > (among : Int) then tk' else tk) := by
        by_cases q : (1 : Int) > (among : Int)
        · rw [if_pos q, if_pos q, Int.max_eq_right (by omega)]
        · rw [if_neg q, if_neg q, Int.max_eq_left (by omega)]
      rw [e]
      exact k _ _ _ (AdvH.ext kp) (B.step (AdvH.ext kp))
    walk_at "as"
    with_reducible refine rdL B₇ f2 ?_
    walk_at "as"
    by_cases w0 : way = 0
    · rw [if_pos (by simpa using w0)]
      walk_at "as"
      with_reducible refine rdL B₇ f5 ?_
      with_reducible refine get_append I ?_
      walk_at "as"
      with_reducible refine rdL B₇ f6 ?_
      walk_at "as"
      with_reducible refine rdG (G.adv B₇.adv) mc (cw_def hc ?_)
      walk_at "as"
      with_reducible refine rdL B₇ f1 ?_
      walk_at "as"
      with_reducible refine rdL B₇ f3 ?_
      walk_at "as"
      dsimp only [List.nil_append]
      refine ⟨hc.adv B₇.adv, cell B₇ (by omega) (by omega) rfl fun h₈ g₈ d₈ tk₈ o₈ t₈ a₈ B₈ => ?_⟩
      replace I := I.adv a₈
      replace r₄ := r₄.adv a₈
      walk_at "as"
      with_reducible refine rdB (G.adv B₈.adv) hx b_max ?_
      walk_at "as"
      with_reducible refine rdL B₈ f4 ?_
      walk_at "as"
      dsimp only [List.nil_append]
      refine mx B₈ (hA.trans hh) fun h₉ tk₉ t₉ a₉ B₉ => ?_
      replace I := I.adv a₉
      replace r₄ := r₄.adv a₉
      with_reducible refine PyProof.Rows.mod_int' (by omega) ?_
      walk_at "as"
      refine app_own B₉ I (by omega) fun h' B' I' sb' => ?_
      repeat with_reducible refine wpAny_execs_nil ?_
      have e : (((i : Int) + cellAt ns start).fmod (max (among : Int) 1)) = placeOf ns way start among i := by simp only [placeOf, w0, if_true]
      exact fin B' (r₄.same sb' (Ne.symm ne)) I' e
    · rw [if_neg (by simpa using w0)]
      walk_at "as"
      with_reducible refine rdL B₇ f2 ?_
      walk_at "as"
      by_cases w1 : way = 1
      · rw [if_pos (by simpa using w1)]
        walk_at "as"
        with_reducible refine rdL B₇ f5 ?_
        with_reducible refine get_append I ?_
        walk_at "as"
        with_reducible refine rdL B₇ f4 ?_
        walk_at "as"
        by_cases a0 : among = 0
        · rw [if_neg (by simpa using a0)]
          walk_at "as"
          refine app_own B₇ I (by omega) fun h' B' I' sb' => ?_
          repeat with_reducible refine wpAny_execs_nil ?_
          have e : (0 : Int) = placeOf ns way start among i := by simp only [placeOf, w1, a0]; rfl
          exact fin B' (r₄.same sb' (Ne.symm ne)) I' e
        · rw [if_pos (by simpa using a0)]
          walk_at "as"
          with_reducible refine rdL B₇ f7 ?_
          walk_at "as"
          with_reducible refine rdL B₇ f4 ?_
          with_reducible refine PyProof.Rows.mul_int ?_ (by k_dflt mul_fits)
          with_reducible refine PyProof.Rows.mod_int' (by omega) ?_
          with_reducible refine rdL B₇ f4 ?_
          walk_at "as"
          refine app_own B₇ I (by omega) fun h' B' I' sb' => ?_
          repeat with_reducible refine wpAny_execs_nil ?_
          have e : (cellAt ns (start + i)).fmod (2 * among) - among = placeOf ns way start among i := by
            have : (among : Int) ≠ 0 := by omega
            simp only [placeOf, w1, this, ne_eq, not_false_eq_true, if_true]
            rfl
          exact fin B' (r₄.same sb' (Ne.symm ne)) I' e
      · rw [if_neg (by simpa using w1)]
        walk_at "as"
        with_reducible refine rdL B₇ f2 ?_
        walk_at "as"
        by_cases w2 : way = 2
        · rw [if_pos (by simpa using w2)]
          walk_at "as"
          with_reducible refine rdL B₇ f5 ?_
          with_reducible refine get_append I ?_
          walk_at "as"
          with_reducible refine rdL B₇ f6 ?_
          walk_at "as"
          with_reducible refine rdG (G.adv B₇.adv) mc (cw_def hc ?_)
          walk_at "as"
          with_reducible refine rdL B₇ f1 ?_
          walk_at "as"
          with_reducible refine rdL B₇ f3 ?_
          walk_at "as"
          dsimp only [List.nil_append]
          refine ⟨hc.adv B₇.adv, cell B₇ (by omega) (by omega) rfl fun h₈ g₈ d₈ tk₈ o₈ t₈ a₈ B₈ => ?_⟩
          replace I := I.adv a₈
          replace r₄ := r₄.adv a₈
          walk_at "as"
          with_reducible refine rdB (G.adv B₈.adv) hx b_max ?_
          walk_at "as"
          with_reducible refine rdL B₈ f4 ?_
          walk_at "as"
          dsimp only [List.nil_append]
          refine mx B₈ (hA.trans hh) fun h₉ tk₉ t₉ a₉ B₉ => ?_
          replace I := I.adv a₉
          replace r₄ := r₄.adv a₉
          with_reducible refine PyProof.Rows.mod_int' (by omega) ?_
          with_reducible refine rdL B₉ f4 ?_
          walk_at "as"
          refine app_own B₉ I (by omega) fun h' B' I' sb' => ?_
          repeat with_reducible refine wpAny_execs_nil ?_
          have e : (((i : Int) + cellAt ns start).fmod (max (among : Int) 1)) - among = placeOf ns way start among i := by simp only [placeOf, w2]; rfl
          exact fin B' (r₄.same sb' (Ne.symm ne)) I' e
        · rw [if_neg (by simpa using w2)]
          walk_at "as"
          with_reducible refine rdL B₇ f5 ?_
          with_reducible refine get_append I ?_
          walk_at "as"
          with_reducible refine rdL B₇ f7 ?_
          walk_at "as"
          with_reducible refine rdL B₇ f4 ?_
          with_reducible refine PyProof.Rows.mul_int ?_ (by k_dflt mul_fits)
          walk_at "as"
          with_reducible refine PyProof.Rows.mod_int' (by omega) ?_
          with_reducible refine rdL B₇ f4 ?_
          walk_at "as"
          refine app_own B₇ I (by omega) fun h' B' I' sb' => ?_
          repeat with_reducible refine wpAny_execs_nil ?_
          have e : (cellAt ns (start + i)).fmod (2 * among + 2) - among - 1 = placeOf ns way start among i := by simp only [placeOf, w0, w1, w2, if_false]
          exact fin B' (r₄.same sb' (Ne.symm ne)) I' e
  · have ei : i = many := by omega
    rw [ei] at iu
    refine wpAny_pyNext_range_end (s := ⟨h, g, d, t, o⟩) (x := i) (left := (many : Int) - i) (step := 1) (hA.trans hh) r.obj (by omega) fun h₄ ex => ?_
    have ex : Heap.ExtBut IT h h₄ := ex
    have B₄ := B.mutE ex r.old r.ne r.hi
    dsimp only
    walk_at "as"
    with_reducible refine rdL B₄ m5 ?_
    exact hQ ⟨_, _, _, _, _⟩ D us B₄.adv ⟨let ⟨n, e⟩ := I.obj; ⟨_, ex _ _ ne e, rfl, n, rfl⟩, I.hi⟩ iu
/-! F3 -/
def mwObj (id : String) (self : Value) : Obj := { cls := .type "method-wrapper", data := .fields #[.builtin id, self] }
def bwObj (id : String) (self : Value) : Obj := { cls := .type "builtin_function_or_method", data := .fields #[.builtin id, self] }
def bIt (b : Array UInt8) (t : Tok) (i : Nat) : Obj := { cls := .type "bytes_iterator", data := .fields #[.bytes b t, .int i 0] }

section
variable {w : World} {A : Around} {E : Value → Shared → Prop} {s : Shared} {env : Env} {pos : Pos} {Q : Value → Shared → Prop}

/-- a wrapper of a slot, or a bound built-in, is called -/
theorem cw_mw0 {a : Addr} {o : Obj} {vs : Array Value} (ho : s.heap.get? a = some o) (hc : o.cls = .type "method-wrapper" ∨ o.cls = .type "builtin_function_or_method") (hd : o.data = .fields vs)
    (h : wpAny (M w) A (call (.ref a) []) Q E s) : wpAny (M w) A (callWith pos (.ref a) [] (backTo pos (starEach [] env)) []) Q E s := by
  refine callWith_of (P := fun h => h.get? a = some o) rfl (fun h X => ⟨.machine, .inr (.inl rfl), (Looks.ld (part := none) X).andThen ?_⟩) (evalArgs_nil3 ⟨ho, h⟩)
  rw [hd]
  rcases hc with hc | hc <;> rw [hc] <;> exact .now

theorem call_bound {a : Addr} {o : Obj} {id : String} {self : Value} {args : List Value} (ho : s.heap.get? a = some o) (hc : o.cls = .type "method-wrapper" ∨ o.cls = .type "builtin_function_or_method") (hd : o.data = .fields #[.builtin id, self])
    (hk : ∀ (Q : Unit → Shared → Prop) (E : Value → Shared → Prop), Q () s → wpAny (M w) A.in1 (checkBoundCall id ⟨self :: args, []⟩) Q E s) (hq : (Code.builtin id ⟨self :: args, []⟩).quiet = true)
    (h : codeAny (M w) A (.builtin id ⟨self :: args, []⟩) (fun r s' => match r with | .ok (.ret v) => Q v s' | .ok _ => False | .error e => E e s') s) :
    wpAny (M w) A (call (.ref a) args) Q E s := by
  refine wpAny_call (codeAny_of_tree ?_)
  show wpAny _ A.in1 (callAny (.ref a) ⟨args, []⟩) _ _ s
  simp only [callAny]
  refine wpAny_bind (wpAny_load ho ?_)
  rw [hd]
  have fin : wpAny (M w) A.in1 (checkBoundCall id ⟨self :: args, []⟩ >>= fun _ => again (.builtin id ⟨self :: args, []⟩)) (fun fin s' => match fin with
      | .done f => (match (Except.ok f : Result) with | .ok (.ret v) => Q v s' | .ok _ => False | .error e => E e s')
      | .again c' => c'.quiet = true ∧ codeAny (model prog w) A c' (fun r s' => match r with | .ok (.ret v) => Q v s' | .ok _ => False | .error e => E e s') s') (fun e s' => E e s') s :=
    wpAny_bind (hk _ _ (wpAny_pure ⟨hq, h⟩))
  rcases hc with hc | hc <;> rw [hc] <;> exact fin
end

theorem chk_bnext (a : Addr) : checkBoundCall "bytes_iterator.__next__" ⟨[.ref a], []⟩ = pure () := by kernel_rfl
theorem chk_mnext (a : Addr) : checkBoundCall "map.__next__" ⟨[.ref a], []⟩ = pure () := by kernel_rfl
theorem chk_bget (b : Array UInt8) (t : Tok) (k : Int) (u : Tok) : checkBoundCall "bytes.__getitem__" ⟨[.bytes b t, .int k u], []⟩ = pure () := by kernel_rfl
theorem sig_dget : ∃ sg, Manifest.signature? "dict.__getitem__" = some sg ∧ (builtinKind "dict.__getitem__" = some .method) ∧ ∀ (a : Addr) (k : Int) (u : Tok), Bind.checkArgs "dict.__getitem__" { sg with full := s!"{Bind.lastOf "dict"}.{Bind.lastOf "dict.__getitem__"}" } ⟨[.ref a, .int k u], []⟩ = pure () :=
  ⟨⟨.oneArg, "dict.__getitem__", "__getitem__", .self, [⟨"key", .posOnly, true⟩]⟩, by kernel_rfl, by decide +kernel, fun _ _ _ => by kernel_rfl⟩
theorem sub_dict_module : isSubtype (.type "dict") (.type "module") = pure false := by rw [isSubtype_type]; kernel_rfl
theorem chk_dget {w : World} {A : Around} {s : Shared} {a : Addr} {o : Obj} {k : Int} {u : Tok} (ho : s.heap.get? a = some o) (hc : o.cls = .type "dict") (hd : ∃ es n, o.data = .dict es n) (Q : Unit → Shared → Prop) (E : Value → Shared → Prop) (h : Q () s) :
    wpAny (M w) A (checkBoundCall "dict.__getitem__" ⟨[.ref a, .int k u], []⟩) Q E s := by
  obtain ⟨sg, hs, hk, hch⟩ := sig_dget
  obtain ⟨es, n, hd⟩ := hd
  have hT : s.TypeIs (.ref a) "dict" := ⟨o, ho, hc⟩
  unfold checkBoundCall
  rw [hs, hk]
  dsimp only
  rw [if_neg (by decide)]
  refine wpAny_bind (wpAny_isInstance hT sub_dict_module ?_)
  rw [if_neg (by decide +kernel)]
  refine wpAny_bind (wpAny_bind (m := isType (.ref a)) (wpAny_bind (m := loadHead a) (wpAny_loadPart ho ?_)))
  rw [hd]
  dsimp only
  refine wpAny_pure (wpAny_pure ?_)
  rw [if_neg (by decide)]
  refine wpAny_bind (wpAny_typeOf hT ?_)
  dsimp only
  exact wpAny_of_eq (hch _ _ _) h
/-! F4 -/
local macro_rules | `(tactic| walk_at "a") => `(tactic| with_reducible refine PyProof.Rows.and_int ?_)
local macro_rules | `(tactic| walk_at "a") => `(tactic| with_reducible refine PyProof.Rows.or_int ?_)
local macro_rules | `(tactic| walk_at "a") => `(tactic| with_reducible refine PyProof.Rows.rshift_int (by decide) ?_)
local macro_rules | `(tactic| walk_at "a") => `(tactic| with_reducible refine PyProof.Rows.iadd_int ?_)

/-- moved since: all but wr kept -/
def Snc (wr : List Addr) (s₀ s : Shared) : Prop := ∃ h' tk, s = ⟨h', s₀.gens, s₀.drawn, tk, s₀.os⟩ ∧ ∀ b o, b ∉ wr → s₀.heap.get? b = some o → h'.get? b = some o
theorem Snc.refl (wr : List Addr) (s : Shared) : Snc wr s s := ⟨_, _, rfl, fun _ _ _ e => e⟩

/-- a callable that hands out f 0, f 1, .. f (n - 1) -/
structure Nx (w : World) (NV : Addr) (fp wr : List Addr) (n : Nat) (f : Nat → Int) (St : Nat → Heap → Prop) : Prop where
  sub : ∀ b ∈ wr, b ∈ fp
  frame : ∀ j h h', St j h → (∀ b ∈ fp, ∀ o, h.get? b = some o → h'.get? b = some o) → St j h'
  call : ∀ (A : Around) j h g d tk o (Q : Value → Shared → Prop) (E : Value → Shared → Prop) (pos : Pos) (env : Env), A.handled = none → j < n → St j h →
    (∀ h' tk' t, St (j + 1) h' → (∀ b x, b ∉ wr → h.get? b = some x → h'.get? b = some x) → Q (.int (f j) t) ⟨h', g, d, tk', o⟩) →
    wpAny (M w) A (callWith pos (.ref NV) [] (backTo pos (starEach [] env)) []) Q E ⟨h, g, d, tk, o⟩

def gR (wr : List Addr) : GenEnd := fun n s₀ r s => r = .ok (.ret .none) ∧ n = 0 ∧ Snc wr s₀ s
def gY (fp wr : List Addr) (Es : List Int) : Protocol := fun m s₀ v s κ => (∃ t, v = .int (Es.getD (Es.length - 1 - m) 0) t) ∧ Snc wr s₀ s ∧
  ∀ s'' : Shared, (∀ b ∈ fp, ∀ o, s.heap.get? b = some o → s''.heap.get? b = some o) → κ (.send .none) s''

/-- amid a generator's body -/
structure GS (s₀ : Shared) (L : Addr) (wr : List Addr) (St : Nat → Heap → Prop) (m : Str → Option Value) (j : Nat) (h : Heap) : Prop where
  keep : ∀ b o, b ∉ L :: wr → s₀.heap.get? b = some o → h.get? b = some o
  ns : h.Ns L m
  st : St j h

section
variable {w : World} {A : Around} {E : Value → Shared → Prop} {env : Env} {pos : Pos} {h : Heap} {g : Array GenState} {d : Drawn} {tk : Nat} {o : OsState} {L : Addr} {m : Str → Option Value} {x : Str} {v : Value}
theorem rdN {Q : Value → Shared → Prop} (n : h.Ns L m) (hv : m x = some v) (k : Q v ⟨h, g, d, tk, o⟩) (hL : env.locals = L := by kernel_rfl) (hk : env.scope.kind = .function := by kernel_rfl) (hl : env.kindOf x = some .local := by kernel_rfl)
    (hd : (x == ("__debug__" : Str)) = false := by kernel_rfl) : wpAny (M w) A (eval (.Name x pos) env) Q E ⟨h, g, d, tk, o⟩ := wpAny_Name (wpAny_loadName_local (s := ⟨h, g, d, tk, o⟩) hk hl (hL ▸ n) hv k) hd
theorem ldN {Q : Value → Shared → Prop} (n : h.Ns L m) (hv : m x = some v) (k : Q v ⟨h, g, d, tk, o⟩) (hL : env.locals = L := by kernel_rfl) (hk : env.scope.kind = .function := by kernel_rfl) (hl : env.kindOf x = some .local := by kernel_rfl) :
    wpAny (M w) A (loadName env x) Q E ⟨h, g, d, tk, o⟩ := wpAny_loadName_local (s := ⟨h, g, d, tk, o⟩) hk hl (hL ▸ n) hv k
theorem stN {Q : Unit → Shared → Prop} (n : h.Ns L m) (k : ∀ h' tk', h'.Ns L (upd m x v) → Heap.SameBut L h h' → Q () ⟨h', g, d, tk', o⟩)
    (hL : env.locals = L := by kernel_rfl) (hk : env.scope.kind = .function := by kernel_rfl) (hl : env.kindOf x = some .local := by kernel_rfl) : wpAny (M w) A (storeName env x v) Q E ⟨h, g, d, tk, o⟩ := by
  subst hL
  exact wpAny_storeName_local hl (s := ⟨h, g, d, tk, o⟩) n (fun h' n sb => k h' _ n sb) (by rw [hk]; rfl)
end

section
variable {w : World} {NV : Addr} {fp wr : List Addr} {n : Nat} {f : Nat → Int} {St : Nat → Heap → Prop} {s₀ : Shared} {L : Addr} {m : Str → Option Value} {j : Nat} {h h' : Heap} {x : Str} {v : Value}
theorem GS.store (N : Nx w NV fp wr n f St) (hL : L ∉ fp) (G : GS s₀ L wr St m j h) (n' : h'.Ns L (upd m x v)) (sb : Heap.SameBut L h h') : GS s₀ L wr St (upd m x v) j h' :=
  ⟨fun b o hb e => (sb.2 b (fun q => hb (q ▸ List.mem_cons_self ..))).trans (G.keep b o hb e), n', N.frame _ _ _ G.st fun b hb o e => (sb.2 b (fun q => hL (q ▸ hb))).trans e⟩
theorem GS.moved {i : Nat} (N : Nx w NV fp wr n f St) (hL : L ∉ fp) (G : GS s₀ L wr St m j h) (st : St i h') (k : ∀ b x, b ∉ wr → h.get? b = some x → h'.get? b = some x) : GS s₀ L wr St m i h' :=
  ⟨fun b o hb e => k b o (fun q => hb (List.mem_cons_of_mem _ q)) (G.keep b o hb e), ns_keep G.ns fun o e => k L o (fun q => hL (N.sub _ q)) e, st⟩
theorem GS.snc (G : GS s₀ L wr St m j h) (tk : Nat) : Snc (L :: wr) s₀ ⟨h, s₀.gens, s₀.drawn, tk, s₀.os⟩ := ⟨h, tk, rfl, G.keep⟩
theorem GS.again (N : Nx w NV fp wr n f St) (G : GS s₀ L wr St m j h) {s'' : Shared} (k : ∀ b ∈ L :: fp, ∀ o, h.get? b = some o → s''.heap.get? b = some o) : GS s'' L wr St m j s''.heap :=
  ⟨fun _ _ _ e => e, ns_keep G.ns fun o e => k L (List.mem_cons_self ..) o e, N.frame _ _ _ G.st fun b hb o e => k b (List.mem_cons_of_mem _ hb) o e⟩
end

section
variable {w : World} {A : Around} {NV : Addr} {fp wr : List Addr} {nn : Nat} {f : Nat → Int} {St : Nat → Heap → Prop} {s₀ : Shared} {L : Addr} {m : Str → Option Value} {j : Nat} {h : Heap} {tk : Nat} {env : Env} {Es : List Int}
  {K : Flow → Sem PySem.Fin} {H : Value → Sem PySem.Fin} {c : Code} {fs : List Frame} {k : Nat} {rest : List Stmt}

theorem sg_next {x : Str} {px np cp ap : Pos} (N : Nx w NV fp wr nn f St) (hL : L ∉ fp) (G : GS s₀ L wr St m j h) (hj : j < nn) (hv : m "next_value" = some (.ref NV)) (hh : (A.over c fs).handled = none)
    (hq : ∀ h' tk' t, GS s₀ L wr St (upd m x (.int (f j) t)) (j + 1) h' → Seg (M w) A (gR (L :: wr)) (gY (L :: fp) (L :: wr) Es) k s₀ c ((execs rest env).wrap K H id id) fs ⟨h', s₀.gens, s₀.drawn, tk', s₀.os⟩)
    (e1 : env.locals = L := by kernel_rfl) (e2 : env.scope.kind = .function := by kernel_rfl) (e3 : env.kindOf x = some .local := by kernel_rfl) (e4 : env.kindOf "next_value" = some .local := by kernel_rfl) :
    Seg (M w) A (gR (L :: wr)) (gY (L :: fp) (L :: wr) Es) k s₀ c ((execs (.Assign [.Name x px] (.Call (.Name "next_value" np) [] [] cp) ap :: rest) env).wrap K H id id) fs ⟨h, s₀.gens, s₀.drawn, tk, s₀.os⟩ := by
  refine seg_execs_cons (seg_wrap ?_)
  refine xAssign (wpAny_Call_NameR (rdN G.ns hv ?_ e1 e2 e4)) (by rfl)
  refine N.call _ j h _ _ _ _ _ _ _ _ hh hj G.st fun h' tk' t st kp => ?_
  have G' := G.moved N hL st kp
  refine stN G'.ns (fun h₂ tk₂ n₂ sb₂ => ?_) e1 e2 e3
  exact hq h₂ tk₂ t (G'.store N hL n₂ sb₂)

theorem at_pre {pre : List Int} {y : Int} {ys : List Int} : (pre ++ y :: ys).getD ((pre ++ y :: ys).length - 1 - ys.length) 0 = y := by
  have : (pre ++ y :: ys).length - 1 - ys.length = pre.length := by simp
  rw [this, List.getD_eq_getElem?_getD, List.getElem?_append_right (Nat.le_refl _)]
  simp

theorem sg_yield {e : Expr} {y : Int} {ys : List Int} {yp ap : Pos} (N : Nx w NV fp wr nn f St) (G : GS s₀ L wr St m j h) (hp : ∃ pre, Es = pre ++ y :: ys)
    (he : ∀ (A' : Around) tk (g : Array GenState) (d : Drawn) (o : OsState) (Q : Value → Shared → Prop) (E : Value → Shared → Prop), (∀ tk' t, Q (.int y t) ⟨h, g, d, tk', o⟩) → wpAny (M w) A' (eval e env) Q E ⟨h, g, d, tk, o⟩)
    (hfs : splitAtGen fs = none) (hfg : fs.any Frame.guarded = false)
    (hq : ∀ s'' : Shared, GS s'' L wr St m j s''.heap → (∃ pre, Es = pre ++ ys) → Seg (M w) A (gR (L :: wr)) (gY (L :: fp) (L :: wr) Es) ys.length s'' c ((execs rest env).wrap K H id id) fs s'')
    (e1 : env.scope.isCoroutine = false := by kernel_rfl) (e2 : interactive env = false := by kernel_rfl) :
    Seg (M w) A (gR (L :: wr)) (gY (L :: fp) (L :: wr) Es) (y :: ys).length s₀ c ((execs (.Expr (.Yield (some e) yp) ap :: rest) env).wrap K H id id) fs ⟨h, s₀.gens, s₀.drawn, tk, s₀.os⟩ := by
  obtain ⟨pre, hp⟩ := hp
  show Seg _ _ _ _ (ys.length + 1) _ _ _ _ _
  refine seg_execs_cons (seg_Expr_Yield hfs rfl hfg ?_ e1 e2)
  refine he _ _ _ _ _ _ _ fun tk' t => ?_
  intro kap hk
  refine ⟨⟨t, by rw [hp, at_pre]⟩, G.snc _, fun s'' al => hk .none s'' ?_⟩
  exact hq s'' (G.again N al) ⟨pre ++ [y], by simp [hp]⟩
end

theorem seg_If {M : Model} {A : Around} {R : GenEnd} {Y : Protocol} {n : Nat} {s₀ s : Shared} {c : Code} {fs : List Frame} {test : Expr} {body orelse : List Stmt} {pos : Pos} {env : Env} {K : Flow → Sem PySem.Fin} {H : Value → Sem PySem.Fin} {gd lv}
    (h : wpAny M (A.over c fs) (isTrue test env (eval test env)) (fun b s' => Seg M A R Y n s₀ c ((execs (if b = true then body else orelse) env).wrap K H gd lv) fs s')
      (fun x s' => Seg M A R Y n s₀ c (H x) fs s') s) : Seg M A R Y n s₀ c ((exec (.If test body orelse pos) env).wrap K H gd lv) fs s := by
  refine seg_at ?_
  show Seg _ _ _ _ _ _ _ (((isTrue test env (eval test env)).bind (fun b => if b = true then execs body env else execs orelse env)).wrap K H gd lv) _ _
  rw [Sem.bind_eq_wrap, Sem.wrap_wrap]
  refine seg_wrap (wpAny_mono h (fun b s' hb => ?_) fun x s' hx => hx)
  cases b <;> exact hb

/-- what the four generators hand out -/
def yl (g3 : Int → Int → Int → List Int) (t1 : Int → List Int) (t2 : Int → Int → List Int) (f : Nat → Int) : Nat → Nat → Nat → List Int
  | c + 1, j, t => g3 (f j) (f (j + 1)) (f (j + 2)) ++ yl g3 t1 t2 f c (j + 3) t
  | 0, j, 1 => t1 (f j)
  | 0, j, 2 => t2 (f j) (f (j + 1))
  | 0, _, _ => []
abbrev sh (a n : Int) : Int := a * 2 ^ n.toNat
abbrev sr (a n : Int) : Int := a.fdiv (2 ^ n.toNat)
def el3 (a b c : Int) : List Int := [Builtin.bitAnd a 63, Builtin.bitOr (sh (Builtin.bitAnd b 15) 2) (sr a 6), Builtin.bitOr (sh (Builtin.bitAnd c 3) 4) (sr b 4), sr c 2]
def el1 (a : Int) : List Int := [Builtin.bitAnd a 63, sr a 6]
def el2 (a b : Int) : List Int := [Builtin.bitAnd a 63, Builtin.bitOr (sh (Builtin.bitAnd b 15) 2) (sr a 6), sr b 4]
abbrev elL := yl el3 el1 el2

theorem and_small {a m : Int} (ha : 0 ≤ a ∧ a < 256) (hm : 0 ≤ m) (hm2 : m < 64) : (Builtin.bitAnd a m).natAbs < 2 ^ 64 := by
  rw [bitAnd_pp ha.1 hm]
  have : a.toNat &&& m.toNat ≤ m.toNat := Nat.and_le_right
  omega
theorem raw_small {a : Int} (ha : 0 ≤ a ∧ a < 256) : a.natAbs < 2 ^ 64 := by omega
local macro_rules | `(tactic| walk_at "gx") => `(tactic| repeat (first
  | walk_at "a"
  | with_reducible refine rdN (GS.ns ‹_›) (by assumption) ?_
  | with_reducible refine PyProof.Rows.lshift_int_small (by decide) (by decide) (by first | exact and_small (by first | assumption | apply_assumption) (by decide) (by decide) | exact raw_small (by first | assumption | apply_assumption)) ?_))

def litEL : { st : Stmt // methAt 9 = st } := ⟨_, by
  delta methAt stmtAt prog PySem.Challenge.pw_aj5032_01
  dsimp only [List.getElem?_cons_succ, List.getElem?_cons_zero, Option.getD_some, clsBody]⟩
abbrev stEL : Stmt := litEL.1
def bodEL : { b : List Stmt // fnBody stEL = b } := ⟨_, by delta stEL litEL; dsimp only [fnBody]⟩

set_option maxHeartbeats 8000000 in
theorem el_seg {w : World} {A : Around} {NV : Addr} {fp wr : List Addr} {nn : Nat} {f : Nat → Int} {St : Nat → Heap → Prop} {s : Shared} {L fa : Addr} {m : Str → Option Value} {pm code self : Value} {chunks tl : Nat} {t1 t2 : Tok}
    (hh : A.handled = none) (N : Nx w NV fp wr nn f St) (hf : ∀ k, 0 ≤ f k ∧ f k < 256) (hL : L ∉ fp) (hn : 3 * chunks + tl ≤ nn) (ht : tl ≤ 2) (n : s.heap.Ns L m) (st : St 0 s.heap)
    (m1 : m "next_value" = some (.ref NV)) (m2 : m "chunks" = some (.int chunks t1)) (m3 : m "tail" = some (.int tl t2)) :
    Seg (M w) A (gR (L :: wr)) (gY (L :: fp) (L :: wr) (elL f chunks 0 tl)) (elL f chunks 0 tl).length s (.func bodEL.1 (callEnv (fd stEL "Base64Engine._encode_bytes_little" pm code) L fa)) ((M w).den (.func bodEL.1 (callEnv (fd stEL "Base64Engine._encode_bytes_little" pm code) L fa))) [] s := by
  refine seg_func ?_
  generalize hc : Code.func bodEL.1 (callEnv (fd stEL "Base64Engine._encode_bytes_little" pm code) L fa) = c0
  have hh0 : (A.over c0 []).handled = none := by simpa [Around.over, marksOver] using hh
  clear hc
  delta bodEL
  dsimp only
  have G : GS s L wr St m 0 s.heap := ⟨fun _ _ _ e => e, n, st⟩
  refine seg_execs_cons (seg_wrap (xAssign (wpAny_Constant_int (stN (d := s.drawn) n (fun h₁ tk₁ n₁ sb₁ => ?_)))))
  replace G := G.store N hL n₁ sb₁
  refine seg_execs_cons (seg_While fun p => ?_)
  obtain ⟨c, hc⟩ : ∃ c, c = chunks := ⟨_, rfl⟩
  obtain ⟨i, hi⟩ : ∃ i, i = 0 := ⟨_, rfl⟩
  generalize hEs : elL f chunks 0 tl = Es
  have e : Es.length = (elL f c (3 * i) tl).length := by rw [hc, hi, ← hEs]
  rw [e]
  have hp : ∃ pre, Es = pre ++ elL f c (3 * i) tl := ⟨[], by rw [hc, hi, ← hEs]; rfl⟩
  have hic : i + c = chunks := by rw [hc, hi]; omega
  generalize hm : upd m "idx" (.int 0 s.toks) = m' at n₁ G
  have f1 : m' "next_value" = some (.ref NV) := by subst hm; walk_at "lk"
  have f2 : m' "chunks" = some (.int chunks t1) := by subst hm; walk_at "lk"
  have f3 : m' "tail" = some (.int tl t2) := by subst hm; walk_at "lk"
  have f4 : ∃ t, m' "idx" = some (.int i t) := ⟨s.toks, by subst hm; rw [hi]; walk_at "lk"⟩
  replace G : GS s L wr St m' (3 * i) h₁ := by rw [hi]; exact G
  clear hm e hi hc n₁ sb₁ m1 m2 m3 n st hEs
  induction c generalizing i s m' h₁ tk₁ with
  | zero =>
    refine seg_whileLoop ?_
    obtain ⟨ti, f4⟩ := f4
    walk_at "as"
    refine rdN G.ns f4 (rdN G.ns f2 ?_)
    walk_at "as"
    rw [if_neg (by simp; omega)]
    refine seg_execs_nil ?_
    refine seg_leaf (.ok .next) ?_
    refine seg_execs_cons (seg_If ?_)
    walk_at "as"
    refine rdN G.ns f3 ?_
    walk_at "as"
    obtain rfl | rfl | rfl : tl = 0 ∨ tl = 1 ∨ tl = 2 := by omega
    · rw [if_neg (by decide)]
      refine seg_execs_nil (seg_execs_nil (seg_end (.ok (.ret .none)) ?_))
      exact ⟨rfl, rfl, G.snc _⟩
    · rw [if_pos (by decide)]
      refine sg_next N hL G (by omega) f1 hh0 fun h₂ tk₂ u₁ G => ?_
      refine seg_execs_cons (seg_If ?_)
      walk_at "as"
      refine rdN G.ns (by walk_at "lk") ?_
      walk_at "as"
      rw [if_pos (by decide)]
      generalize hm : upd _ "v1" _ = m4 at G
      have v1 : m4 "v1" = some (.int (f (3 * i)) u₁) := by subst hm; walk_at "lk"
      clear hm f1 f2 f3 f4
      have hl : elL f 0 (3 * i) 1 = _ :: _ :: [] := rfl
      rw [hl] at hp ⊢
      refine sg_yield N G hp ?_ rfl rfl fun s₁ G hp => ?_
      · intro A' tk g d o Q E k
        walk_at "gx"
        exact k _ _
      refine sg_yield N G hp ?_ rfl rfl fun s₁ G hp => ?_
      · intro A' tk g d o Q E k
        walk_at "gx"
        exact k _ _
      refine seg_execs_nil (seg_execs_nil (seg_execs_nil (seg_end (.ok (.ret .none)) ?_)))
      exact ⟨rfl, rfl, G.snc _⟩
    · rw [if_pos (by decide)]
      refine sg_next N hL G (by omega) f1 hh0 fun h₂ tk₂ u₁ G => ?_
      refine seg_execs_cons (seg_If ?_)
      walk_at "as"
      refine rdN G.ns (by walk_at "lk") ?_
      walk_at "as"
      rw [if_neg (by decide)]
      refine seg_execs_cons (seg_wrap (wpAny_Assert_holds ?_))
      walk_at "as"
      refine rdN G.ns (by walk_at "lk") ?_
      walk_at "as"
      refine ⟨rfl, ?_⟩
      refine sg_next N hL G (by omega) (by walk_at "lk") hh0 fun h₂ tk₂ u₂ G => ?_
      generalize hm : upd _ "v2" _ = m4 at G
      have v1 : m4 "v1" = some (.int (f (3 * i)) u₁) := by subst hm; walk_at "lk"
      have v2 : m4 "v2" = some (.int (f (3 * i + 1)) u₂) := by subst hm; walk_at "lk"
      clear hm f1 f2 f3 f4
      have hl : elL f 0 (3 * i) 2 = _ :: _ :: _ :: [] := rfl
      rw [hl] at hp ⊢
      refine sg_yield N G hp ?_ rfl rfl fun s₁ G hp => ?_
      · intro A' tk g d o Q E k
        walk_at "gx"
        exact k _ _
      refine sg_yield N G hp ?_ rfl rfl fun s₁ G hp => ?_
      · intro A' tk g d o Q E k
        walk_at "gx"
        exact k _ _
      refine sg_yield N G hp ?_ rfl rfl fun s₁ G hp => ?_
      · intro A' tk g d o Q E k
        walk_at "gx"
        exact k _ _
      refine seg_execs_nil (seg_execs_nil (seg_execs_nil (seg_end (.ok (.ret .none)) ?_)))
      exact ⟨rfl, rfl, G.snc _⟩
  | succ c ih =>
    refine seg_whileLoop ?_
    obtain ⟨ti, f4⟩ := f4
    walk_at "as"
    refine rdN G.ns f4 (rdN G.ns f2 ?_)
    walk_at "as"
    rw [if_pos (by simp; omega)]
    refine sg_next N hL G (by omega) f1 hh fun h₂ tk₂ u₁ G => ?_
    refine sg_next N hL G (by omega) (by walk_at "lk") hh fun h₃ tk₃ u₂ G => ?_
    refine sg_next N hL G (by omega) (by walk_at "lk") hh fun h₄ tk₄ u₃ G => ?_
    generalize hm : upd _ "v3" _ = m4 at G
    have g1 : m4 "next_value" = some (.ref NV) := by subst hm; walk_at "lk"
    have g2 : m4 "chunks" = some (.int chunks t1) := by subst hm; walk_at "lk"
    have g3 : m4 "tail" = some (.int tl t2) := by subst hm; walk_at "lk"
    have g4 : m4 "idx" = some (.int i ti) := by subst hm; walk_at "lk"
    have v1 : m4 "v1" = some (.int (f (3 * i)) u₁) := by subst hm; walk_at "lk"
    have v2 : m4 "v2" = some (.int (f (3 * i + 1)) u₂) := by subst hm; walk_at "lk"
    have v3 : m4 "v3" = some (.int (f (3 * i + 2)) u₃) := by subst hm; walk_at "lk"
    clear hm f1 f2 f3 f4
    have hl : elL f (c + 1) (3 * i) tl = _ :: _ :: _ :: _ :: elL f c (3 * i + 3) tl := rfl
    rw [hl] at hp ⊢
    refine sg_yield N G hp ?_ rfl rfl fun s₁ G hp => ?_
    · intro A' tk g d o Q E k
      walk_at "gx"
      exact k _ _
    refine sg_yield N G hp ?_ rfl rfl fun s₁ G hp => ?_
    · intro A' tk g d o Q E k
      walk_at "gx"
      exact k _ _
    refine sg_yield N G hp ?_ rfl rfl fun s₁ G hp => ?_
    · intro A' tk g d o Q E k
      walk_at "gx"
      exact k _ _
    refine sg_yield N G hp ?_ rfl rfl fun s₁ G hp => ?_
    · intro A' tk g d o Q E k
      walk_at "gx"
      exact k _ _
    refine seg_execs_cons (seg_wrap ?_)
    refine wpAny_AugAssign_Name ?_
    refine ldN G.ns g4 ?_
    walk_at "as"
    refine stN G.ns (fun h₅ tk₅ n₅ sb₅ => ?_)
    replace G := G.store N hL n₅ sb₅
    refine seg_execs_nil ?_
    refine seg_again rfl ?_
    generalize hm : upd m4 "idx" _ = m5 at G
    exact ih (tk₁ := tk₅) (i := i + 1) (hp := hp) (hic := by omega) (f1 := by subst hm; walk_at "lk") (f2 := by subst hm; walk_at "lk") (f3 := by subst hm; walk_at "lk") (f4 := ⟨_, by subst hm; walk_at "lk"⟩) (G := G)
/-! F5 -/
def eb3 (a b c : Int) : List Int := [sr a 2, Builtin.bitOr (sh (Builtin.bitAnd a 3) 4) (sr b 4), Builtin.bitOr (sh (Builtin.bitAnd b 15) 2) (sr c 6), Builtin.bitAnd c 63]
def eb1 (a : Int) : List Int := [sr a 2, sh (Builtin.bitAnd a 3) 4]
def eb2 (a b : Int) : List Int := [sr a 2, Builtin.bitOr (sh (Builtin.bitAnd a 3) 4) (sr b 4), sh (Builtin.bitAnd b 15) 2]
abbrev ebL := yl eb3 eb1 eb2
/-- what the two decoders hand out -/
def zl (g4 : Int → Int → Int → Int → List Int) (t2 : Int → Int → List Int) (t3 : Int → Int → Int → List Int) (f : Nat → Int) : Nat → Nat → Nat → List Int
  | c + 1, j, t => g4 (f j) (f (j + 1)) (f (j + 2)) (f (j + 3)) ++ zl g4 t2 t3 f c (j + 4) t
  | 0, j, 2 => t2 (f j) (f (j + 1))
  | 0, j, 3 => t3 (f j) (f (j + 1)) (f (j + 2))
  | 0, _, _ => []
def dl4 (a b c d : Int) : List Int := [Builtin.bitOr a (sh (Builtin.bitAnd b 3) 6), Builtin.bitOr (sr b 2) (sh (Builtin.bitAnd c 15) 4), Builtin.bitOr (sr c 4) (sh d 2)]
def dl2 (a b : Int) : List Int := [Builtin.bitOr a (sh (Builtin.bitAnd b 3) 6)]
def dl3 (a b c : Int) : List Int := [Builtin.bitOr a (sh (Builtin.bitAnd b 3) 6), Builtin.bitOr (sr b 2) (sh (Builtin.bitAnd c 15) 4)]
abbrev dlL := zl dl4 dl2 dl3
def db4 (a b c d : Int) : List Int := [Builtin.bitOr (sh a 2) (sr b 4), Builtin.bitOr (sh (Builtin.bitAnd b 15) 4) (sr c 2), Builtin.bitOr (sh (Builtin.bitAnd c 3) 6) d]
def db2 (a b : Int) : List Int := [Builtin.bitOr (sh a 2) (sr b 4)]
def db3 (a b c : Int) : List Int := [Builtin.bitOr (sh a 2) (sr b 4), Builtin.bitOr (sh (Builtin.bitAnd b 15) 4) (sr c 2)]
abbrev dbL := zl db4 db2 db3

def litEB : { st : Stmt // methAt 10 = st } := ⟨_, by
  delta methAt stmtAt prog PySem.Challenge.pw_aj5032_01
  dsimp only [List.getElem?_cons_succ, List.getElem?_cons_zero, Option.getD_some, clsBody]⟩
abbrev stEB : Stmt := litEB.1
def bodEB : { b : List Stmt // fnBody stEB = b } := ⟨_, by delta stEB litEB; dsimp only [fnBody]⟩

set_option maxHeartbeats 8000000 in
theorem eb_seg {w : World} {A : Around} {NV : Addr} {fp wr : List Addr} {nn : Nat} {f : Nat → Int} {St : Nat → Heap → Prop} {s : Shared} {L fa : Addr} {m : Str → Option Value} {pm code self : Value} {chunks tl : Nat} {t1 t2 : Tok}
    (hh : A.handled = none) (N : Nx w NV fp wr nn f St) (hf : ∀ k, 0 ≤ f k ∧ f k < 256) (hL : L ∉ fp) (hn : 3 * chunks + tl ≤ nn) (ht : tl ≤ 2) (n : s.heap.Ns L m) (st : St 0 s.heap)
    (m1 : m "next_value" = some (.ref NV)) (m2 : m "chunks" = some (.int chunks t1)) (m3 : m "tail" = some (.int tl t2)) :
    Seg (M w) A (gR (L :: wr)) (gY (L :: fp) (L :: wr) (ebL f chunks 0 tl)) (ebL f chunks 0 tl).length s (.func bodEB.1 (callEnv (fd stEB "Base64Engine._encode_bytes_big" pm code) L fa)) ((M w).den (.func bodEB.1 (callEnv (fd stEB "Base64Engine._encode_bytes_big" pm code) L fa))) [] s := by
  refine seg_func ?_
  generalize hc : Code.func bodEB.1 (callEnv (fd stEB "Base64Engine._encode_bytes_big" pm code) L fa) = c0
  have hh0 : (A.over c0 []).handled = none := by simpa [Around.over, marksOver] using hh
  clear hc
  delta bodEB
  dsimp only
  have G : GS s L wr St m 0 s.heap := ⟨fun _ _ _ e => e, n, st⟩
  refine seg_execs_cons (seg_wrap (xAssign (wpAny_Constant_int (stN (d := s.drawn) n (fun h₁ tk₁ n₁ sb₁ => ?_)))))
  replace G := G.store N hL n₁ sb₁
  refine seg_execs_cons (seg_While fun p => ?_)
  obtain ⟨c, hc⟩ : ∃ c, c = chunks := ⟨_, rfl⟩
  obtain ⟨i, hi⟩ : ∃ i, i = 0 := ⟨_, rfl⟩
  generalize hEs : ebL f chunks 0 tl = Es
  have e : Es.length = (ebL f c (3 * i) tl).length := by rw [hc, hi, ← hEs]
  rw [e]
  have hp : ∃ pre, Es = pre ++ ebL f c (3 * i) tl := ⟨[], by rw [hc, hi, ← hEs]; rfl⟩
  have hic : i + c = chunks := by rw [hc, hi]; omega
  generalize hm : upd m "idx" (.int 0 s.toks) = m' at n₁ G
  have f1 : m' "next_value" = some (.ref NV) := by subst hm; walk_at "lk"
  have f2 : m' "chunks" = some (.int chunks t1) := by subst hm; walk_at "lk"
  have f3 : m' "tail" = some (.int tl t2) := by subst hm; walk_at "lk"
  have f4 : ∃ t, m' "idx" = some (.int i t) := ⟨s.toks, by subst hm; rw [hi]; walk_at "lk"⟩
  replace G : GS s L wr St m' (3 * i) h₁ := by rw [hi]; exact G
  clear hm e hi hc n₁ sb₁ m1 m2 m3 n st hEs
  induction c generalizing i s m' h₁ tk₁ with
  | zero =>
    refine seg_whileLoop ?_
    obtain ⟨ti, f4⟩ := f4
    walk_at "as"
    refine rdN G.ns f4 (rdN G.ns f2 ?_)
    walk_at "as"
    rw [if_neg (by simp; omega)]
    refine seg_execs_nil ?_
    refine seg_leaf (.ok .next) ?_
    refine seg_execs_cons (seg_If ?_)
    walk_at "as"
    refine rdN G.ns f3 ?_
    walk_at "as"
    obtain rfl | rfl | rfl : tl = 0 ∨ tl = 1 ∨ tl = 2 := by omega
    · rw [if_neg (by decide)]
      refine seg_execs_nil (seg_execs_nil (seg_end (.ok (.ret .none)) ?_))
      exact ⟨rfl, rfl, G.snc _⟩
    · rw [if_pos (by decide)]
      refine sg_next N hL G (by omega) f1 hh0 fun h₂ tk₂ u₁ G => ?_
      refine seg_execs_cons (seg_If ?_)
      walk_at "as"
      refine rdN G.ns (by walk_at "lk") ?_
      walk_at "as"
      rw [if_pos (by decide)]
      generalize hm : upd _ "v1" _ = m4 at G
      have v1 : m4 "v1" = some (.int (f (3 * i)) u₁) := by subst hm; walk_at "lk"
      clear hm f1 f2 f3 f4
      have hl : ebL f 0 (3 * i) 1 = _ :: _ :: [] := rfl
      rw [hl] at hp ⊢
      refine sg_yield N G hp ?_ rfl rfl fun s₁ G hp => ?_
      · intro A' tk g d o Q E k
        walk_at "gx"
        exact k _ _
      refine sg_yield N G hp ?_ rfl rfl fun s₁ G hp => ?_
      · intro A' tk g d o Q E k
        walk_at "gx"
        exact k _ _
      refine seg_execs_nil (seg_execs_nil (seg_execs_nil (seg_end (.ok (.ret .none)) ?_)))
      exact ⟨rfl, rfl, G.snc _⟩
    · rw [if_pos (by decide)]
      refine sg_next N hL G (by omega) f1 hh0 fun h₂ tk₂ u₁ G => ?_
      refine seg_execs_cons (seg_If ?_)
      walk_at "as"
      refine rdN G.ns (by walk_at "lk") ?_
      walk_at "as"
      rw [if_neg (by decide)]
      refine seg_execs_cons (seg_wrap (wpAny_Assert_holds ?_))
      walk_at "as"
      refine rdN G.ns (by walk_at "lk") ?_
      walk_at "as"
      refine ⟨rfl, ?_⟩
      refine sg_next N hL G (by omega) (by walk_at "lk") hh0 fun h₂ tk₂ u₂ G => ?_
      generalize hm : upd _ "v2" _ = m4 at G
      have v1 : m4 "v1" = some (.int (f (3 * i)) u₁) := by subst hm; walk_at "lk"
      have v2 : m4 "v2" = some (.int (f (3 * i + 1)) u₂) := by subst hm; walk_at "lk"
      clear hm f1 f2 f3 f4
      have hl : ebL f 0 (3 * i) 2 = _ :: _ :: _ :: [] := rfl
      rw [hl] at hp ⊢
      refine sg_yield N G hp ?_ rfl rfl fun s₁ G hp => ?_
      · intro A' tk g d o Q E k
        walk_at "gx"
        exact k _ _
      refine sg_yield N G hp ?_ rfl rfl fun s₁ G hp => ?_
      · intro A' tk g d o Q E k
        walk_at "gx"
        exact k _ _
      refine sg_yield N G hp ?_ rfl rfl fun s₁ G hp => ?_
      · intro A' tk g d o Q E k
        walk_at "gx"
        exact k _ _
      refine seg_execs_nil (seg_execs_nil (seg_execs_nil (seg_end (.ok (.ret .none)) ?_)))
      exact ⟨rfl, rfl, G.snc _⟩
  | succ c ih =>
    refine seg_whileLoop ?_
    obtain ⟨ti, f4⟩ := f4
    walk_at "as"
    refine rdN G.ns f4 (rdN G.ns f2 ?_)
    walk_at "as"
    rw [if_pos (by simp; omega)]
    refine sg_next N hL G (by omega) f1 hh fun h₂ tk₂ u₁ G => ?_
    refine sg_next N hL G (by omega) (by walk_at "lk") hh fun h₃ tk₃ u₂ G => ?_
    refine sg_next N hL G (by omega) (by walk_at "lk") hh fun h₄ tk₄ u₃ G => ?_
    generalize hm : upd _ "v3" _ = m4 at G
    have g1 : m4 "next_value" = some (.ref NV) := by subst hm; walk_at "lk"
    have g2 : m4 "chunks" = some (.int chunks t1) := by subst hm; walk_at "lk"
    have g3 : m4 "tail" = some (.int tl t2) := by subst hm; walk_at "lk"
    have g4 : m4 "idx" = some (.int i ti) := by subst hm; walk_at "lk"
    have v1 : m4 "v1" = some (.int (f (3 * i)) u₁) := by subst hm; walk_at "lk"
    have v2 : m4 "v2" = some (.int (f (3 * i + 1)) u₂) := by subst hm; walk_at "lk"
    have v3 : m4 "v3" = some (.int (f (3 * i + 2)) u₃) := by subst hm; walk_at "lk"
    clear hm f1 f2 f3 f4
    have hl : ebL f (c + 1) (3 * i) tl = _ :: _ :: _ :: _ :: ebL f c (3 * i + 3) tl := rfl
    rw [hl] at hp ⊢
    refine sg_yield N G hp ?_ rfl rfl fun s₁ G hp => ?_
    · intro A' tk g d o Q E k
      walk_at "gx"
      exact k _ _
    refine sg_yield N G hp ?_ rfl rfl fun s₁ G hp => ?_
    · intro A' tk g d o Q E k
      walk_at "gx"
      exact k _ _
    refine sg_yield N G hp ?_ rfl rfl fun s₁ G hp => ?_
    · intro A' tk g d o Q E k
      walk_at "gx"
      exact k _ _
    refine sg_yield N G hp ?_ rfl rfl fun s₁ G hp => ?_
    · intro A' tk g d o Q E k
      walk_at "gx"
      exact k _ _
    refine seg_execs_cons (seg_wrap ?_)
    refine wpAny_AugAssign_Name ?_
    refine ldN G.ns g4 ?_
    walk_at "as"
    refine stN G.ns (fun h₅ tk₅ n₅ sb₅ => ?_)
    replace G := G.store N hL n₅ sb₅
    refine seg_execs_nil ?_
    refine seg_again rfl ?_
    generalize hm : upd m4 "idx" _ = m5 at G
    exact ih (tk₁ := tk₅) (i := i + 1) (hp := hp) (hic := by omega) (f1 := by subst hm; walk_at "lk") (f2 := by subst hm; walk_at "lk") (f3 := by subst hm; walk_at "lk") (f4 := ⟨_, by subst hm; walk_at "lk"⟩) (G := G)
/-! F6 -/
def litDL : { st : Stmt // methAt 12 = st } := ⟨_, by
  delta methAt stmtAt prog PySem.Challenge.pw_aj5032_01
  dsimp only [List.getElem?_cons_succ, List.getElem?_cons_zero, Option.getD_some, clsBody]⟩
abbrev stDL : Stmt := litDL.1
def bodDL : { b : List Stmt // fnBody stDL = b } := ⟨_, by delta stDL litDL; dsimp only [fnBody]⟩

set_option maxHeartbeats 8000000 in
theorem dl_seg {w : World} {A : Around} {NV : Addr} {fp wr : List Addr} {nn : Nat} {f : Nat → Int} {St : Nat → Heap → Prop} {s : Shared} {L fa : Addr} {m : Str → Option Value} {pm code self : Value} {chunks tl : Nat} {t1 t2 : Tok}
    (hh : A.handled = none) (N : Nx w NV fp wr nn f St) (hf : ∀ k, 0 ≤ f k ∧ f k < 256) (hL : L ∉ fp) (hn : 4 * chunks + tl ≤ nn) (ht : tl ≤ 3) (ht1 : tl ≠ 1) (n : s.heap.Ns L m) (st : St 0 s.heap)
    (m1 : m "next_value" = some (.ref NV)) (m2 : m "chunks" = some (.int chunks t1)) (m3 : m "tail" = some (.int tl t2)) :
    Seg (M w) A (gR (L :: wr)) (gY (L :: fp) (L :: wr) (dlL f chunks 0 tl)) (dlL f chunks 0 tl).length s (.func bodDL.1 (callEnv (fd stDL "Base64Engine._decode_bytes_little" pm code) L fa)) ((M w).den (.func bodDL.1 (callEnv (fd stDL "Base64Engine._decode_bytes_little" pm code) L fa))) [] s := by
  refine seg_func ?_
  generalize hc : Code.func bodDL.1 (callEnv (fd stDL "Base64Engine._decode_bytes_little" pm code) L fa) = c0
  have hh0 : (A.over c0 []).handled = none := by simpa [Around.over, marksOver] using hh
  clear hc
  delta bodDL
  dsimp only
  have G : GS s L wr St m 0 s.heap := ⟨fun _ _ _ e => e, n, st⟩
  refine seg_execs_cons (seg_wrap (xAssign (wpAny_Constant_int (stN (d := s.drawn) n (fun h₁ tk₁ n₁ sb₁ => ?_)))))
  replace G := G.store N hL n₁ sb₁
  refine seg_execs_cons (seg_While fun p => ?_)
  obtain ⟨c, hc⟩ : ∃ c, c = chunks := ⟨_, rfl⟩
  obtain ⟨i, hi⟩ : ∃ i, i = 0 := ⟨_, rfl⟩
  generalize hEs : dlL f chunks 0 tl = Es
  have e : Es.length = (dlL f c (4 * i) tl).length := by rw [hc, hi, ← hEs]
  rw [e]
  have hp : ∃ pre, Es = pre ++ dlL f c (4 * i) tl := ⟨[], by rw [hc, hi, ← hEs]; rfl⟩
  have hic : i + c = chunks := by rw [hc, hi]; omega
  generalize hm : upd m "idx" (.int 0 s.toks) = m' at n₁ G
  have f1 : m' "next_value" = some (.ref NV) := by subst hm; walk_at "lk"
  have f2 : m' "chunks" = some (.int chunks t1) := by subst hm; walk_at "lk"
  have f3 : m' "tail" = some (.int tl t2) := by subst hm; walk_at "lk"
  have f4 : ∃ t, m' "idx" = some (.int i t) := ⟨s.toks, by subst hm; rw [hi]; walk_at "lk"⟩
  replace G : GS s L wr St m' (4 * i) h₁ := by rw [hi]; exact G
  clear hm e hi hc n₁ sb₁ m1 m2 m3 n st hEs
  induction c generalizing i s m' h₁ tk₁ with
  | zero =>
    refine seg_whileLoop ?_
    obtain ⟨ti, f4⟩ := f4
    walk_at "as"
    refine rdN G.ns f4 (rdN G.ns f2 ?_)
    walk_at "as"
    rw [if_neg (by simp; omega)]
    refine seg_execs_nil ?_
    refine seg_leaf (.ok .next) ?_
    refine seg_execs_cons (seg_If ?_)
    walk_at "as"
    refine rdN G.ns f3 ?_
    walk_at "as"
    obtain rfl | rfl | rfl : tl = 0 ∨ tl = 2 ∨ tl = 3 := by omega
    · rw [if_neg (by decide)]
      refine seg_execs_nil (seg_execs_nil (seg_end (.ok (.ret .none)) ?_))
      exact ⟨rfl, rfl, G.snc _⟩
    · rw [if_pos (by decide)]
      refine sg_next N hL G (by omega) f1 hh0 fun h₂ tk₂ u₁ G => ?_
      refine sg_next N hL G (by omega) (by walk_at "lk") hh0 fun h₃ tk₃ u₂ G => ?_
      generalize hm : upd _ "v2" _ = m4 at G
      have g1 : m4 "next_value" = some (.ref NV) := by subst hm; walk_at "lk"
      have g3 : m4 "tail" = some (.int (2 : Nat) t2) := by subst hm; walk_at "lk"
      have v1 : m4 "v1" = some (.int (f (4 * i)) u₁) := by subst hm; walk_at "lk"
      have v2 : m4 "v2" = some (.int (f (4 * i + 1)) u₂) := by subst hm; walk_at "lk"
      clear hm f1 f2 f3 f4
      have hl : dlL f 0 (4 * i) 2 = _ ::  [] := rfl
      rw [hl] at hp ⊢
      refine sg_yield N G hp ?_ rfl rfl fun s₁ G hp => ?_
      · intro A' tk g d o Q E k
        walk_at "gx"
        exact k _ _
      refine seg_execs_cons (seg_If ?_)
      walk_at "as"
      refine rdN G.ns g3 ?_
      walk_at "as"
      rw [if_neg (by decide)]
      refine seg_execs_nil (seg_execs_nil (seg_execs_nil (seg_end (.ok (.ret .none)) ?_)))
      exact ⟨rfl, rfl, G.snc _⟩
    · rw [if_pos (by decide)]
      refine sg_next N hL G (by omega) f1 hh0 fun h₂ tk₂ u₁ G => ?_
      refine sg_next N hL G (by omega) (by walk_at "lk") hh0 fun h₃ tk₃ u₂ G => ?_
      generalize hm : upd _ "v2" _ = m4 at G
      have g1 : m4 "next_value" = some (.ref NV) := by subst hm; walk_at "lk"
      have g3 : m4 "tail" = some (.int (3 : Nat) t2) := by subst hm; walk_at "lk"
      have v1 : m4 "v1" = some (.int (f (4 * i)) u₁) := by subst hm; walk_at "lk"
      have v2 : m4 "v2" = some (.int (f (4 * i + 1)) u₂) := by subst hm; walk_at "lk"
      clear hm f1 f2 f3 f4
      have hl : dlL f 0 (4 * i) 3 = _ :: _ ::  [] := rfl
      rw [hl] at hp ⊢
      refine sg_yield N G hp ?_ rfl rfl fun s₁ G hp => ?_
      · intro A' tk g d o Q E k
        walk_at "gx"
        exact k _ _
      refine seg_execs_cons (seg_If ?_)
      walk_at "as"
      refine rdN G.ns g3 ?_
      walk_at "as"
      rw [if_pos (by decide)]
      refine sg_next N hL G (by omega) g1 hh0 fun h₅ tk₅ u₃ G => ?_
      generalize hm : upd _ "v3" _ = m5 at G
      have w2 : m5 "v2" = some (.int (f (4 * i + 1)) u₂) := by subst hm; walk_at "lk"
      have w3 : m5 "v3" = some (.int (f (4 * i + 2)) u₃) := by subst hm; walk_at "lk"
      clear hm v1 v2
      refine sg_yield N G hp ?_ rfl rfl fun s₁ G hp => ?_
      · intro A' tk g d o Q E k
        walk_at "gx"
        exact k _ _
      refine seg_execs_nil (seg_execs_nil (seg_execs_nil (seg_end (.ok (.ret .none)) ?_)))
      exact ⟨rfl, rfl, G.snc _⟩
  | succ c ih =>
    refine seg_whileLoop ?_
    obtain ⟨ti, f4⟩ := f4
    walk_at "as"
    refine rdN G.ns f4 (rdN G.ns f2 ?_)
    walk_at "as"
    rw [if_pos (by simp; omega)]
    refine sg_next N hL G (by omega) f1 hh fun h₂ tk₂ u₁ G => ?_
    refine sg_next N hL G (by omega) (by walk_at "lk") hh fun h₃ tk₃ u₂ G => ?_
    refine sg_next N hL G (by omega) (by walk_at "lk") hh fun h₄ tk₄ u₃ G => ?_
    refine sg_next N hL G (by omega) (by walk_at "lk") hh fun h₆ tk₆ u₄ G => ?_
    generalize hm : upd _ "v4" _ = m4 at G
    have g1 : m4 "next_value" = some (.ref NV) := by subst hm; walk_at "lk"
    have g2 : m4 "chunks" = some (.int chunks t1) := by subst hm; walk_at "lk"
    have g3 : m4 "tail" = some (.int tl t2) := by subst hm; walk_at "lk"
    have g4 : m4 "idx" = some (.int i ti) := by subst hm; walk_at "lk"
    have v1 : m4 "v1" = some (.int (f (4 * i)) u₁) := by subst hm; walk_at "lk"
    have v2 : m4 "v2" = some (.int (f (4 * i + 1)) u₂) := by subst hm; walk_at "lk"
    have v3 : m4 "v3" = some (.int (f (4 * i + 2)) u₃) := by subst hm; walk_at "lk"
    have v4 : m4 "v4" = some (.int (f (4 * i + 3)) u₄) := by subst hm; walk_at "lk"
    clear hm f1 f2 f3 f4
    have hl : dlL f (c + 1) (4 * i) tl = _ :: _ :: _ :: dlL f c (4 * i + 4) tl := rfl
    rw [hl] at hp ⊢
    refine sg_yield N G hp ?_ rfl rfl fun s₁ G hp => ?_
    · intro A' tk g d o Q E k
      walk_at "gx"
      exact k _ _
    refine sg_yield N G hp ?_ rfl rfl fun s₁ G hp => ?_
    · intro A' tk g d o Q E k
      walk_at "gx"
      exact k _ _
    refine sg_yield N G hp ?_ rfl rfl fun s₁ G hp => ?_
    · intro A' tk g d o Q E k
      walk_at "gx"
      exact k _ _
    refine seg_execs_cons (seg_wrap ?_)
    refine wpAny_AugAssign_Name ?_
    refine ldN G.ns g4 ?_
    walk_at "as"
    refine stN G.ns (fun h₅ tk₅ n₅ sb₅ => ?_)
    replace G := G.store N hL n₅ sb₅
    refine seg_execs_nil ?_
    refine seg_again rfl ?_
    generalize hm : upd m4 "idx" _ = m5 at G
    exact ih (tk₁ := tk₅) (i := i + 1) (hp := hp) (hic := by omega) (f1 := by subst hm; walk_at "lk") (f2 := by subst hm; walk_at "lk") (f3 := by subst hm; walk_at "lk") (f4 := ⟨_, by subst hm; walk_at "lk"⟩) (G := G)

def litDB : { st : Stmt // methAt 13 = st } := ⟨_, by
  delta methAt stmtAt prog PySem.Challenge.pw_aj5032_01
  dsimp only [List.getElem?_cons_succ, List.getElem?_cons_zero, Option.getD_some, clsBody]⟩
abbrev stDB : Stmt := litDB.1
def bodDB : { b : List Stmt // fnBody stDB = b } := ⟨_, by delta stDB litDB; dsimp only [fnBody]⟩

set_option maxHeartbeats 8000000 in
theorem db_seg {w : World} {A : Around} {NV : Addr} {fp wr : List Addr} {nn : Nat} {f : Nat → Int} {St : Nat → Heap → Prop} {s : Shared} {L fa : Addr} {m : Str → Option Value} {pm code self : Value} {chunks tl : Nat} {t1 t2 : Tok}
    (hh : A.handled = none) (N : Nx w NV fp wr nn f St) (hf : ∀ k, 0 ≤ f k ∧ f k < 256) (hL : L ∉ fp) (hn : 4 * chunks + tl ≤ nn) (ht : tl ≤ 3) (ht1 : tl ≠ 1) (n : s.heap.Ns L m) (st : St 0 s.heap)
    (m1 : m "next_value" = some (.ref NV)) (m2 : m "chunks" = some (.int chunks t1)) (m3 : m "tail" = some (.int tl t2)) :
    Seg (M w) A (gR (L :: wr)) (gY (L :: fp) (L :: wr) (dbL f chunks 0 tl)) (dbL f chunks 0 tl).length s (.func bodDB.1 (callEnv (fd stDB "Base64Engine._decode_bytes_big" pm code) L fa)) ((M w).den (.func bodDB.1 (callEnv (fd stDB "Base64Engine._decode_bytes_big" pm code) L fa))) [] s := by
  refine seg_func ?_
  generalize hc : Code.func bodDB.1 (callEnv (fd stDB "Base64Engine._decode_bytes_big" pm code) L fa) = c0
  have hh0 : (A.over c0 []).handled = none := by simpa [Around.over, marksOver] using hh
  clear hc
  delta bodDB
  dsimp only
  have G : GS s L wr St m 0 s.heap := ⟨fun _ _ _ e => e, n, st⟩
  refine seg_execs_cons (seg_wrap (xAssign (wpAny_Constant_int (stN (d := s.drawn) n (fun h₁ tk₁ n₁ sb₁ => ?_)))))
  replace G := G.store N hL n₁ sb₁
  refine seg_execs_cons (seg_While fun p => ?_)
  obtain ⟨c, hc⟩ : ∃ c, c = chunks := ⟨_, rfl⟩
  obtain ⟨i, hi⟩ : ∃ i, i = 0 := ⟨_, rfl⟩
  generalize hEs : dbL f chunks 0 tl = Es
  have e : Es.length = (dbL f c (4 * i) tl).length := by rw [hc, hi, ← hEs]
  rw [e]
  have hp : ∃ pre, Es = pre ++ dbL f c (4 * i) tl := ⟨[], by rw [hc, hi, ← hEs]; rfl⟩
  have hic : i + c = chunks := by rw [hc, hi]; omega
  generalize hm : upd m "idx" (.int 0 s.toks) = m' at n₁ G
  have f1 : m' "next_value" = some (.ref NV) := by subst hm; walk_at "lk"
  have f2 : m' "chunks" = some (.int chunks t1) := by subst hm; walk_at "lk"
  have f3 : m' "tail" = some (.int tl t2) := by subst hm; walk_at "lk"
  have f4 : ∃ t, m' "idx" = some (.int i t) := ⟨s.toks, by subst hm; rw [hi]; walk_at "lk"⟩
  replace G : GS s L wr St m' (4 * i) h₁ := by rw [hi]; exact G
  clear hm e hi hc n₁ sb₁ m1 m2 m3 n st hEs
  induction c generalizing i s m' h₁ tk₁ with
  | zero =>
    refine seg_whileLoop ?_
    obtain ⟨ti, f4⟩ := f4
    walk_at "as"
    refine rdN G.ns f4 (rdN G.ns f2 ?_)
    walk_at "as"
    rw [if_neg (by simp; omega)]
    refine seg_execs_nil ?_
    refine seg_leaf (.ok .next) ?_
    refine seg_execs_cons (seg_If ?_)
    walk_at "as"
    refine rdN G.ns f3 ?_
    walk_at "as"
    obtain rfl | rfl | rfl : tl = 0 ∨ tl = 2 ∨ tl = 3 := by omega
    · rw [if_neg (by decide)]
      refine seg_execs_nil (seg_execs_nil (seg_end (.ok (.ret .none)) ?_))
      exact ⟨rfl, rfl, G.snc _⟩
    · rw [if_pos (by decide)]
      refine sg_next N hL G (by omega) f1 hh0 fun h₂ tk₂ u₁ G => ?_
      refine sg_next N hL G (by omega) (by walk_at "lk") hh0 fun h₃ tk₃ u₂ G => ?_
      generalize hm : upd _ "v2" _ = m4 at G
      have g1 : m4 "next_value" = some (.ref NV) := by subst hm; walk_at "lk"
      have g3 : m4 "tail" = some (.int (2 : Nat) t2) := by subst hm; walk_at "lk"
      have v1 : m4 "v1" = some (.int (f (4 * i)) u₁) := by subst hm; walk_at "lk"
      have v2 : m4 "v2" = some (.int (f (4 * i + 1)) u₂) := by subst hm; walk_at "lk"
      clear hm f1 f2 f3 f4
      have hl : dbL f 0 (4 * i) 2 = _ ::  [] := rfl
      rw [hl] at hp ⊢
      refine sg_yield N G hp ?_ rfl rfl fun s₁ G hp => ?_
      · intro A' tk g d o Q E k
        walk_at "gx"
        exact k _ _
      refine seg_execs_cons (seg_If ?_)
      walk_at "as"
      refine rdN G.ns g3 ?_
      walk_at "as"
      rw [if_neg (by decide)]
      refine seg_execs_nil (seg_execs_nil (seg_execs_nil (seg_end (.ok (.ret .none)) ?_)))
      exact ⟨rfl, rfl, G.snc _⟩
    · rw [if_pos (by decide)]
      refine sg_next N hL G (by omega) f1 hh0 fun h₂ tk₂ u₁ G => ?_
      refine sg_next N hL G (by omega) (by walk_at "lk") hh0 fun h₃ tk₃ u₂ G => ?_
      generalize hm : upd _ "v2" _ = m4 at G
      have g1 : m4 "next_value" = some (.ref NV) := by subst hm; walk_at "lk"
      have g3 : m4 "tail" = some (.int (3 : Nat) t2) := by subst hm; walk_at "lk"
      have v1 : m4 "v1" = some (.int (f (4 * i)) u₁) := by subst hm; walk_at "lk"
      have v2 : m4 "v2" = some (.int (f (4 * i + 1)) u₂) := by subst hm; walk_at "lk"
      clear hm f1 f2 f3 f4
      have hl : dbL f 0 (4 * i) 3 = _ :: _ ::  [] := rfl
      rw [hl] at hp ⊢
      refine sg_yield N G hp ?_ rfl rfl fun s₁ G hp => ?_
      · intro A' tk g d o Q E k
        walk_at "gx"
        exact k _ _
      refine seg_execs_cons (seg_If ?_)
      walk_at "as"
      refine rdN G.ns g3 ?_
      walk_at "as"
      rw [if_pos (by decide)]
      refine sg_next N hL G (by omega) g1 hh0 fun h₅ tk₅ u₃ G => ?_
      generalize hm : upd _ "v3" _ = m5 at G
      have w2 : m5 "v2" = some (.int (f (4 * i + 1)) u₂) := by subst hm; walk_at "lk"
      have w3 : m5 "v3" = some (.int (f (4 * i + 2)) u₃) := by subst hm; walk_at "lk"
      clear hm v1 v2
      refine sg_yield N G hp ?_ rfl rfl fun s₁ G hp => ?_
      · intro A' tk g d o Q E k
        walk_at "gx"
        exact k _ _
      refine seg_execs_nil (seg_execs_nil (seg_execs_nil (seg_end (.ok (.ret .none)) ?_)))
      exact ⟨rfl, rfl, G.snc _⟩
  | succ c ih =>
    refine seg_whileLoop ?_
    obtain ⟨ti, f4⟩ := f4
    walk_at "as"
    refine rdN G.ns f4 (rdN G.ns f2 ?_)
    walk_at "as"
    rw [if_pos (by simp; omega)]
    refine sg_next N hL G (by omega) f1 hh fun h₂ tk₂ u₁ G => ?_
    refine sg_next N hL G (by omega) (by walk_at "lk") hh fun h₃ tk₃ u₂ G => ?_
    refine sg_next N hL G (by omega) (by walk_at "lk") hh fun h₄ tk₄ u₃ G => ?_
    refine sg_next N hL G (by omega) (by walk_at "lk") hh fun h₆ tk₆ u₄ G => ?_
    generalize hm : upd _ "v4" _ = m4 at G
    have g1 : m4 "next_value" = some (.ref NV) := by subst hm; walk_at "lk"
    have g2 : m4 "chunks" = some (.int chunks t1) := by subst hm; walk_at "lk"
    have g3 : m4 "tail" = some (.int tl t2) := by subst hm; walk_at "lk"
    have g4 : m4 "idx" = some (.int i ti) := by subst hm; walk_at "lk"
    have v1 : m4 "v1" = some (.int (f (4 * i)) u₁) := by subst hm; walk_at "lk"
    have v2 : m4 "v2" = some (.int (f (4 * i + 1)) u₂) := by subst hm; walk_at "lk"
    have v3 : m4 "v3" = some (.int (f (4 * i + 2)) u₃) := by subst hm; walk_at "lk"
    have v4 : m4 "v4" = some (.int (f (4 * i + 3)) u₄) := by subst hm; walk_at "lk"
    clear hm f1 f2 f3 f4
    have hl : dbL f (c + 1) (4 * i) tl = _ :: _ :: _ :: dbL f c (4 * i + 4) tl := rfl
    rw [hl] at hp ⊢
    refine sg_yield N G hp ?_ rfl rfl fun s₁ G hp => ?_
    · intro A' tk g d o Q E k
      walk_at "gx"
      exact k _ _
    refine sg_yield N G hp ?_ rfl rfl fun s₁ G hp => ?_
    · intro A' tk g d o Q E k
      walk_at "gx"
      exact k _ _
    refine sg_yield N G hp ?_ rfl rfl fun s₁ G hp => ?_
    · intro A' tk g d o Q E k
      walk_at "gx"
      exact k _ _
    refine seg_execs_cons (seg_wrap ?_)
    refine wpAny_AugAssign_Name ?_
    refine ldN G.ns g4 ?_
    walk_at "as"
    refine stN G.ns (fun h₅ tk₅ n₅ sb₅ => ?_)
    replace G := G.store N hL n₅ sb₅
    refine seg_execs_nil ?_
    refine seg_again rfl ?_
    generalize hm : upd m4 "idx" _ = m5 at G
    exact ih (tk₁ := tk₅) (i := i + 1) (hp := hp) (hic := by omega) (f1 := by subst hm; walk_at "lk") (f2 := by subst hm; walk_at "lk") (f3 := by subst hm; walk_at "lk") (f4 := ⟨_, by subst hm; walk_at "lk"⟩) (G := G)
/-! P1 -/
theorem and_mod (a : Nat) (k : Nat) : Builtin.bitAnd (a : Int) ((2 ^ k - 1 : Nat) : Int) = ((a % 2 ^ k : Nat) : Int) := by
  rw [bitAnd_pp (by omega) (by omega)]
  simp only [Int.toNat_natCast]
  rw [Nat.and_two_pow_sub_one_eq_mod]
theorem sr_div (a k : Nat) : sr (a : Int) (k : Int) = ((a / 2 ^ k : Nat) : Int) := by
  unfold sr
  rw [Int.toNat_natCast, show (2 : Int) ^ k = ((2 ^ k : Nat) : Int) by simp, Int.fdiv_eq_ediv_of_nonneg _ (Int.natCast_nonneg _), Int.natCast_ediv]
theorem sh_mul (a k : Nat) : sh (a : Int) (k : Int) = ((a * 2 ^ k : Nat) : Int) := by
  unfold sh
  rw [Int.toNat_natCast]
  simp
theorem or_add (p q k : Nat) (h : q < 2 ^ k) : Builtin.bitOr ((p * 2 ^ k : Nat) : Int) (q : Int) = ((p * 2 ^ k + q : Nat) : Int) := by
  rw [bitOr_and, bitAnd_pp (by omega) (by omega)]
  simp only [Int.toNat_natCast]
  have : p * 2 ^ k &&& q = 0 := by
    apply Nat.eq_of_testBit_eq
    intro i
    rw [Nat.testBit_and, Nat.zero_testBit, Nat.testBit_mul_two_pow]
    by_cases hi : k ≤ i
    · rw [Nat.testBit_lt_two_pow (Nat.lt_of_lt_of_le h (Nat.pow_le_pow_right (by decide) hi))]; simp
    · simp [hi]
  rw [this]
  simp
theorem or_add' (p q k : Nat) (h : q < 2 ^ k) : Builtin.bitOr (q : Int) ((p * 2 ^ k : Nat) : Int) = ((p * 2 ^ k + q : Nat) : Int) := by
  rw [bitOr_comm, or_add p q k h]

def zs (l : List Nat) : List Int := l.map (fun n : Nat => (n : Int))

theorem m63 (a : Nat) : Builtin.bitAnd (a : Int) 63 = ((a % 64 : Nat) : Int) := and_mod a 6
theorem m15 (a : Nat) : Builtin.bitAnd (a : Int) 15 = ((a % 16 : Nat) : Int) := and_mod a 4
theorem m3 (a : Nat) : Builtin.bitAnd (a : Int) 3 = ((a % 4 : Nat) : Int) := and_mod a 2
theorem r2 (a : Nat) : sr (a : Int) 2 = ((a / 4 : Nat) : Int) := sr_div a 2
theorem r4 (a : Nat) : sr (a : Int) 4 = ((a / 16 : Nat) : Int) := sr_div a 4
theorem r6 (a : Nat) : sr (a : Int) 6 = ((a / 64 : Nat) : Int) := sr_div a 6
theorem l2 (a : Nat) : sh (a : Int) 2 = ((a * 4 : Nat) : Int) := sh_mul a 2
theorem l4 (a : Nat) : sh (a : Int) 4 = ((a * 16 : Nat) : Int) := sh_mul a 4
theorem l6 (a : Nat) : sh (a : Int) 6 = ((a * 64 : Nat) : Int) := sh_mul a 6
theorem o2 (p q : Nat) (h : q < 4) : Builtin.bitOr ((p * 4 : Nat) : Int) (q : Int) = ((p * 4 + q : Nat) : Int) := or_add p q 2 h
theorem o4 (p q : Nat) (h : q < 16) : Builtin.bitOr ((p * 16 : Nat) : Int) (q : Int) = ((p * 16 + q : Nat) : Int) := or_add p q 4 h
theorem o6 (p q : Nat) (h : q < 64) : Builtin.bitOr ((p * 64 : Nat) : Int) (q : Int) = ((p * 64 + q : Nat) : Int) := or_add p q 6 h
theorem p2 (p q : Nat) (h : q < 4) : Builtin.bitOr (q : Int) ((p * 4 : Nat) : Int) = ((p * 4 + q : Nat) : Int) := or_add' p q 2 h
theorem p4 (p q : Nat) (h : q < 16) : Builtin.bitOr (q : Int) ((p * 16 : Nat) : Int) = ((p * 16 + q : Nat) : Int) := or_add' p q 4 h
theorem p6 (p q : Nat) (h : q < 64) : Builtin.bitOr (q : Int) ((p * 64 : Nat) : Int) = ((p * 64 + q : Nat) : Int) := or_add' p q 6 h

theorem el3_n (a b c : Nat) (ha : a < 256) (hb : b < 256) (hc : c < 256) : el3 a b c = zs [a % 64, b % 16 * 4 + a / 64, c % 4 * 16 + b / 16, c / 4] := by
  unfold el3 zs
  rw [m63, m15, m3, r6, r4, r2, l2, l4, o2 _ _ (by omega), o4 _ _ (by omega)]; rfl
theorem el1_n (a : Nat) (ha : a < 256) : el1 a = zs [a % 64, a / 64] := by unfold el1 zs; rw [m63, r6]; rfl
theorem el2_n (a b : Nat) (ha : a < 256) (hb : b < 256) : el2 a b = zs [a % 64, b % 16 * 4 + a / 64, b / 16] := by
  unfold el2 zs; rw [m63, m15, r6, r4, l2, o2 _ _ (by omega)]; rfl
theorem eb3_n (a b c : Nat) (ha : a < 256) (hb : b < 256) (hc : c < 256) : eb3 a b c = zs [a / 4, a % 4 * 16 + b / 16, b % 16 * 4 + c / 64, c % 64] := by
  unfold eb3 zs
  rw [m63, m15, m3, r6, r4, r2, l2, l4, o2 _ _ (by omega), o4 _ _ (by omega)]; rfl
theorem eb1_n (a : Nat) (ha : a < 256) : eb1 a = zs [a / 4, a % 4 * 16] := by unfold eb1 zs; rw [m3, r2, l4]; rfl
theorem eb2_n (a b : Nat) (ha : a < 256) (hb : b < 256) : eb2 a b = zs [a / 4, a % 4 * 16 + b / 16, b % 16 * 4] := by
  unfold eb2 zs; rw [m15, m3, r4, r2, l2, l4, o4 _ _ (by omega)]; rfl
theorem dl4_n (a b c d : Nat) (ha : a < 64) (hb : b < 64) (hc : c < 64) (hd : d < 64) : dl4 a b c d = zs [b % 4 * 64 + a, c % 16 * 16 + b / 4, d * 4 + c / 16] := by
  unfold dl4 zs
  rw [m15, m3, r4, r2, l2, l4, l6, p6 _ _ (by omega), p4 _ _ (by omega), p2 _ _ (by omega)]; rfl
theorem dl2_n (a b : Nat) (ha : a < 64) (hb : b < 64) : dl2 a b = zs [b % 4 * 64 + a] := by unfold dl2 zs; rw [m3, l6, p6 _ _ (by omega)]; rfl
theorem dl3_n (a b c : Nat) (ha : a < 64) (hb : b < 64) (hc : c < 64) : dl3 a b c = zs [b % 4 * 64 + a, c % 16 * 16 + b / 4] := by
  unfold dl3 zs; rw [m15, m3, r2, l4, l6, p6 _ _ (by omega), p4 _ _ (by omega)]; rfl
theorem db4_n (a b c d : Nat) (ha : a < 64) (hb : b < 64) (hc : c < 64) (hd : d < 64) : db4 a b c d = zs [a * 4 + b / 16, b % 16 * 16 + c / 4, c % 4 * 64 + d] := by
  unfold db4 zs
  rw [m15, m3, r4, r2, l2, l4, l6, o2 _ _ (by omega), o4 _ _ (by omega), o6 _ _ (by omega)]; rfl
theorem db2_n (a b : Nat) (ha : a < 64) (hb : b < 64) : db2 a b = zs [a * 4 + b / 16] := by unfold db2 zs; rw [r4, l2, o2 _ _ (by omega)]; rfl
theorem db3_n (a b c : Nat) (ha : a < 64) (hb : b < 64) (hc : c < 64) : db3 a b c = zs [a * 4 + b / 16, b % 16 * 16 + c / 4] := by
  unfold db3 zs; rw [m15, r4, r2, l2, l4, o2 _ _ (by omega), o4 _ _ (by omega)]; rfl

/-- the encoder, in natural numbers -/
def encN (big : Bool) : List Nat → List Nat
  | a :: b :: c :: r => (if big then [a / 4, a % 4 * 16 + b / 16, b % 16 * 4 + c / 64, c % 64] else [a % 64, b % 16 * 4 + a / 64, c % 4 * 16 + b / 16, c / 4]) ++ encN big r
  | [a, b] => if big then [a / 4, a % 4 * 16 + b / 16, b % 16 * 4] else [a % 64, b % 16 * 4 + a / 64, b / 16]
  | [a] => if big then [a / 4, a % 4 * 16] else [a % 64, a / 64]
  | [] => []
/-- the decoder -/
def decN (big : Bool) : List Nat → List Nat
  | a :: b :: c :: d :: r => (if big then [a * 4 + b / 16, b % 16 * 16 + c / 4, c % 4 * 64 + d] else [b % 4 * 64 + a, c % 16 * 16 + b / 4, d * 4 + c / 16]) ++ decN big r
  | [a, b, c] => if big then [a * 4 + b / 16, b % 16 * 16 + c / 4] else [b % 4 * 64 + a, c % 16 * 16 + b / 4]
  | [a, b] => if big then [a * 4 + b / 16] else [b % 4 * 64 + a]
  | _ => []

theorem dec_enc (big : Bool) : ∀ (l : List Nat), (∀ x ∈ l, x < 256) → decN big (encN big l) = l
  | [], _ => rfl
  | [a], h => by
    have := h a (by simp)
    cases big <;> simp [encN, decN] <;> omega
  | [a, b], h => by
    have := h a (by simp)
    have := h b (by simp)
    cases big <;> simp [encN, decN] <;> omega
  | a :: b :: c :: r, h => by
    have := h a (by simp)
    have := h b (by simp)
    have := h c (by simp)
    have ih := dec_enc big r fun x hx => h x (by simp [hx])
    cases big <;> simp [encN, decN, ih] <;> omega
theorem enc_lt (big : Bool) : ∀ (l : List Nat), (∀ x ∈ l, x < 256) → ∀ y ∈ encN big l, y < 64
  | [], _ => by simp [encN]
  | [a], h => by
    have := h a (by simp)
    cases big <;> simp [encN] <;> omega
  | [a, b], h => by
    have := h a (by simp)
    have := h b (by simp)
    cases big <;> simp [encN] <;> omega
  | a :: b :: c :: r, h => by
    have := h a (by simp)
    have := h b (by simp)
    have := h c (by simp)
    have ih := enc_lt big r fun x hx => h x (by simp [hx])
    intro y hy
    cases big <;> simp [encN] at hy <;> rcases hy with rfl | rfl | rfl | rfl | hy <;> first | exact ih y hy | omega
theorem enc_len (big : Bool) : ∀ (l : List Nat), (encN big l).length = l.length / 3 * 4 + (if l.length % 3 = 0 then 0 else l.length % 3 + 1)
  | [] => rfl
  | [a] => by cases big <;> simp [encN]
  | [a, b] => by cases big <;> simp [encN]
  | a :: b :: c :: r => by
    have ih := enc_len big r
    have e1 : (a :: b :: c :: r).length / 3 = r.length / 3 + 1 := by simp; omega
    have e2 : (a :: b :: c :: r).length % 3 = r.length % 3 := by simp; omega
    rw [e1, e2]
    cases big <;> simp [encN, ih] <;> omega

/-- the ints of a list of naturals -/
def fOf (l : List Nat) (j : Nat) : Int := ((l.getD j 0 : Nat) : Int)
theorem drop_cons {l : List Nat} {j : Nat} (h : j < l.length) : l.drop j = l.getD j 0 :: l.drop (j + 1) := by
  rw [List.drop_eq_getElem_cons h]; simp [List.getD_eq_getElem?_getD, h]
theorem getD_lt {l : List Nat} {j m : Nat} (hm : 0 < m) (h : ∀ x ∈ l, x < m) : l.getD j 0 < m := by
  rw [List.getD_eq_getElem?_getD]
  cases e : l[j]? with
  | none => simpa using hm
  | some x => simpa using h x (List.mem_of_getElem? e)
theorem drop_nil {l : List Nat} {j : Nat} (h : j = l.length) : l.drop j = [] := by rw [h]; simp
theorem zs_app (a b : List Nat) : zs (a ++ b) = zs a ++ zs b := by simp [zs]

theorem el_encN {l : List Nat} (h : ∀ x ∈ l, x < 256) : ∀ (c j t : Nat), j + (3 * c + t) = l.length → t < 3 → elL (fOf l) c j t = zs (encN false (l.drop j))
  | c + 1, j, t, e, ht => by
    rw [drop_cons (by omega : j < l.length), drop_cons (by omega : j + 1 < l.length), drop_cons (by omega : j + 1 + 1 < l.length)]
    show el3 _ _ _ ++ _ = _
    unfold fOf
    rw [el3_n _ _ _ (getD_lt (by decide) h) (getD_lt (by decide) h) (getD_lt (by decide) h), encN, zs_app, ← el_encN h c (j + 3) t (by omega) ht]
    rfl
  | 0, j, 0, e, ht => by rw [drop_nil (by omega)]; rfl
  | 0, j, 1, e, ht => by
    rw [drop_cons (by omega : j < l.length), drop_nil (by omega : j + 1 = l.length)]
    show el1 _ = _
    unfold fOf
    rw [el1_n _ (getD_lt (by decide) h)]; rfl
  | 0, j, 2, e, ht => by
    rw [drop_cons (by omega : j < l.length), drop_cons (by omega : j + 1 < l.length), drop_nil (by omega : j + 1 + 1 = l.length)]
    show el2 _ _ = _
    unfold fOf
    rw [el2_n _ _ (getD_lt (by decide) h) (getD_lt (by decide) h)]; rfl
theorem eb_encN {l : List Nat} (h : ∀ x ∈ l, x < 256) : ∀ (c j t : Nat), j + (3 * c + t) = l.length → t < 3 → ebL (fOf l) c j t = zs (encN true (l.drop j))
  | c + 1, j, t, e, ht => by
    rw [drop_cons (by omega : j < l.length), drop_cons (by omega : j + 1 < l.length), drop_cons (by omega : j + 1 + 1 < l.length)]
    show eb3 _ _ _ ++ _ = _
    unfold fOf
    rw [eb3_n _ _ _ (getD_lt (by decide) h) (getD_lt (by decide) h) (getD_lt (by decide) h), encN, zs_app, ← eb_encN h c (j + 3) t (by omega) ht]
    rfl
  | 0, j, 0, e, ht => by rw [drop_nil (by omega)]; rfl
  | 0, j, 1, e, ht => by
    rw [drop_cons (by omega : j < l.length), drop_nil (by omega : j + 1 = l.length)]
    show eb1 _ = _
    unfold fOf
    rw [eb1_n _ (getD_lt (by decide) h)]; rfl
  | 0, j, 2, e, ht => by
    rw [drop_cons (by omega : j < l.length), drop_cons (by omega : j + 1 < l.length), drop_nil (by omega : j + 1 + 1 = l.length)]
    show eb2 _ _ = _
    unfold fOf
    rw [eb2_n _ _ (getD_lt (by decide) h) (getD_lt (by decide) h)]; rfl
theorem dl_decN {l : List Nat} (h : ∀ x ∈ l, x < 64) : ∀ (c j t : Nat), j + (4 * c + t) = l.length → t < 4 → t ≠ 1 → dlL (fOf l) c j t = zs (decN false (l.drop j))
  | c + 1, j, t, e, ht, h1 => by
    rw [drop_cons (by omega : j < l.length), drop_cons (by omega : j + 1 < l.length), drop_cons (by omega : j + 1 + 1 < l.length), drop_cons (by omega : j + 1 + 1 + 1 < l.length)]
    show dl4 _ _ _ _ ++ _ = _
    unfold fOf
    rw [dl4_n _ _ _ _ (getD_lt (by decide) h) (getD_lt (by decide) h) (getD_lt (by decide) h) (getD_lt (by decide) h), decN, zs_app, ← dl_decN h c (j + 4) t (by omega) ht h1]
    rfl
  | 0, j, 0, e, ht, _ => by rw [drop_nil (by omega)]; rfl
  | 0, j, 2, e, ht, _ => by
    rw [drop_cons (by omega : j < l.length), drop_cons (by omega : j + 1 < l.length), drop_nil (by omega : j + 1 + 1 = l.length)]
    show dl2 _ _ = _
    unfold fOf
    rw [dl2_n _ _ (getD_lt (by decide) h) (getD_lt (by decide) h)]; rfl
  | 0, j, 3, e, ht, _ => by
    rw [drop_cons (by omega : j < l.length), drop_cons (by omega : j + 1 < l.length), drop_cons (by omega : j + 1 + 1 < l.length), drop_nil (by omega : j + 1 + 1 + 1 = l.length)]
    show dl3 _ _ _ = _
    unfold fOf
    rw [dl3_n _ _ _ (getD_lt (by decide) h) (getD_lt (by decide) h) (getD_lt (by decide) h)]; rfl
theorem db_decN {l : List Nat} (h : ∀ x ∈ l, x < 64) : ∀ (c j t : Nat), j + (4 * c + t) = l.length → t < 4 → t ≠ 1 → dbL (fOf l) c j t = zs (decN true (l.drop j))
  | c + 1, j, t, e, ht, h1 => by
    rw [drop_cons (by omega : j < l.length), drop_cons (by omega : j + 1 < l.length), drop_cons (by omega : j + 1 + 1 < l.length), drop_cons (by omega : j + 1 + 1 + 1 < l.length)]
    show db4 _ _ _ _ ++ _ = _
    unfold fOf
    rw [db4_n _ _ _ _ (getD_lt (by decide) h) (getD_lt (by decide) h) (getD_lt (by decide) h) (getD_lt (by decide) h), decN, zs_app, ← db_decN h c (j + 4) t (by omega) ht h1]
    rfl
  | 0, j, 0, e, ht, _ => by rw [drop_nil (by omega)]; rfl
  | 0, j, 2, e, ht, _ => by
    rw [drop_cons (by omega : j < l.length), drop_cons (by omega : j + 1 < l.length), drop_nil (by omega : j + 1 + 1 = l.length)]
    show db2 _ _ = _
    unfold fOf
    rw [db2_n _ _ (getD_lt (by decide) h) (getD_lt (by decide) h)]; rfl
  | 0, j, 3, e, ht, _ => by
    rw [drop_cons (by omega : j < l.length), drop_cons (by omega : j + 1 < l.length), drop_cons (by omega : j + 1 + 1 < l.length), drop_nil (by omega : j + 1 + 1 + 1 = l.length)]
    show db3 _ _ _ = _
    unfold fOf
    rw [db3_n _ _ _ (getD_lt (by decide) h) (getD_lt (by decide) h) (getD_lt (by decide) h)]; rfl

/-- the octets of a bytes -/
def bl (b : Array UInt8) : List Nat := b.toList.map UInt8.toNat
theorem bl_lt (b : Array UInt8) : ∀ x ∈ bl b, x < 256 := by
  intro x hx
  obtain ⟨c, _, rfl⟩ := List.mem_map.1 hx
  exact c.toNat_lt
theorem bl_len (b : Array UInt8) : (bl b).length = b.size := by simp [bl]
theorem zs_len (l : List Nat) : (zs l).length = l.length := by simp [zs]
theorem zs_getD (l : List Nat) (j : Nat) : (zs l).getD j 0 = ((l.getD j 0 : Nat) : Int) := by
  unfold zs
  rw [List.getD_eq_getElem?_getD, List.getD_eq_getElem?_getD, List.getElem?_map]
  cases l[j]? <;> rfl
/-! F7 -/
def Kp (wr : List Addr) (h h' : Heap) : Prop := ∀ b o, b ∉ wr → h.get? b = some o → h'.get? b = some o
def Mv (wr : List Addr) (s s' : Shared) : Prop := Kp wr s.heap s'.heap ∧ s'.drawn = s.drawn ∧ s'.os = s.os
def Stop (h : Heap) (e : Addr) : Prop := ∃ o, h.get? e = some o ∧ o.cls = .type "StopIteration"

/-- an iterator that hands out f 0 .. f (n - 1), then stops -/
structure It (w : World) (A : Around) (it : Addr) (fp wr : List Addr) (n : Nat) (f : Nat → Int) (St : Nat → Shared → Prop) (gE : Array GenState) : Prop where
  sub : ∀ b ∈ wr, b ∈ fp
  frame : ∀ j s h' tk', St j s → (∀ b ∈ fp, ∀ o, s.heap.get? b = some o → h'.get? b = some o) → St j { s with heap := h', toks := tk' }
  item : ∀ j s (Q : Option Value → Shared → Prop) (E : Value → Shared → Prop), j < n → St j s → (∀ s' t, St (j + 1) s' → Mv wr s s' → Q (some (.int (f j) t)) s') →
    wpAny (M w) A (callSpecial? (.ref it) "__next__") Q E s
  fin : ∀ s (Q : Option Value → Shared → Prop) (E : Value → Shared → Prop), St n s → (∀ s' e, Mv wr s s' → s'.gens = gE → Stop s'.heap e → E (.ref e) s') →
    wpAny (M w) A (callSpecial? (.ref it) "__next__") Q E s

section
variable {w : World} {A : Around} {it : Addr} {fp wr : List Addr} {n : Nat} {f : Nat → Int} {St : Nat → Shared → Prop} {gE : Array GenState} {s : Shared} {E : Value → Shared → Prop}
theorem It.nxt {Q : Option Value → Shared → Prop} (I : It w A it fp wr n f St gE) {j : Nat} (hj : j < n) (st : St j s) (k : ∀ s' t, St (j + 1) s' → Mv wr s s' → Q (some (.int (f j) t)) s') : wpAny (M w) A (pyNext (.ref it)) Q E s := by
  unfold pyNext
  exact wpAny_bind (wpAny_attempt (I.item j s _ _ hj st fun s' t st' m => wpAny_pure (k s' t st' m)))
theorem It.stop {Q : Option Value → Shared → Prop} (I : It w A it fp wr n f St gE) (st : St n s) (k : ∀ s', Mv wr s s' → s'.gens = gE → Q none s') : wpAny (M w) A (pyNext (.ref it)) Q E s := by
  unfold pyNext
  exact wpAny_bind (wpAny_attempt (I.fin s _ _ st fun s' e m g st => wpAny_bind (wpAny_isInstance (T := "StopIteration") (b := true) st isSubtype_stop (wpAny_pure (k s' m g)))))
end

theorem cs_gen {w : World} {A : Around} {E : Value → Shared → Prop} {s : Shared} {a : Addr} {g n : Nat} {gs : GenState} {R : GenEnd} {Y : Protocol} {Q : Option Value → Shared → Prop} (hh : A.handled = none)
    (hl : s.heap.NoLimit) (hroom : A.depth < recursionLimit) (hg : s.heap.IsGen a g) (hgs : s.gens[g]? = some gs)
    (hgo : gs.Goes (M w) A.in1 R Y n (.send .none) (s.setGen g .running))
    (hY : ∀ v s₁ gs', gs'.bare = true → Y (n - 1) (s.setGen g .running) v s₁ (fun r' s'' => match n with
        | 0 => False
        | m + 1 => gs'.Goes (M w) A.in1 R Y m r' s'') → Q (some v) (s₁.setGen g gs'))
    (hR : ∀ x s₁, R n (s.setGen g .running) x s₁ → ((x = .ok (.ret .none) ∨ x = .ok .next) ∧ ∀ h' e, (∀ b o, s₁.heap.get? b = some o → h'.get? b = some o) → Stop h' e → E (.ref e) { s₁.setGen g .finished with heap := h' }) ∨
      (∃ e, x = .error e ∧ wpAny (M w) A.in1 (Builtin.Generator.genLeft (.ref a) e : Sem PySem.Fin) (fun _ _ => False) E (s₁.setGen g .finished))) :
    wpAny (M w) A (callSpecial? (.ref a) "__next__") Q E s := by
  refine wpAny_callSpecial?_slot (name := Str.ofString "__next__") hg.typeIs slot_gen_next (wpAny_call_entry slot_gen_next hg.typeIs entry_gen_next ?_ (args_gen_next _))
  show wpAny _ _ (Builtin.Generator.genWake (.ref a) (.send .none)) _ _ s
  unfold Builtin.Generator.genWake
  refine wpAny_bind (wpAny_holding (wpAny_genNumber hg (wpAny_bind (wpAny_genState hgs ?_))))
  cases gs with
  | running => exact hgo.elim
  | finished => exact hgo.elim
  | _ =>
    refine wpAny_bind (wpAny_roomToWake hl hroom ?_)
    show wpAny _ _ (.resume g (.send .none) [] _) _ _ s
    refine wpAny_resumeQ hgs hgo (fun x s₁ hx => ?_) (fun v s₁ gs' hb hv => ?_)
    · rcases hR x s₁ hx with ⟨hx, hp⟩ | ⟨e, rfl, hp⟩
      · rcases hx with rfl | rfl
        · show wpAny _ _ (newExc (.type "StopIteration") [] >>= _) _ _ _
          refine wpAny_bind ?_
          simp only [newExc, newTuple]
          refine wpAny_bind (wpAny_newObj_type ?_ (by size_fits))
          refine wpAny_bind (m := firstArgMember _ _) (wpAny_of_eq (a := Value.none) (by first | rfl | (simp only [firstArgMember]; rfl)) ?_)
          refine wpAny_newObj_type ?_ (by size_fits)
          simp only [raiseNew]
          refine wpAny_bind (wpAny_bind (wpAny_handled ?_))
          rw [show A.in1.handled = none from hh]
          refine wpAny_throw ?_
          exact hp _ _ (fun b o hb => Heap.get?_push_of_some _ (Heap.get?_push_of_some _ hb)) ⟨_, Heap.get?_push_size _ rfl, rfl⟩
        · show wpAny _ _ (newExc (.type "StopIteration") [] >>= _) _ _ _
          refine wpAny_bind ?_
          simp only [newExc, newTuple]
          refine wpAny_bind (wpAny_newObj_type ?_ (by size_fits))
          refine wpAny_bind (m := firstArgMember _ _) (wpAny_of_eq (a := Value.none) (by first | rfl | (simp only [firstArgMember]; rfl)) ?_)
          refine wpAny_newObj_type ?_ (by size_fits)
          simp only [raiseNew]
          refine wpAny_bind (wpAny_bind (wpAny_handled ?_))
          rw [show A.in1.handled = none from hh]
          refine wpAny_throw ?_
          exact hp _ _ (fun b o hb => Heap.get?_push_of_some _ (Heap.get?_push_of_some _ hb)) ⟨_, Heap.get?_push_size _ rfl, rfl⟩
      · show wpAny _ _ (Builtin.Generator.genLeft (.ref a) e) _ _ _
        exact wpAny_mono hp (fun _ _ x => x.elim) fun _ _ x => x
    · exact wpAny_pure ⟨v, rfl, hY v s₁ gs' hb hv⟩

/-- a generator at a, its state the last -/
structure GenSt (w : World) (A : Around) (a L : Addr) (fp wr : List Addr) (Es : List Int) (g₀ : Array GenState) (j : Nat) (s : Shared) : Prop where
  is : s.heap.IsGen a g₀.size
  lim : s.heap.NoLimit
  run : ∃ gs, s.gens = g₀.push gs ∧ ∀ s'' : Shared, (∀ b ∈ L :: fp, ∀ o, s.heap.get? b = some o → s''.heap.get? b = some o) →
    gs.Goes (M w) A.in1 (gR (L :: wr)) (gY (L :: fp) (L :: wr) Es) (Es.length - j) (.send .none) s''

theorem lim_keep {h h' : Heap} (x : h.NoLimit) (k : ∀ o, h.get? cStatics = some o → h'.get? cStatics = some o) : h'.NoLimit := let ⟨mc, a, b⟩ := x; ⟨mc, ns_keep a k, b⟩
theorem setGen_last {s : Shared} {g₀ : Array GenState} {gs x : GenState} (e : s.gens = g₀.push gs) : (s.setGen g₀.size x).gens = g₀.push x := by
  simp only [Shared.setGen, e]
  apply Array.ext
  · simp
  · intro i h1 h2
    by_cases hi : i = g₀.size
    · subst hi; simp
    · have : i < g₀.size := by simp at h2; omega
      rw [Array.getElem_push_lt this, Array.getElem_setIfInBounds_ne (h := Ne.symm hi), Array.getElem_push_lt this]
      simp; omega

set_option maxHeartbeats 1000000 in
theorem gen_It {w : World} {A : Around} {a L : Addr} {fp wr : List Addr} {Es : List Int} {g₀ : Array GenState} (hh : A.handled = none) (hroom : A.depth < recursionLimit) (hsub : ∀ b ∈ wr, b ∈ fp)
    (ha : a ∉ L :: wr) (hc : cStatics ∉ L :: wr) : It w A a (a :: cStatics :: L :: fp) (L :: wr) Es.length (fun j => Es.getD j 0) (GenSt w A a L fp wr Es g₀) (g₀.push .finished) where
  sub := fun b hb => by
    rcases List.mem_cons.mp hb with rfl | hb
    · simp
    · exact List.mem_cons_of_mem _ (List.mem_cons_of_mem _ (List.mem_cons_of_mem _ (hsub b hb)))
  frame := fun j s h' tk' st k => ⟨let ⟨o, nm, qn, ho, r⟩ := st.is; ⟨o, nm, qn, k a (by simp) o ho, r⟩, lim_keep st.lim fun o e => k _ (by simp) o e,
    let ⟨gs, e, go⟩ := st.run; ⟨gs, e, fun s'' al => go s'' fun b hb o e => al b hb o (k b (List.mem_cons_of_mem _ (List.mem_cons_of_mem _ hb)) o e)⟩⟩
  item := fun j s Q E hj st k => by
    obtain ⟨hg, hl, gs, hgs, go⟩ := st
    have hget : s.gens[g₀.size]? = some gs := by rw [hgs]; simp
    obtain ⟨m, hm⟩ : ∃ m, Es.length - j = m + 1 := ⟨Es.length - j - 1, by omega⟩
    have go' := go (s.setGen g₀.size .running) fun b _ o e => e
    rw [hm] at go'
    refine cs_gen hh hl hroom hg hget go' (fun v s₁ gs' hb hv => ?_) fun x s₁ hx => absurd hx.2.1 (by omega)
    obtain ⟨⟨t, rfl⟩, ⟨h', tk, rfl, hk⟩, al⟩ := hv
    have e1 : Es.length - 1 - (m + 1 - 1) = j := by omega
    rw [e1]
    have g1 : ∀ x, (Shared.setGen ⟨h', (s.setGen g₀.size .running).gens, (s.setGen g₀.size .running).drawn, tk, (s.setGen g₀.size .running).os⟩ g₀.size x).gens = g₀.push x := fun x => setGen_last (setGen_last hgs)
    refine k _ t ⟨let ⟨o, nm, qn, ho, r⟩ := hg; ⟨o, nm, qn, hk a o ha ho, r⟩, lim_keep hl fun o e => hk _ o hc e, gs', g1 gs', fun s'' al' => ?_⟩ ⟨fun b o hb e => hk b o hb e, rfl, rfl⟩
    have : Es.length - (j + 1) = m := by omega
    rw [this]
    exact al s'' fun b hb o e => al' b hb o e
  fin := fun s Q E st k => by
    obtain ⟨hg, hl, gs, hgs, go⟩ := st
    have hget : s.gens[g₀.size]? = some gs := by rw [hgs]; simp
    have go' := go (s.setGen g₀.size .running) fun b _ o e => e
    refine cs_gen hh hl hroom hg hget go' (fun v s₁ gs' hb hv => ?_) fun x s₁ hx => .inl ⟨.inl hx.1, fun h' e kp st => ?_⟩
    · rw [Nat.sub_self] at hv
      exact absurd (hv.2.2 _ fun _ _ _ e => e) id
    · obtain ⟨_, _, h₁, tk, rfl, hk⟩ := hx
      have g1 : ∀ x, (Shared.setGen ⟨h₁, (s.setGen g₀.size .running).gens, (s.setGen g₀.size .running).drawn, tk, (s.setGen g₀.size .running).os⟩ g₀.size x).gens = g₀.push x := fun x => setGen_last (setGen_last hgs)
      exact k _ e ⟨fun b o hb e => kp b o (hk b o hb e), rfl, rfl⟩ (g1 _) st

/-- a callable of built-in stuff: an int to an int, the heap left as it is -/
structure Fn (w : World) (fn : Value) (fp : List Addr) (D : Int → Prop) (φ : Int → Int) (Hd : Heap → Prop) : Prop where
  frame : ∀ h h', Hd h → (∀ b ∈ fp, ∀ o, h.get? b = some o → h'.get? b = some o) → Hd h'
  call : ∀ (A : Around) s z t (Q E : Value → Shared → Prop), A.handled = none → Hd s.heap → D z → (∀ t' tk', Q (.int (φ z) t') { s with toks := tk' }) → wpAny (M w) A (call fn [.int z t]) Q E s

theorem slot_map_next : Slot "map" "__next__" "map.__next__" :=
  .of (owner := "map") (n := "__next__") (by rw [typeLookup_type, builtinLookup_eq_fast]; kernel_rfl) (by decide +kernel) (by decide +kernel) (by decide +kernel)
    (by first | exact .inl (by decide +kernel) | exact .inr (by decide +kernel)) (by rw [isSubtype_type]; kernel_rfl)
theorem slot_map_iter : Slot "map" "__iter__" "map.__iter__" :=
  .of (owner := "map") (n := "__iter__") (by rw [typeLookup_type, builtinLookup_eq_fast]; kernel_rfl) (by decide +kernel) (by decide +kernel) (by decide +kernel)
    (by first | exact .inl (by decide +kernel) | exact .inr (by decide +kernel)) (by rw [isSubtype_type]; kernel_rfl)
theorem entry_map_next : entryFor table "map.__next__" = some Builtin.«map.__next__» := by first | exact entryFor_of_fast (by kernel_rfl) | exact entryFor_of_tree (by kernel_rfl)
theorem entry_map_iter : entryFor table "map.__iter__" = some Builtin.«dict_keyiterator.__iter__» := entryFor_alias (id' := "dict_keyiterator.__iter__") (by kernel_rfl) rfl (by decide +kernel) (by kernel_rfl)
theorem args_map_next (a : Value) : argsOk "map.__next__" ⟨[a], []⟩ := by unfold argsOk; kernel_rfl
theorem args_map_iter (a : Value) : argsOk "map.__iter__" ⟨[a], []⟩ := by unfold argsOk; kernel_rfl

def mapObj (tup : Addr) (fn : Value) : Obj := { cls := .type "map", data := .fields #[.ref tup, fn] }
def tup1 (it : Addr) : Obj := { cls := .type "tuple", data := .seq #[.ref it] }

structure MapSt (m tup it : Addr) (fn : Value) (Hd : Heap → Prop) (St : Nat → Shared → Prop) (j : Nat) (s : Shared) : Prop where
  m : s.heap.get? m = some (mapObj tup fn)
  tup : s.heap.get? tup = some (tup1 it)
  hd : Hd s.heap
  st : St j s

theorem map_code {w : World} {A : Around} {E : Value → Shared → Prop} {s : Shared} {m tup it : Addr} {fn : Value} {Q : Option Value → Shared → Prop} (hm : s.heap.get? m = some (mapObj tup fn)) (ht : s.heap.get? tup = some (tup1 it))
    (h : wpAny (M w) A.in1 (Builtin.SmallTypes.nextOf (.ref it)) (fun v s₁ => s₁.heap.get? m = some (mapObj tup fn) ∧ wpAny (M w) A.in1 (call fn [v]) (fun v s' => Q (some v) s') E s₁) E s) :
    wpAny (M w) A.in1 (Builtin.«map.__next__» ⟨[.ref m], []⟩) (fun fin s' => ∃ v, fin = .done (.ret v) ∧ Q (some v) s') E s := by
  show wpAny _ _ (field (.ref m) 0 >>= _) _ _ _
  refine wpAny_bind (wpAny_field hm rfl (x := .ref tup) rfl ?_)
  refine wpAny_bind (wpAny_seqItems ht rfl ?_)
  dsimp only [tup1]
  refine wpAny_bind ?_
  rw [← Array.forIn_toList]
  simp only [List.forIn_cons, List.forIn_nil]
  refine wpAny_bind (wpAny_bind (wpAny_holding (wpAny_mono h (fun v s₁ h => ?_) fun _ _ x => x)))
  refine wpAny_pure ?_
  refine wpAny_pure ?_
  refine wpAny_bind (wpAny_field h.1 rfl (x := fn) rfl ?_)
  refine wpAny_bind (wpAny_holding (wpAny_mono h.2 (fun r s₂ hr => ?_) fun _ _ x => x))
  refine wpAny_bind (wpAny_letGo ?_)
  exact wpAny_pure ⟨r, rfl, hr⟩

theorem nof_of {w : World} {A : Around} {E : Value → Shared → Prop} {s : Shared} {it : Value} {Q : Value → Shared → Prop}
    (h : wpAny (M w) A (callSpecial? it "__next__") (fun r s' => ∃ v, r = some v ∧ Q v s') E s) : wpAny (M w) A (Builtin.SmallTypes.nextOf it) Q E s := by
  unfold Builtin.SmallTypes.nextOf
  refine wpAny_bind (wpAny_mono h (fun r s' h => ?_) fun _ _ x => x)
  obtain ⟨v, rfl, h⟩ := h
  exact wpAny_pure h

theorem map_It {w : World} {A : Around} {m tup it : Addr} {fn : Value} {fpF fp wr : List Addr} {D : Int → Prop} {φ : Int → Int} {Hd : Heap → Prop} {n : Nat} {f : Nat → Int} {St : Nat → Shared → Prop} {gE : Array GenState}
    (hh : A.handled = none) (I : It w A.in1 it fp wr n f St gE) (F : Fn w fn fpF D φ Hd) (hm : m ∉ wr) (ht : tup ∉ wr) (hF : ∀ b ∈ fpF, b ∉ wr) (hD : ∀ j, j < n → D (f j)) :
    It w A m (m :: tup :: (fpF ++ fp)) wr n (fun j => φ (f j)) (MapSt m tup it fn Hd St) gE where
  sub := fun b hb => List.mem_cons_of_mem _ (List.mem_cons_of_mem _ (List.mem_append_right _ (I.sub b hb)))
  frame := fun j s h' tk' st k => ⟨k _ (by simp) _ st.m, k _ (by simp) _ st.tup, F.frame _ _ st.hd fun b hb o e => k b (by simp [hb]) o e, I.frame j s h' tk' st.st fun b hb o e => k b (by simp [hb]) o e⟩
  item := fun j s Q E hj st k => by
    have hT : s.TypeIs (.ref m) "map" := ⟨_, st.m, rfl⟩
    refine wpAny_callSpecial?_slot (name := Str.ofString "__next__") hT slot_map_next (wpAny_call_entry slot_map_next hT entry_map_next ?_ (args_map_next _))
    refine map_code st.m st.tup ?_
    refine nof_of (I.item j s _ _ hj st.st fun s₁ t st₁ mv => ⟨_, rfl, mv.1 _ _ hm st.m, ?_⟩)
    have hd₁ : Hd s₁.heap := F.frame _ _ st.hd fun b hb o e => mv.1 b o (hF b hb) e
    refine F.call _ _ _ _ _ _ hh hd₁ (hD j hj) fun t' tk' => ?_
    exact k _ t' ⟨mv.1 _ _ hm st.m, mv.1 _ _ ht st.tup, hd₁, I.frame _ _ s₁.heap tk' st₁ fun _ _ _ e => e⟩ mv
  fin := fun s Q E st k => by
    have hT : s.TypeIs (.ref m) "map" := ⟨_, st.m, rfl⟩
    refine wpAny_callSpecial?_slot (name := Str.ofString "__next__") hT slot_map_next (wpAny_call_entry slot_map_next hT entry_map_next ?_ (args_map_next _))
    refine map_code st.m st.tup ?_
    exact nof_of (I.fin s _ _ st.st fun s' e mv g st => k s' e mv g st)

theorem bit_code {w : World} {A : Around} {E : Value → Shared → Prop} {s : Shared} {it : Addr} {b : Array UInt8} {t : Tok} {i : Nat} {c : UInt8} {Q : Value → Shared → Prop} (ho : s.heap.get? it = some (bIt b t i)) (hx : b[i]? = some c)
    (hQ : ∀ h', h'.get? it = some (bIt b t (i + 1)) → Heap.SameBut it s.heap h' → Q (.int (c.toNat : Int) s.toks) { s with heap := h', toks := s.toks + 1 }) :
    wpAny (M w) A.in1 (Builtin.«bytes_iterator.__next__» ⟨[.ref it], []⟩) (fun fin s' => ∃ v, fin = .done (.ret v) ∧ Q v s') E s := by
  show wpAny _ _ (field (.ref it) 0 >>= _) _ _ s
  refine wpAny_bind (wpAny_field ho rfl (x := .bytes b t) rfl ?_)
  show wpAny _ _ (if (Value.bytes b t == Value.none) = true then _ else _) _ _ s
  rw [if_neg (show ¬ ((Value.bytes b t == Value.none) = true) from Bool.false_ne_true)]
  show wpAny _ _ (field (.ref it) 1 >>= _) _ _ s
  refine wpAny_bind (wpAny_field ho rfl (x := .int i 0) rfl ?_)
  refine wpAny_bind (wpAny_of_eq (a := b) rfl ?_)
  simp only [Int.toNat_natCast, hx]
  refine wpAny_bind (wpAny_setField ho rfl (by simp) (wpAny_bind (wpAny_mkInt (wpAny_pure ⟨_, rfl, hQ _ ?_ (Heap.SameBut.update ..)⟩))))
  rw [Heap.get?_update_self _ ho (Obj.isFreed_of_fields (Obj.data_mapFields rfl _))]
  simp [Obj.mapFields, bIt, rawInt]

theorem cs_bit {w : World} {A : Around} {E : Value → Shared → Prop} {s : Shared} {it : Addr} {b : Array UInt8} {t : Tok} {i : Nat} {c : UInt8} {Q : Option Value → Shared → Prop} (ho : s.heap.get? it = some (bIt b t i)) (hx : b[i]? = some c)
    (hQ : ∀ h', h'.get? it = some (bIt b t (i + 1)) → Heap.SameBut it s.heap h' → Q (some (.int (c.toNat : Int) s.toks)) { s with heap := h', toks := s.toks + 1 }) :
    wpAny (M w) A (callSpecial? (.ref it) "__next__") Q E s :=
  wpAny_callSpecial?_slot (name := Str.ofString "__next__") (T := "bytes_iterator") ⟨_, ho, rfl⟩ KBw.slot_next
    (wpAny_call_entry KBw.slot_next (T := "bytes_iterator") ⟨_, ho, rfl⟩ KBw.entry_next (bit_code ho hx hQ) (KBw.args_next _))

def byteAt (b : Array UInt8) (j : Nat) : Int := ((b[j]?).getD 0).toNat
theorem byteAt_of {b : Array UInt8} {j : Nat} (h : j < b.size) : ∃ c, b[j]? = some c ∧ (c.toNat : Int) = byteAt b j := ⟨b[j], by simp [h], by simp [byteAt, h]⟩

theorem plain_bnext : plainId "bytes_iterator.__next__" = true := by decide +kernel
theorem plain_mnext : plainId "map.__next__" = true := by decide +kernel

structure BitNx (NV it : Addr) (b : Array UInt8) (t : Tok) (j : Nat) (h : Heap) : Prop where
  nv : h.get? NV = some (mwObj "bytes_iterator.__next__" (.ref it))
  it : h.get? it = some (bIt b t j)
theorem bit_Nx {w : World} {NV it : Addr} {b : Array UInt8} {t : Tok} (ne : NV ≠ it) : Nx w NV [NV, it] [it] b.size (byteAt b) (BitNx NV it b t) where
  sub := fun b hb => List.mem_cons_of_mem _ hb
  frame := fun j h h' st k => ⟨k _ (by simp) _ st.nv, k _ (by simp) _ st.it⟩
  call := fun A j h g d tk o Q E pos env hA hj st k => by
    refine cw_mw0 (s := ⟨h, g, d, tk, o⟩) st.nv (.inl rfl) rfl ?_
    refine call_bound (s := ⟨h, g, d, tk, o⟩) st.nv (.inl rfl) rfl (fun Q E q => wpAny_of_eq (chk_bnext it) q) (plainId_quiet plain_bnext _) (codeAny_builtin KBw.entry_next ?_)
    rw [Around.under_plainId plain_bnext _]
    obtain ⟨c, e, e'⟩ := byteAt_of hj
    refine wpAny_mono (bit_code (s := ⟨h, g, d, tk, o⟩) (Q := Q) (E := E) st.it e fun h' e1 sb => ?_) (fun fin s' x => ?_) fun _ _ x => x
    · rw [e']
      exact k _ _ _ ⟨(sb.2 _ ne).trans st.nv, e1⟩ fun b x hb e => (sb.2 b (fun q => hb (by simp [q]))).trans e
    · obtain ⟨v, rfl, q⟩ := x
      exact q

structure MbNx (NV m tup it : Addr) (fn : Value) (Hd : Heap → Prop) (b : Array UInt8) (t : Tok) (j : Nat) (h : Heap) : Prop where
  nv : h.get? NV = some (mwObj "map.__next__" (.ref m))
  m : h.get? m = some (mapObj tup fn)
  tup : h.get? tup = some (tup1 it)
  hd : Hd h
  it : h.get? it = some (bIt b t j)
theorem mb_Nx {w : World} {NV m tup it : Addr} {fn : Value} {fpF : List Addr} {D : Int → Prop} {φ : Int → Int} {Hd : Heap → Prop} {b : Array UInt8} {t : Tok} (F : Fn w fn fpF D φ Hd) (n1 : NV ≠ it) (n2 : m ≠ it) (n3 : tup ≠ it) (n4 : it ∉ fpF)
    (hD : ∀ j, j < b.size → D (byteAt b j)) : Nx w NV (NV :: m :: tup :: it :: fpF) [it] b.size (fun j => φ (byteAt b j)) (MbNx NV m tup it fn Hd b t) where
  sub := fun b hb => by simp at hb; simp [hb]
  frame := fun j h h' st k => ⟨k _ (by simp) _ st.nv, k _ (by simp) _ st.m, k _ (by simp) _ st.tup, F.frame _ _ st.hd fun b hb o e => k b (by simp [hb]) o e, k _ (by simp) _ st.it⟩
  call := fun A j h g d tk o Q E pos env hA hj st k => by
    refine cw_mw0 (s := ⟨h, g, d, tk, o⟩) st.nv (.inl rfl) rfl ?_
    refine call_bound (s := ⟨h, g, d, tk, o⟩) st.nv (.inl rfl) rfl (fun Q E q => wpAny_of_eq (chk_mnext m) q) (plainId_quiet plain_mnext _) (codeAny_builtin entry_map_next ?_)
    rw [Around.under_plainId plain_mnext _]
    obtain ⟨c, e, e'⟩ := byteAt_of hj
    refine wpAny_mono (map_code (s := ⟨h, g, d, tk, o⟩) (Q := fun r s' => ∃ v, r = some v ∧ Q v s') (E := E) st.m st.tup (nof_of (cs_bit (s := ⟨h, g, d, tk, o⟩) st.it e fun h' e1 sb => ⟨_, rfl, (sb.2 _ n2).trans st.m, ?_⟩))) (fun fin s' x => ?_) fun _ _ x => x
    · have hd' : Hd h' := F.frame _ _ st.hd fun b hb o e => (sb.2 b (fun q => n4 (q ▸ hb))).trans e
      rw [e']
      refine F.call _ _ _ _ _ _ hA hd' (hD j hj) fun t' tk' => ⟨_, rfl, ?_⟩
      exact k _ _ _ ⟨(sb.2 _ n1).trans st.nv, (sb.2 _ n2).trans st.m, (sb.2 _ n3).trans st.tup, hd', e1⟩ fun b x hb e => (sb.2 b (fun q => hb (by simp [q]))).trans e
    · obtain ⟨v, rfl, v', q⟩ := x
      obtain ⟨q1, q2⟩ := q
      cases q1
      exact q2
/-! F8 -/
theorem it_loop {w : World} {A : Around} {I S : Addr} {fp wr : List Addr} {n : Nat} {f : Nat → Int} {St : Nat → Shared → Prop} {gE : Array GenState} {R : Result → Shared → Prop}
    (T : It w A.in1 I fp wr n f St gE) (hr : ∀ j, j < n → 0 ≤ f j ∧ f j < 256) (hz : n ≤ 1000) (hS : S ∉ fp) (s₀ : Shared)
    (hR : ∀ s' t, Mv (S :: wr) s₀ s' → s'.gens = gE → R (.ok (.ret (.bytes (byteArr ((List.range n).map f)) t))) s') :
    ∀ (k j : Nat) (s : Shared), n - j = k → j ≤ n → St j s → s.heap.get? S = some { cls := .type "bytearray", data := .bytearray (byteArr ((List.range j).map f)) } → Mv (S :: wr) s₀ s →
      codeAny (M w) A (.builtin "bytes.__new__.loop" ⟨[.type "bytes", .ref I, .ref S], []⟩) R s := by
  have hSw : S ∉ wr := fun q => hS (T.sub S q)
  intro k
  induction k with
  | zero =>
    intro j s hk hle st hs mv
    have hj : j = n := by omega
    subst hj
    refine codeAny_builtin F.bm_entry_loop ?_
    rw [Around.under_plainId F.bm_plain_loop _]
    show wpAny _ A.in1 (pyNext (.ref I) >>= _) _ _ s
    refine wpAny_bind (T.stop st fun s' m hg => ?_)
    have hS' : s'.heap.get? S = some { cls := .type "bytearray", data := .bytearray (byteArr ((List.range j).map f)) } := m.1 S _ hSw hs
    refine wpAny_bind ?_
    unfold Builtin.Bytes.payload Builtin.Bytes.payload?
    refine wpAny_bind (wpAny_bind (wpAny_load hS' ?_))
    refine wpAny_pure (wpAny_pure ?_)
    refine wpAny_bind (wpAny_mkBytes ?_ (by rw [byteArr_size, sizeLine_eq]; simp; omega))
    show wpAny _ _ (if (Value.type "bytes" == Value.type "bytes") = true then _ else _) _ _ _
    refine bm_if_true (by decide) ?_
    have mv' : Mv (S :: wr) s₀ s' := ⟨fun b o hb e => m.1 b o (fun q => hb (List.mem_cons_of_mem _ q)) (mv.1 b o hb e), m.2.1.trans mv.2.1, m.2.2.trans mv.2.2⟩
    first
      | exact wpAny_pure (hR _ _ mv' hg)
      | exact wpAny_bind (wpAny_pure (wpAny_pure (hR _ _ mv' hg)))
  | succ k ih =>
    intro j s hk hle st hs mv
    have hlt : j < n := by omega
    obtain ⟨h0, h1⟩ := hr j hlt
    refine codeAny_builtin F.bm_entry_loop ?_
    rw [Around.under_plainId F.bm_plain_loop _]
    show wpAny _ A.in1 (pyNext (.ref I) >>= _) _ _ s
    refine wpAny_bind (T.nxt hlt st fun s' t st' m => ?_)
    have hS' : s'.heap.get? S = some { cls := .type "bytearray", data := .bytearray (byteArr ((List.range j).map f)) } := m.1 S _ hSw hs
    refine wpAny_bind (wpAny_holding (wpAny_of_eq (rfl : asIndex (.int (f j) t) = pure (f j)) ?_))
    refine wpAny_bind (wpAny_letGo ?_)
    refine bm_if_false (by simp only [Bool.or_eq_false_iff, decide_eq_false_iff_not]; omega) ?_
    refine wpAny_bind ?_
    show wpAny _ _ (updateBytearray S (·.push (f j).toNat.toUInt8)) _ _ _
    unfold updateBytearray
    refine wpAny_bind (wpAny_load hS' ?_)
    show wpAny _ _ (update S (Obj.mapBytearray (·.push (f j).toNat.toUInt8)) >>= fun _ => lookBehind S) _ _ _
    refine wpAny_bind (wpAny_update hS' ?_)
    have hsnoc : (byteArr ((List.range j).map f)).push (f j).toNat.toUInt8 = byteArr ((List.range (j + 1)).map f) := by
      unfold byteArr
      rw [List.range_succ]; simp
    have hS₂ : (s'.heap.update S (Obj.mapBytearray (·.push (f j).toNat.toUInt8))).get? S = some { cls := .type "bytearray", data := .bytearray (byteArr ((List.range (j + 1)).map f)) } := by
      rw [← hsnoc]
      exact Heap.get?_update_self (Obj.mapBytearray (·.push (f j).toNat.toUInt8)) hS' rfl
    refine wpAny_lookBehind hS₂ ?_ ?_
    · show (if (byteArr ((List.range (j + 1)).map f)).size > sizeLine then some "bytearray:memory" else none) = none
      rw [if_neg]
      rw [byteArr_size, sizeLine_eq]; simp; omega
    · refine wpAny_pure ⟨plainId_quiet F.bm_plain_loop _, ih (j + 1) _ (by omega) hlt ?_ hS₂ ?_⟩
      · exact T.frame _ s' _ s'.toks st' fun b hb o e => (Heap.get?_update_other _ _ (by intro q; subst q; exact hS hb)).trans e
      · refine ⟨fun b o hb e => ?_, m.2.1.trans mv.2.1, m.2.2.trans mv.2.2⟩
        refine (Heap.get?_update_other _ _ (fun q => hb (by simp [q]))).trans ?_
        exact m.1 b o (fun q => hb (List.mem_cons_of_mem _ q)) (mv.1 b o hb e)

/-- an iterator as bytes() takes it -/
structure BArg (T : String) : Prop where
  nb : typeLookup (.type T) "__bytes__" = pure none
  ni : typeLookup (.type T) "__index__" = pure none
  nbuf : typeLookup (.type T) "__buffer__" = pure none
  nlen : typeLookup (.type T) "__len__" = pure none
  nhint : typeLookup (.type T) "__length_hint__" = pure none
theorem barg_gen : BArg "generator" := ⟨by rw [typeLookup_type, builtinLookup_eq_fast]; kernel_rfl, by rw [typeLookup_type, builtinLookup_eq_fast]; kernel_rfl, by rw [typeLookup_type, builtinLookup_eq_fast]; kernel_rfl, by rw [typeLookup_type, builtinLookup_eq_fast]; kernel_rfl, by rw [typeLookup_type, builtinLookup_eq_fast]; kernel_rfl⟩
theorem barg_map : BArg "map" := ⟨by rw [typeLookup_type, builtinLookup_eq_fast]; kernel_rfl, by rw [typeLookup_type, builtinLookup_eq_fast]; kernel_rfl, by rw [typeLookup_type, builtinLookup_eq_fast]; kernel_rfl, by rw [typeLookup_type, builtinLookup_eq_fast]; kernel_rfl, by rw [typeLookup_type, builtinLookup_eq_fast]; kernel_rfl⟩

theorem it_new {w : World} {A : Around} {E : Value → Shared → Prop} {s : Shared} {I : Addr} {ty : String} {o : Obj} {vs : Array Value} {Q : Value → Shared → Prop}
    (ho : s.heap.get? I = some o) (hc : o.cls = .type ty) (hd : o.data = .fields vs) (bt : BArg ty) (hiter : ∀ (A : Around) (Q : Value → Shared → Prop) (E : Value → Shared → Prop), Q (.ref I) s → wpAny (M w) A (pyIter (.ref I)) Q E s)
    (h : codeAny (M w) A (.builtin "bytes.__new__.loop" ⟨[.type "bytes", .ref I, .ref s.heap.objs.size], []⟩) (wants Q E) { s with heap := s.heap.push { cls := .type "bytearray", data := .bytearray #[] } }) :
    codeAny (M w) A (.call (.builtin "bytes.__new__") ⟨[.type "bytes", .ref I], []⟩) (wants Q E) s := by
  refine codeAny_of_tree ?_
  show wpAny _ A.in1 (do checkBuiltinCall "bytes.__new__" ⟨[.type "bytes", .ref I], []⟩; again (.builtin "bytes.__new__" ⟨[.type "bytes", .ref I], []⟩)) _ _ s
  refine wpAny_bind (wpAny_of_eq (F.bm_newCall _) (wpAny_pure ⟨plainId_quiet F.bm_plain _, codeAny_builtin F.bm_entry ?_⟩))
  rw [Around.under_plainId F.bm_plain _]
  have hT : s.TypeIs (.ref I) ty := ⟨o, ho, hc⟩
  unfold Builtin.«bytes.__new__»
  refine wpAny_bind (wpAny_of_eq (a := true) rfl ?_)
  refine bm_if_false rfl ?_
  refine wpAny_bind (wpAny_of_eq F.bm_sub ?_)
  refine bm_if_false rfl ?_
  refine wpAny_bind (wpAny_of_eq (F.bm_bind _) ?_)
  refine wpAny_bind (wpAny_of_eq (a := ()) rfl ?_)
  refine wpAny_bind (wpAny_of_eq (a := ()) rfl ?_)
  refine bm_if_false rfl ?_
  refine wpAny_bind (wpAny_specialOf hT bt.nb ?_)
  refine wpAny_bind (wpAny_bind ?_)
  show wpAny _ _ (load I >>= _) _ _ _
  refine wpAny_bind (wpAny_load ho ?_)
  rw [hd]
  refine wpAny_pure (wpAny_pure ?_)
  refine bm_if_false rfl ?_
  refine wpAny_bind (wpAny_specialOf hT bt.ni ?_)
  refine bm_if_true rfl ?_
  first
    | show wpAny _ _ (Builtin.Bytes.buffer? "bytes.__new__" (.ref I) true >>= _) _ _ _
    | (refine wpAny_bind ?_; show wpAny _ _ (Builtin.Bytes.buffer? "bytes.__new__" (.ref I) true >>= _) _ _ _)
  refine wpAny_bind ?_
  unfold Builtin.Bytes.buffer?
  refine wpAny_bind (wpAny_specialOf hT bt.nbuf ?_)
  refine wpAny_bind (wpAny_specialOf hT bt.nbuf ?_)
  refine wpAny_pure ?_
  refine wpAny_bind (wpAny_tryCatch (hiter _ _ _ ?_))
  refine wpAny_bind (wpAny_holding ?_)
  unfold Builtin.Bytes.lengthHint
  refine wpAny_bind (wpAny_specialOf hT bt.nlen ?_)
  dsimp only
  refine bm_if_false (by decide +kernel) ?_
  refine bm_if_false rfl ?_
  refine wpAny_bind (wpAny_specialOf hT bt.nhint ?_)
  refine wpAny_pure ?_
  refine wpAny_bind ?_
  unfold Builtin.Bytes.newBytearray
  refine wpAny_newObj_type ?_ (Nat.zero_le _)
  first
    | exact wpAny_pure ⟨plainId_quiet F.bm_plain_loop _, h⟩
    | exact wpAny_pure (wpAny_pure ⟨plainId_quiet F.bm_plain_loop _, h⟩)

theorem bytes_it {w : World} {A : Around} {E : Value → Shared → Prop} {s : Shared} {I : Addr} {ty : String} {o : Obj} {vs : Array Value} {Q : Value → Shared → Prop} {fp wr : List Addr} {n : Nat} {f : Nat → Int} {St : Nat → Shared → Prop} {gE : Array GenState}
    (ho : s.heap.get? I = some o) (hc : o.cls = .type ty) (hd : o.data = .fields vs) (bt : BArg ty) (hiter : ∀ (A : Around) (Q : Value → Shared → Prop) (E : Value → Shared → Prop), Q (.ref I) s → wpAny (M w) A (pyIter (.ref I)) Q E s)
    (T : It w A.in1.in1 I fp wr n f St gE) (hr : ∀ j, j < n → 0 ≤ f j ∧ f j < 256) (hz : n ≤ 1000) (hfp : ∀ b ∈ fp, b < s.heap.objs.size) (st : St 0 s)
    (hQ : ∀ s' t, (∀ b o, b ∉ wr → s.heap.get? b = some o → s'.heap.get? b = some o) → s'.drawn = s.drawn → s'.os = s.os → s'.gens = gE → Q (.bytes (byteArr ((List.range n).map f)) t) s') :
    wpAny (M w) A (call (.type "bytes") [.ref I]) Q E s := by
  refine callType_codes (Q₁ := fun obj s₁ => s₁.TypeIs obj "bytes" ∧ Q obj s₁) F.bm_called (F.bm_typeCall _) F.entry_object_init ?_ fun obj s₁ h₁ =>
    ⟨h₁.1, F.args_object_init_2 obj _, object_init_meets F.bm_called.init.lookup F.bm_called.made (by decide) prog w A.in1 _ s₁ ⟨h₁.1, rfl, h₁.2⟩⟩
  refine it_new ho hc hd bt hiter ?_
  have hS : s.heap.objs.size ∉ fp := fun q => Nat.lt_irrefl _ (hfp _ q)
  refine it_loop T hr hz hS { s with heap := s.heap.push { cls := .type "bytearray", data := .bytearray #[] } } (fun s' t mv hg => ?_) n 0 _ rfl (Nat.zero_le _) ?_ (Heap.get?_push_size _ rfl) ⟨fun _ _ _ e => e, rfl, rfl⟩
  · refine ⟨PySem.W.typeIs_bytes _ _ _, hQ s' t (fun b o hb e => mv.1 b o (fun q => ?_) (Heap.get?_push_of_some _ e)) mv.2.1 mv.2.2 hg⟩
    rcases List.mem_cons.mp q with rfl | q
    · exact Nat.lt_irrefl _ (Heap.lt_size e)
    · exact hb q
  · exact T.frame 0 s _ s.toks st fun b _ o e => Heap.get?_push_of_some _ e
/-! F9 -/
theorem slot_wd_get : Slot "wrapper_descriptor" "__get__" "wrapper_descriptor.__get__" :=
  .of (owner := "wrapper_descriptor") (n := "__get__") (by rw [typeLookup_type, builtinLookup_eq_fast]; kernel_rfl) (by decide +kernel) (by decide +kernel) (by decide +kernel)
    (by first | exact .inl (by decide +kernel) | exact .inr (by decide +kernel)) (by rw [isSubtype_type]; kernel_rfl)
theorem entry_wd_get : entryFor table "wrapper_descriptor.__get__" = some Builtin.«wrapper_descriptor.__get__» := by first | exact entryFor_of_fast (by kernel_rfl) | exact entryFor_of_tree (by kernel_rfl)
theorem args_wd_get (a b c : Value) : argsOk "wrapper_descriptor.__get__" ⟨[a, b, c], []⟩ := by unfold argsOk; kernel_rfl
theorem no_wd_set : typeLookup (.type "wrapper_descriptor") "__set__" = pure none := by rw [typeLookup_type, builtinLookup_eq_fast]; kernel_rfl
theorem no_wd_del : typeLookup (.type "wrapper_descriptor") "__delete__" = pure none := by rw [typeLookup_type, builtinLookup_eq_fast]; kernel_rfl

/-- a type whose iterators hand out their own `__next__` -/
structure NxTy (ty : String) (id : String) (gid : String) : Prop where
  ga : Slot ty "__getattribute__" gid
  ent : entryFor table gid = some Builtin.«object.__getattribute__»
  args : ∀ a b, argsOk gid ⟨[a, b], []⟩
  noga : typeLookup (.type ty) "__getattr__" = pure none
  lk : typeLookup (.type ty) "__next__" = pure (some (.builtin id))
  tid : typeOf (.builtin id) = pure (.type "wrapper_descriptor")
  own : isSubtype (.type ty) (.type (".".intercalate (id.cutAt '.').dropLast)) = pure true

theorem wd_code {w : World} {A : Around} {s : Shared} {ty id gid : String} {a : Addr} {o : Obj} {R : Result → Shared → Prop} (N : NxTy ty id gid) (ho : s.heap.get? a = some o) (hc : o.cls = .type ty)
    (h : R (.ok (.ret (.ref s.heap.objs.size))) { s with heap := s.heap.push (mwObj id (.ref a)) }) :
    codeAny (M w) A (.call (.builtin "wrapper_descriptor.__get__") ⟨[.builtin id, .ref a, .type ty], []⟩) R s := by
  have hT : s.TypeIs (.ref a) ty := ⟨o, ho, hc⟩
  have hT5 : s.TypeIs (.builtin id) "wrapper_descriptor" := N.tid
  refine codeAny_call_builtin slot_wd_get.plain entry_wd_get (slot_wd_get.check _ _ _ _ _ _ _ _ hT5 (args_wd_get _ _ _) ?_)
  have f1 := N.own
  repeat (any_goals (first | assumption | wp_step))

theorem nx_code {w : World} {A : Around} {E : Value → Shared → Prop} {s : Shared} {ty id gid : String} {a : Addr} {vs : Array Value} {tk : Tok} {Q : PySem.Fin → Shared → Prop} (N : NxTy ty id gid) (ho : s.heap.get? a = some { cls := .type ty, data := .fields vs })
    (h : Q (.done (.ret (.ref s.heap.objs.size))) { s with heap := s.heap.push (mwObj id (.ref a)) }) :
    wpAny (M w) A (Builtin.«object.__getattribute__» ⟨[.ref a, .str "__next__" tk], []⟩) Q E s := by
  have hT : s.TypeIs (.ref a) ty := ⟨_, ho, rfl⟩
  have hT5 : s.TypeIs (.builtin id) "wrapper_descriptor" := N.tid
  have f4 := N.lk
  have f5 := N.tid
  have f6 := slot_wd_get.lookup
  have f7 := no_wd_set
  have f8 := no_wd_del
  repeat (any_goals (first | assumption | wp_step))
  exact wd_code N ho rfl (wpAny_pure h)

theorem nx_call {w : World} {A : Around} {s : Shared} {ty id gid : String} {a : Addr} {vs : Array Value} {tk : Tok} {R : Result → Shared → Prop} (N : NxTy ty id gid) (ho : s.heap.get? a = some { cls := .type ty, data := .fields vs })
    (h : R (.ok (.ret (.ref s.heap.objs.size))) { s with heap := s.heap.push (mwObj id (.ref a)) }) :
    codeAny (M w) A (.call (.builtin gid) ⟨[.ref a, .str "__next__" tk], []⟩) R s :=
  codeAny_call_builtin N.ga.plain N.ent (N.ga.check _ _ _ _ _ _ _ _ (show s.TypeIs (.ref a) ty from ⟨_, ho, rfl⟩) (N.args _ _) (nx_code N ho h))

theorem nx_attr {w : World} {A : Around} {E : Value → Shared → Prop} {s : Shared} {ty id gid : String} {a : Addr} {vs : Array Value} {ex : Bool} {Q : Value → Shared → Prop} (N : NxTy ty id gid) (ho : s.heap.get? a = some { cls := .type ty, data := .fields vs })
    (h : Q (.ref s.heap.objs.size) { s with heap := s.heap.push (mwObj id (.ref a)), toks := s.toks + 1 }) :
    wpAny (M w) A (getAttr (.ref a) "__next__" ex) Q E s := by
  have hT : s.TypeIs (.ref a) ty := ⟨_, ho, rfl⟩
  have f1 := N.noga
  have f2 := N.ga.lookup
  have f3 := N.ga.bind (.ref a)
  unfold getAttr getAttrBy
  repeat (any_goals (first | assumption | wp_step))
  rw [if_neg (by simp [onTheHeap])]
  unfold boundAndCalled
  repeat (any_goals (first | assumption | wp_step))
  refine nx_call (s := ⟨s.heap, s.gens, s.drawn, s.toks + 1, s.os⟩) N ho ?_
  repeat (any_goals (first | assumption | wp_step))

theorem nxty_bit : NxTy "bytes_iterator" "bytes_iterator.__next__" "object.__getattribute__" where
  ga := .of (owner := "object") (n := "__getattribute__") (by rw [typeLookup_type, builtinLookup_eq_fast]; kernel_rfl) (by decide +kernel) (by decide +kernel) (by decide +kernel)
    (by first | exact .inl (by decide +kernel) | exact .inr (by decide +kernel)) (by rw [isSubtype_type]; kernel_rfl)
  ent := by first | exact entryFor_of_fast (by kernel_rfl) | exact entryFor_of_tree (by kernel_rfl)
  args := fun a b => by unfold argsOk; kernel_rfl
  noga := by rw [typeLookup_type, builtinLookup_eq_fast]; kernel_rfl
  lk := by rw [typeLookup_type, builtinLookup_eq_fast]; kernel_rfl
  tid := by kernel_rfl
  own := by rw [isSubtype_type]; kernel_rfl
theorem nxty_map : NxTy "map" "map.__next__" "map.__getattribute__" where
  ga := .of (owner := "map") (n := "__getattribute__") (by rw [typeLookup_type, builtinLookup_eq_fast]; kernel_rfl) (by decide +kernel) (by decide +kernel) (by decide +kernel)
    (by first | exact .inl (by decide +kernel) | exact .inr (by decide +kernel)) (by rw [isSubtype_type]; kernel_rfl)
  ent := entryFor_alias (id' := "object.__getattribute__") (by kernel_rfl) (by first | rfl | decide +kernel) (by decide +kernel) (by kernel_rfl)
  args := fun a b => by unfold argsOk; kernel_rfl
  noga := by rw [typeLookup_type, builtinLookup_eq_fast]; kernel_rfl
  lk := by rw [typeLookup_type, builtinLookup_eq_fast]; kernel_rfl
  tid := by kernel_rfl
  own := by rw [isSubtype_type]; kernel_rfl
/-! F10 -/
/-- what the class's objects answer -/
structure ClsOk (K : Frag) : Prop where
  noT : K.lookup T = none
  ga : findIn K (.ref 259) "__getattribute__" = some (some (.builtin "object.__getattribute__"))
  gt : findIn K (.ref 259) "__getattr__" = some none
  hd : hasDictIn K 259 = true
  f1 : findIn K (.ref 259) "encode_bytes" = some (some (.ref 72))
  f2 : findIn K (.ref 259) "decode_bytes" = some (some (.ref 93))
  f3 : findIn K (.ref 259) "encode_transposed_bytes" = some (some (.ref 151))
  f4 : findIn K (.ref 259) "decode_transposed_bytes" = some (some (.ref 158))
  t1 : typeIn K (.ref 72) = some (.type "function")
  t2 : typeIn K (.ref 93) = some (.type "function")
  t3 : typeIn K (.ref 151) = some (.type "function")
  t4 : typeIn K (.ref 158) = some (.type "function")
  n1 : findIn K (.ref 259) "_encode64" = some (some .none)
  n2 : findIn K (.ref 259) "_decode64" = some (some .none)
  n3 : findIn K (.ref 259) "_encode_bytes" = some (some .none)
  n4 : findIn K (.ref 259) "_decode_bytes" = some (some .none)

theorem kin_adv {K : Frag} {h h' : Heap} {g g' : Array GenState} {d d' : Drawn} {o o' : OsState} (C : ClsOk K) (X : K.In h) (a : AdvH h g d o h' g' d' o') : K.In h' :=
  fun b x e => a.keep b x (fun q => by rw [q, C.noT] at e; cases e) (X b x e)

structure EngA where
  dx : Addr
  e64 : Addr
  d64 : Addr
  dd : Addr
  meb : Addr
  mdb : Addr
  ct : Tok
  es : List DictEntry
  n : Nat
  df : Int → Option Value

def instObj (dx : Addr) : Obj := ⟨.ref 259, some dx, .plain, #[]⟩

theorem map_adv {w : World} {h h' : Heap} {g g' : Array GenState} {d d' : Drawn} {o o' : OsState} {a : Addr} {f : Int → Option Value} (k : AdvH h g d o h' g' d' o') (ha : 262 ≤ a) (m : h.MapOf (intKind prog w) a f) : h'.MapOf (intKind prog w) a f :=
  let ⟨o, es, ep, ho, r⟩ := m; ⟨o, es, ep, k.keep _ _ (ne_T ha) ho, r⟩

/-- an engine of the text stands at x -/
structure Eng (w : World) (h : Heap) (x : Addr) (a : EngA) (cm : Array UInt8) (big : Bool) : Prop where
  ox : h.get? x = some (instObj a.dx)
  odx : h.get? a.dx = some (dictOf a.es a.n)
  l1 : getL "_encode64" a.es = some (some (.ref a.e64))
  l2 : getL "_decode64" a.es = some (some (.ref a.d64))
  l3 : getL "_encode_bytes" a.es = some (some (.ref a.meb))
  l4 : getL "_decode_bytes" a.es = some (some (.ref a.mdb))
  m1 : getL "encode_bytes" a.es = some none
  m2 : getL "decode_bytes" a.es = some none
  m3 : getL "encode_transposed_bytes" a.es = some none
  m4 : getL "decode_transposed_bytes" a.es = some none
  e64 : h.get? a.e64 = some (mwObj "bytes.__getitem__" (.bytes cm a.ct))
  d64 : h.get? a.d64 = some (bwObj "dict.__getitem__" (.ref a.dd))
  dd : h.MapOf (intKind prog w) a.dd a.df
  df : ∀ j, j < 64 → ∃ t, a.df (byteAt cm j) = some (.int (j : Int) t)
  meb : h.get? a.meb = some (methodObj (.ref (if big then 86 else 79)) (.ref x))
  mdb : h.get? a.mdb = some (methodObj (.ref (if big then 107 else 100)) (.ref x))
  hx : 262 ≤ x
  hi : 262 ≤ a.dx ∧ 262 ≤ a.e64 ∧ 262 ≤ a.d64 ∧ 262 ≤ a.dd ∧ 262 ≤ a.meb ∧ 262 ≤ a.mdb

theorem Eng.adv {w : World} {h h' : Heap} {g g' : Array GenState} {d d' : Drawn} {o o' : OsState} {x : Addr} {a : EngA} {cm : Array UInt8} {big : Bool} (e : Eng w h x a cm big) (k : AdvH h g d o h' g' d' o') : Eng w h' x a cm big :=
  ⟨k.keep _ _ (ne_T e.hx) e.ox, k.keep _ _ (ne_T e.hi.1) e.odx, e.l1, e.l2, e.l3, e.l4, e.m1, e.m2, e.m3, e.m4, k.keep _ _ (ne_T e.hi.2.1) e.e64, k.keep _ _ (ne_T e.hi.2.2.1) e.d64, map_adv k e.hi.2.2.2.1 e.dd, e.df,
    k.keep _ _ (ne_T e.hi.2.2.2.2.1) e.meb, k.keep _ _ (ne_T e.hi.2.2.2.2.2) e.mdb, e.hx, e.hi⟩
theorem Eng.inst {w : World} {h : Heap} {x : Addr} {a : EngA} {cm : Array UInt8} {big : Bool} (e : Eng w h x a cm big) : PySem.W.InstAt h x (instObj a.dx) 259 (some (dictOf a.es a.n)) := ⟨e.ox, rfl, rfl, e.odx⟩

section
variable {w : World} {A : Around} {E : Value → Shared → Prop} {s : Shared} {K : Frag} {x : Addr} {a : EngA} {cm : Array UInt8} {big : Bool} {name : Str} {v : Value}

theorem eng_attr {ex : Bool} {Q : Value → Shared → Prop} (C : ClsOk K) (X : K.In s.heap) (e : Eng w s.heap x a cm big) (n : findIn K (.ref 259) name = some (some .none)) (l : getL name a.es = some (some v)) (hv : handedIn v = true)
    (h : Q v { s with toks := s.toks + 1 }) : wpAny (M w) A (getAttr (.ref x) name ex) Q E s :=
  PySem.W.get_value X e.inst C.ga (findObj_own C.hd n (by kernel_rfl) ((lookIn_dict ..).trans l)) hv h
theorem eng_meth_own {pl : Sem Bool} {Q : Value × List Value → Shared → Prop} (C : ClsOk K) (X : K.In s.heap) (e : Eng w s.heap x a cm big) (n : findIn K (.ref 259) name = some (some .none)) (l : getL name a.es = some (some v)) (hv : handedIn v = true)
    (h : Q (v, []) { s with toks := s.toks + 1 }) : wpAny (M w) A (getMethod (.ref x) name pl) Q E s :=
  method_usual X e.inst C.ga C.gt n (by kernel_rfl) (eng_attr C X e n l hv h)
theorem eng_meth {f : Addr} {pl : Sem Bool} {Q : Value × List Value → Shared → Prop} (C : ClsOk K) (X : K.In s.heap) (e : Eng w s.heap x a cm big) (n : findIn K (.ref 259) name = some (some (.ref f))) (t : typeIn K (.ref f) = some (.type "function")) (l : getL name a.es = some none)
    (h : Q (.ref f, [.ref x]) s) : wpAny (M w) A (getMethod (.ref x) name pl) Q E s :=
  method_fn X e.inst C.ga C.gt n t (by show (lookIn name (dictOf a.es a.n)).map _ = _; rw [lookIn_dict, l]; rfl) h

/-- a bound method of the text is called -/
theorem cw_bm {q g : Addr} {fd : FuncData} {fo : Obj} {self : Value} {env : Env} {pos : Pos} {e : Expr} {rest : List Expr} {first : List Value} {Q : Value → Shared → Prop} (hd : fo.data = .func fd)
    (h : wpAny (M w) A (spliced (backTo pos (starEach (e :: rest) env))) (fun vs s₁ => (s₁.heap.get? q = some (methodObj (.ref g) self) ∧ s₁.heap.get? g = some fo) ∧ wpAny (M w) A (call (.ref q) (first ++ vs)) Q E s₁) E s)
    (he : starEach (e :: rest) env = (false, eval e env) :: starEach rest env := by kernel_rfl) (hplain : (backTo pos (starEach rest env)).any (·.1) = false := by kernel_rfl) :
    wpAny (M w) A (callWith pos (.ref q) first (backTo pos (starEach (e :: rest) env)) []) Q E s := by
  rw [he] at h ⊢
  refine callWith_of (P := fun h => h.get? q = some (methodObj (.ref g) self) ∧ h.get? g = some fo) (by show ((false || (backTo pos (starEach rest env)).any (·.1)) || false) = false; rw [hplain]; rfl) (fun h X => ?_) (evalArgs_plain h)
  refine ⟨.boundFrame, .inr (.inr rfl), (Looks.ld (part := none) X.1).andThen ?_⟩
  refine (Looks.ld (part := none) X.2).andThen ?_
  rw [hd]
  exact .now
end

def litNext : { st : Stmt // stmtAt 9 = st } := ⟨_, by
  delta stmtAt prog PySem.Challenge.pw_aj5032_01
  dsimp only [List.getElem?_cons_succ, List.getElem?_cons_zero, Option.getD_some]⟩
abbrev stNext : Stmt := litNext.1
def bodNext : { b : List Stmt // fnBody stNext = b } := ⟨_, by delta stNext litNext; dsimp only [fnBody]⟩

theorem next_ok {w : World} {A : Around} {E : Value → Shared → Prop} {s : Shared} {mg mb : Str → Option Value} {Q : Value → Shared → Prop} {f a : Addr} {pm code : Value} {ty id gid : String} {vs : Array Value}
    (hroom : A.depth < recursionLimit) (G : Gl mg mb s.heap) (hf : FnAt s.heap f stNext "nextgetter" pm code) (N : NxTy ty id gid) (ho : s.heap.get? a = some { cls := .type ty, data := .fields vs }) (ha : 262 ≤ a)
    (hQ : ∀ h' tk' NV, AdvH s.heap s.gens s.drawn s.os h' s.gens s.drawn s.os → s.heap.get? NV = none → 262 ≤ NV → h'.get? NV = some (mwObj id (.ref a)) → Q (.ref NV) ⟨h', s.gens, s.drawn, tk', s.os⟩) :
    wpAny (M w) A (call (.ref f) [.ref a]) Q E s := by
  refine enter hroom G hf bodNext.2 (binds := [("obj", .ref a)]) rfl (by decide) rfl (fun h₁ L tk A' eA dA hA B => ?_)
  delta bodNext
  dsimp only
  walk_at "as"
  refine Attribute_name ?_
  refine rdL B (by walk_at "lk") ?_
  have hal : a ≠ L := fun q => by rw [← q] at B; exact absurd B.old (by rw [ho]; simp)
  have ho' := B.adv.keep _ _ (ne_T ha) ho
  refine nx_attr (s := ⟨h₁, s.gens, s.drawn, tk, s.os⟩) N ho' ?_
  exact hQ _ _ _ (B.adv.trans (AdvH.push _)) B.fresh B.big (Heap.get?_push_size _ rfl)
/-! F11 -/
theorem mro_map : mroOf (.type "map") = pure [.type "map", .type "object"] := by rw [mroOf_type]; kernel_rfl
theorem lookup_map_new : typeLookup (.type "map") "__new__" = pure (some (.builtin "map.__new__")) := by rw [typeLookup_type, builtinLookup_eq_fast]; kernel_rfl
theorem slot_map_init : Slot "map" "__init__" "object.__init__" :=
  .of (owner := "object") (n := "__init__") (by rw [typeLookup_type, builtinLookup_eq_fast]; kernel_rfl) (by decide +kernel) (by decide +kernel) (by decide +kernel)
    (by first | exact .inl (by decide +kernel) | exact .inr (by decide +kernel)) (by rw [isSubtype_type]; kernel_rfl)
theorem called_map : TypeCalled "map" "map.__new__" "object.__init__" :=
  ⟨by decide +kernel, by decide +kernel, ⟨_, _, mro_map⟩, madeBy_type mro_map lookup_map_new (by decide +kernel), by decide +kernel, by rw [isSubtype_type]; kernel_rfl, slot_map_init⟩
theorem typeCall_map_2 (a b : Value) : checkTypeCall "map" ⟨[a, b], []⟩ = pure () := by kernel_rfl
theorem newCall_map_2 (a b : Value) : checkBuiltinCall "map.__new__" ⟨[.type "map", a, b], []⟩ = pure () := by kernel_rfl
theorem entry_map_new : entryFor table "map.__new__" = some Builtin.«map.__new__» := by first | exact entryFor_of_fast (by kernel_rfl) | exact entryFor_of_tree (by kernel_rfl)
theorem sub_map : isSubtype (.type "map") (.type "map") = pure true := by rw [isSubtype_type]; kernel_rfl

theorem meets_map_new (w : World) (fn src : Value) (it : Addr) (h₁ : Heap) :
    MeetsIn prog w (Builtin.«map.__new__» ⟨[.type "map", fn, src], []⟩) (fun A R s =>
      (∀ (A : Around) (Q : Value → Shared → Prop) (E : Value → Shared → Prop), Q (.ref it) { s with heap := h₁ } → wpAny (M w) A (pyIter src) Q E s) ∧
      R (.ok (.ret (.ref (h₁.push (tup1 it)).objs.size))) { s with heap := (h₁.push (tup1 it)).push (mapObj h₁.objs.size fn) }) :=
  .of_wp fun A R s h => by
    obtain ⟨hi, h⟩ := h
    have hsub := sub_map
    unfold Builtin.«map.__new__»
    refine wpAny_bind ?_
    unfold Builtin.SmallTypes.newClass
    refine wpAny_bind (wpAny_of_eq (a := true) rfl ?_)
    refine bm_if_false rfl ?_
    refine wpAny_bind (wpAny_of_eq hsub ?_)
    refine bm_if_false rfl ?_
    refine wpAny_pure ?_
    dsimp only
    refine wpAny_bind (wpAny_of_eq (a := ()) rfl ?_)
    rw [if_neg (by simp)]
    refine wpAny_bind ?_
    show wpAny _ _ (Builtin.SmallTypes.iterAll [src]) _ _ _
    unfold Builtin.SmallTypes.iterAll
    simp only [List.forIn_cons, List.forIn_nil]
    refine wpAny_bind (wpAny_bind (wpAny_bind (wpAny_holding (hi _ _ _ ?_))))
    repeat (any_goals (first | assumption | wp_step))
    exact ⟨_, rfl, h⟩

theorem args_init_3 (a b c : Value) : argsOk "object.__init__" ⟨[a, b, c], []⟩ := F.args_object_init_3 a b c

theorem call_map {w : World} {A : Around} {E : Value → Shared → Prop} {s : Shared} {fn src : Value} {it : Addr} {h₁ : Heap} {Q : Value → Shared → Prop}
    (hi : ∀ (A : Around) (Q : Value → Shared → Prop) (E : Value → Shared → Prop), Q (.ref it) { s with heap := h₁ } → wpAny (M w) A (pyIter src) Q E s)
    (h : ∀ h' m tup, (∀ b o, h₁.get? b = some o → h'.get? b = some o) → h'.get? m = some (mapObj tup fn) → h'.get? tup = some (tup1 it) → h₁.objs.size = tup → m = tup + 1 → h'.objs.size = m + 1 → Q (.ref m) { s with heap := h' }) :
    wpAny (M w) A (call (.type "map") [fn, src]) Q E s := by
  refine callType_newIn called_map (by decide) (typeCall_map_2 _ _) (newCall_map_2 _ _) (fun obj => args_init_3 obj _ _) entry_map_new (meets_map_new w fn src it h₁) ⟨hi, ?_⟩
  have z1 : (h₁.push (tup1 it)).objs.size = h₁.objs.size + 1 := Heap.size_push ..
  refine ⟨⟨_, Heap.get?_push_size _ rfl, rfl⟩, h _ _ h₁.objs.size (fun b o e => Heap.get?_push_of_some _ (Heap.get?_push_of_some _ e)) (Heap.get?_push_size _ rfl) (Heap.get?_push_of_some _ (Heap.get?_push_size _ rfl)) rfl z1 (Heap.size_push ..)⟩

theorem mk_gen {w : World} {A : Around} {E : Value → Shared → Prop} {s : Shared} {mg mb : Str → Option Value} {Q : Value → Shared → Prop} {f q : Addr} {st : Stmt} {qual : Str} {pm code self : Value} {args : List Value} {binds : List (Str × Value)} {body : List Stmt}
    (hroom : A.depth < recursionLimit) (G : Gl mg mb s.heap) (F : FnAt s.heap f st qual pm code) (hq : s.heap.get? q = some (methodObj (.ref f) self)) (hbody : fnBody st = body) (hbind : bindArgs (fd st qual pm code) ⟨self :: args, []⟩ = pure binds)
    (hcell : ((fnScope st).names.all fun x => decide (x.2 ≠ .cell)) = true) (hloc : (binds.all fun x => decide ((fnScope st).names.lookup x.1 = some .local)) = true)
    (h : ∀ h' tk L a, (∀ b o, s.heap.get? b = some o → h'.get? b = some o) → h'.Ns L (fun x => binds.reverse.lookup x) → h'.IsGen a s.gens.size → L = s.heap.objs.size → a = s.heap.objs.size + 1 → h'.objs.size = s.heap.objs.size + 2 →
      Q (.ref a) ⟨h', s.gens.push (.fresh (.func body (callEnv (fd st qual pm code) L f))), s.drawn, tk, s.os⟩)
    (hco : (fnScope st).isCoroutine = false := by rfl) (hgen : (fnScope st).isGenerator = true := by rfl) (hk : (fnScope st).kind = .function := by rfl) :
    wpAny (M w) A (call (.ref q) args) Q E s := by
  refine wpAny_call (method_call hq ?_)
  refine codeAny_call_generator (fd := fd st qual pm code) (body := body) hroom F.obj rfl hco hgen (by rw [← hbody]; rfl) F.crec ?_
  rw [hbind]
  refine wpAny_pure (wpAny_newFunctionEnv (fun x hx => of_decide_eq_true (List.all_eq_true.mp hcell x hx)) (fun x hx => of_decide_eq_true (List.all_eq_true.mp hloc x hx)) (fun h₁ n sb => ?_) hk)
  have kp : ∀ b o, s.heap.get? b = some o → h₁.get? b = some o := fun b o e => sb.extBut b o (Nat.ne_of_lt (Heap.lt_size e)) (Heap.get?_push_of_some _ e)
  refine ⟨let ⟨mc, a, b⟩ := G.lim; ⟨mc, ns_keep a fun o e => kp _ o e, b⟩, ?_⟩
  have hz : h₁.objs.size = s.heap.objs.size + 1 := sb.1.trans (Heap.size_push ..)
  refine h _ _ s.heap.objs.size h₁.objs.size (fun b o e => Heap.get?_push_of_some _ (kp b o e)) (ns_keep n fun o e => Heap.get?_push_of_some _ e) ⟨_, _, _, Heap.get?_push_size _ rfl, rfl, rfl, rfl⟩ rfl hz (by rw [Heap.size_push, hz])
/-! F12 -/
theorem entry_bget : entryFor table "bytes.__getitem__" = some Builtin.«bytes.__getitem__» := by first | exact entryFor_of_fast (by kernel_rfl) | exact entryFor_of_tree (by kernel_rfl)
theorem plain_bget : plainId "bytes.__getitem__" = true := by decide +kernel

theorem bget_code {w : World} {A : Around} {s : Shared} {R : Result → Shared → Prop} {cm : Array UInt8} {z : Int} {ct t : Tok} (h0 : 0 ≤ z) (h1 : z < cm.size) (hz : cm.size = 64) (k : ∀ t' tk', R (.ok (.ret (.int (byteAt cm z.toNat) t'))) { s with toks := tk' }) :
    codeAny (M w) A (.builtin "bytes.__getitem__" ⟨[.bytes cm ct, .int z t], []⟩) R s := by
  refine codeAny_builtin entry_bget ?_
  rw [Around.under_plainId plain_bget _]
  have hfit : Builtin.Bytes.fitsIndex z = true := by
    unfold Builtin.Bytes.fitsIndex
    rw [Bool.and_eq_true, decide_eq_true_eq, decide_eq_true_eq]
    have : (2 : Int) ^ 63 = 9223372036854775808 := by decide
    rw [this]
    omega
  have hn : z.toNat < cm.size := by omega
  have hs : seqIndex? z cm.size = some z.toNat := by
    have hn : ¬ z < 0 := by omega
    simp [seqIndex?, hn, h0, h1]
  have e : byteAt cm z.toNat = (cm[z.toNat].toNat : Int) := by simp [byteAt, hn]
  rw [e] at k
  exact gives_bytes_getitem cm z ct t cm[z.toNat] hfit (by rw [hs]; simp [hn]) prog w A R s (k _ _)

/-- `charmap.__getitem__` -/
theorem cm_Fn {w : World} {e64 : Addr} {cm : Array UInt8} {ct : Tok} (hz : cm.size = 64) :
    Fn w (.ref e64) [e64] (fun z => 0 ≤ z ∧ z < 64) (fun z => byteAt cm z.toNat) (fun h => h.get? e64 = some (mwObj "bytes.__getitem__" (.bytes cm ct))) where
  frame := fun h h' e k => k _ (by simp) _ e
  call := fun A s z t Q E hh hd hD k => by
    refine call_bound hd (.inl rfl) rfl (fun Q E q => wpAny_of_eq (chk_bget cm ct z t) q) (plainId_quiet plain_bget _) ?_
    exact bget_code hD.1 (by rw [hz]; exact hD.2) hz fun t' tk' => k t' tk'

/-- the names of the text -/
structure Nm (mg : Str → Option Value) : Prop where
  isi : mg "isinstance" = none
  bytes : mg "bytes" = none
  len : mg "len" = none
  divmod : mg "divmod" = none
  iter : mg "iter" = none
  range : mg "range" = none
  zip : mg "zip" = none
  min : mg "min" = none
  max : mg "max" = none
  ie : mg "IndexError" = none
  te : mg "TypeError" = none
  py3 : mg "PY3" = some (.bool true)
  nxt : mg "nextgetter" = some (.ref 42)
  jbe : mg "join_byte_elems" = some (.type "bytes")
  jbv : mg "join_byte_values" = some (.type "bytes")
  imap : mg "imap" = some (.type "map")

def FnE (h : Heap) (a : Addr) (st : Stmt) (qual : Str) : Prop := ∃ pm code, FnAt h a st qual pm code
theorem FnE.adv {h h' : Heap} {g g' : Array GenState} {d d' : Drawn} {o o' : OsState} {a : Addr} {st : Stmt} {qual : Str} (F : FnE h a st qual) (k : AdvH h g d o h' g' d' o') : FnE h' a st qual :=
  let ⟨pm, c, f⟩ := F; ⟨pm, c, f.adv k⟩
/-! F13 -/
def litEnc : { st : Stmt // methAt 8 = st } := ⟨_, by
  delta methAt stmtAt prog PySem.Challenge.pw_aj5032_01
  dsimp only [List.getElem?_cons_succ, List.getElem?_cons_zero, Option.getD_some, clsBody]⟩
abbrev stEnc : Stmt := litEnc.1
def bodEnc : { b : List Stmt // fnBody stEnc = b } := ⟨_, by delta stEnc litEnc; dsimp only [fnBody]⟩

/-- what encode_bytes answers -/
def encB (cm : Array UInt8) (big : Bool) (l : List Nat) : Array UInt8 := byteArr ((encN big l).map fun z => byteAt cm z)

structure Fns (h : Heap) : Prop where
  nx : FnE h 42 stNext "nextgetter"
  enc : FnE h 72 stEnc "Base64Engine.encode_bytes"
  el : FnE h 79 stEL "Base64Engine._encode_bytes_little"
  eb : FnE h 86 stEB "Base64Engine._encode_bytes_big"
  dl : FnE h 100 stDL "Base64Engine._decode_bytes_little"
  db : FnE h 107 stDB "Base64Engine._decode_bytes_big"
theorem Fns.adv {h h' : Heap} {g g' : Array GenState} {d d' : Drawn} {o o' : OsState} (F : Fns h) (k : AdvH h g d o h' g' d' o') : Fns h' := ⟨F.nx.adv k, F.enc.adv k, F.el.adv k, F.eb.adv k, F.dl.adv k, F.db.adv k⟩

section
variable {M : Model} {A : Around} {E : Value → Shared → Prop} {s : Shared} {env : Env}
theorem xAssT {elts k tpos value pos} {Q : Flow → Shared → Prop}
    (h : wpAny M A (eval value env) (fun v s₁ => wpAny M A (assign (.Tuple elts k tpos) env v) (fun _ => Q .next) E s₁) E s)
    (hs : swapsWithSole [.Tuple elts k tpos] value pos.line env = pure false := by kernel_rfl)
    (hw : swappedStores [.Tuple elts k tpos] value env = pure none := by kernel_rfl) :
    wpAny M A (exec (.Assign [.Tuple elts k tpos] value pos) env) Q E s := PyProof.Rows.Assign_Tuple h hs hw
end
local macro_rules | `(tactic| walk_at "a") => `(tactic| with_reducible refine xAssT ?_)
local macro_rules | `(tactic| walk_at "a") => `(tactic| with_reducible refine PySem.W.len_bytes (by omega) ?_)

theorem as_pair {w : World} {A : Around} {E : Value → Shared → Prop} {s : Shared} {env : Env} {L t : Addr} {m : Str → Option Value} {h : Heap} {g : Array GenState} {d : Drawn} {tk : Nat} {o : OsState} {x y : Str} {v1 v2 : Value} {p1 p2 pos : Pos} {k : Nat} {Q : Unit → Shared → Prop}
    (hh : A.handled = none) (B : BdH s L m h g d o) (ht : h.get? t = some { cls := .type "tuple", data := .seq #[v1, v2] })
    (kk : ∀ h' tk', BdH s L (upd (upd m x v1) y v2) h' g d o → Q () ⟨h', g, d, tk', o⟩)
    (hL : env.locals = L := by kernel_rfl) (hk : env.scope.kind = .function := by kernel_rfl) (hx : env.kindOf x = some .local := by kernel_rfl) (hy : env.kindOf y = some .local := by kernel_rfl) :
    wpAny (M w) A (assign (.Tuple [.Name x p1, .Name y p2] k pos) env (.ref t)) Q E ⟨h, g, d, tk, o⟩ := by
  refine assign_Tuple_tuple (s := ⟨h, g, d, tk, o⟩) hh ⟨_, ht, rfl, _, rfl⟩ rfl rfl fun h₁ he => ?_
  have B₁ : BdH s L m h₁ g d o := B.step (AdvH.ext fun b o e => he b o (Nat.ne_of_lt (Heap.lt_size e)) e)
  refine assignInOrder_cons (assign_Name (stL B₁ (fun h₂ tk₂ B₂ sb₂ => ?_) hL hk hx))
  refine assignInOrder_cons (assign_Name (stL B₂ (fun h₃ tk₃ B₃ sb₃ => ?_) hL hk hy))
  exact assignInOrder_nil (kk _ _ B₃)

theorem stG {w : World} {A : Around} {E : Value → Shared → Prop} {s : Shared} {env : Env} {L : Addr} {m : Str → Option Value} {x : Str} {v : Value} {Q : Unit → Shared → Prop} {h : Heap} {g g' : Array GenState} {d d' : Drawn} {tk : Nat} {o o' : OsState} (B : BdH s L m h g d o)
    (k : ∀ h' tk', BdH s L (upd m x v) h' g d o → Heap.SameBut L h h' → Q () ⟨h', g', d', tk', o'⟩)
    (hL : env.locals = L := by kernel_rfl) (hk : env.scope.kind = .function := by kernel_rfl) (hl : env.kindOf x = some .local := by kernel_rfl) : wpAny (M w) A (storeName env x v) Q E ⟨h, g', d', tk, o'⟩ := by
  subst hL
  exact wpAny_storeName_local hl (s := ⟨h, g', d', tk, o'⟩) B.ns (fun h' n sb => k h' _ ⟨B.adv.chg (fun b o hb e => (sb.2 b (fun q => by
      subst q; rw [B.old] at e; cases e)).trans (B.adv.keep b o hb e)) (fun b o hb e => (sb.2 b (fun q => by rw [q] at hb; exact absurd B.hi (Nat.not_le.mpr hb))).trans e),
      n, B.old, B.hi, B.top⟩ sb) (by rw [hk]; rfl)

/-- a generator stands ready -/
def GenP (w : World) (A : Around) (s : Shared) (L : Addr) (h : Heap) (Es : List Int) (v : Value) (s' : Shared) : Prop :=
  ∃ a fp wr St, v = .ref a ∧ It w A a fp wr Es.length (fun j => Es.getD j 0) St (s.gens.push .finished) ∧ St 0 s' ∧ s'.heap.IsGen a s.gens.size ∧ (∀ b o, h.get? b = some o → s'.heap.get? b = some o) ∧
    (∀ b ∈ fp, b < s'.heap.objs.size) ∧ (∀ b ∈ wr, s.heap.get? b = none ∧ 262 ≤ b ∧ b ≠ L) ∧ s'.drawn = s.drawn ∧ s'.os = s.os ∧ a < s'.heap.objs.size ∧ a ≠ L ∧ L ∉ fp

theorem byteAt_rng (b : Array UInt8) (j : Nat) : 0 ≤ byteAt b j ∧ byteAt b j < 256 := by
  unfold byteAt
  have := ((b[j]?).getD 0).toNat_lt
  omega
theorem range_map {Es : List Int} {φ : Int → Int} : (List.range Es.length).map (fun j => φ (Es.getD j 0)) = Es.map φ := by
  apply List.ext_getElem
  · simp
  · intro i h1 h2
    simp at h1
    simp [List.getD_eq_getElem?_getD, h1]
theorem mem_getD {Es : List Int} {j : Nat} (h : j < Es.length) : Es.getD j 0 ∈ Es := by
  rw [List.getD_eq_getElem?_getD, List.getElem?_eq_getElem h]; exact List.getElem_mem h
theorem zs_rng {l : List Nat} {m : Nat} (h : ∀ x ∈ l, x < m) : ∀ y ∈ zs l, 0 ≤ y ∧ y < m := by
  intro y hy
  obtain ⟨x, hx, rfl⟩ := List.mem_map.1 hy
  have := h x hx
  omega
theorem push_rep (g : Array GenState) : g.push .finished = g ++ Array.replicate 1 .finished := by
  apply Array.ext'
  simp

theorem BdH.gens {s : Shared} {L : Addr} {m : Str → Option Value} {h h' : Heap} {g g' : Array GenState} {d : Drawn} {o : OsState} {wr : List Addr} {n : Nat} (B : BdH s L m h g d o) (k : ∀ b x, b ∉ wr → h.get? b = some x → h'.get? b = some x)
    (hwr : ∀ b ∈ wr, s.heap.get? b = none ∧ 262 ≤ b ∧ b ≠ L) (hg : g' = g ++ Array.replicate n .finished) : BdH s L m h' g' d o :=
  ⟨⟨fun b x hb e => k b x (fun q => by rw [(hwr b q).1] at e; cases e) (B.adv.keep b x hb e), by
      obtain ⟨n', e⟩ := B.adv.gens
      exact ⟨n' + n, by rw [hg, e, Array.append_assoc, Array.replicate_append_replicate]⟩, B.adv.drawn, B.adv.os, fun ps i => let ⟨ps', j⟩ := B.adv.tab ps i; ⟨ps', code_low j fun b o hb e => k b o (fun q => absurd (hwr b q).2.1 (Nat.not_le.mpr hb)) e⟩⟩,
    ns_keep B.ns fun o e => k L o (fun q => (hwr L q).2.2 rfl) e, B.old, B.hi, B.top⟩

theorem iter_map {w : World} {A : Around} {E : Value → Shared → Prop} {s : Shared} {m tup : Addr} {fn : Value} {Q : Value → Shared → Prop} (hm : s.heap.get? m = some (mapObj tup fn)) (q : Q (.ref m) s) : wpAny (M w) A (pyIter (.ref m)) Q E s := by
  have hT : s.TypeIs (.ref m) "map" := ⟨_, hm, rfl⟩
  refine wpAny_pyIter_slot hT slot_map_iter (wpAny_call_entry slot_map_iter hT entry_map_iter ?_ (args_map_iter _))
  show wpAny _ _ (ret (.ref m)) _ _ _
  exact wpAny_pure ⟨_, rfl, "map", _, hT, slot_map_next.lookup, q⟩

theorem byteAt_fOf (b : Array UInt8) : byteAt b = fOf (bl b) := by
  funext j
  unfold byteAt fOf bl
  rw [List.getD_eq_getElem?_getD, List.getElem?_map, Array.getElem?_toList]
  cases b[j]? <;> rfl

theorem kind_iter : builtinKind "iter" = none := by decide +kernel
theorem plain_iter : plainId "iter" = true := by decide +kernel
theorem entry_iter : entryFor table "iter" = some Builtin.«iter» := by first | exact entryFor_of_fast (by kernel_rfl) | exact entryFor_of_tree (by kernel_rfl)
theorem args_iter (a : Value) : argsOk "iter" ⟨[a], []⟩ := by unfold argsOk; kernel_rfl
theorem iter_bytes {w : World} {A : Around} {E : Value → Shared → Prop} {s : Shared} {b : Array UInt8} {u : Tok} {Q : Value → Shared → Prop} (h : Q (.ref s.heap.objs.size) { s with heap := s.heap.push (bIt b u 0) }) :
    wpAny (M w) A (call (.builtin "iter") [.bytes b u]) Q E s := by
  refine Calls.call_function_entry kind_iter plain_iter entry_iter (args_iter _) ?_
  unfold Builtin.«iter»
  refine wpAny_bind (m := someArgs "iter" 1 2 _) (wpAny_pure ?_)
  exact wpAny_bind (KBw.pyIter_bytes (wpAny_pure ⟨_, rfl, h⟩))

theorem fdiv_n (a b : Nat) : (a : Int).fdiv (b : Int) = ((a / b : Nat) : Int) := by rw [Int.fdiv_eq_ediv_of_nonneg _ (Int.natCast_nonneg _), Int.natCast_ediv]
theorem fmod_n (a b : Nat) : (a : Int).fmod (b : Int) = ((a % b : Nat) : Int) := by rw [Int.fmod_eq_emod_of_nonneg _ (Int.natCast_nonneg _), Int.natCast_emod]

set_option maxHeartbeats 8000000 in
theorem enc_ok {w : World} {A : Around} {E : Value → Shared → Prop} {s : Shared} {K : Frag} {mg mb : Str → Option Value} {Q : Value → Shared → Prop} {x : Addr} {a : EngA} {cm b : Array UInt8} {big : Bool} {u : Tok}
    (hh : A.handled = none) (hroom : A.depth + 2 < recursionLimit) (G : Gl mg mb s.heap) (N : Nm mg) (C : ClsOk K) (X : K.In s.heap) (e : Eng w s.heap x a cm big) (hF : Fns s.heap) (hcm : cm.size = 64) (hb : b.size ≤ 64)
    (hQ : ∀ s' t, Adv s s' → Q (.bytes (encB cm big (bl b)) t) s') :
    wpAny (M w) A (call (.ref 72) [.ref x, .bytes b u]) Q E s := by
  obtain ⟨pm, code, hf⟩ := hF.enc
  refine enter (by omega) G hf bodEnc.2 (binds := [("self", .ref x), ("source", .bytes b u)]) rfl (by decide) rfl (fun h₁ L tk A' eA dA hA B => ?_)
  delta bodEnc
  dsimp only
  walk_at "as"
  with_reducible refine rdB (G.adv B.adv) N.isi b_isi ?_
  walk_at "as"
  with_reducible refine rdL B (by walk_at "lk") ?_
  walk_at "as"
  with_reducible refine rdB (G.adv B.adv) N.bytes b_bytes ?_
  walk_at "as"
  dsimp only [List.nil_append]
  refine call_isinstance_yes (Tx := "bytes") (T := "bytes") rfl (by kernel_rfl) F.bm_sub ?_
  walk_at "as"
  rw [if_neg (by decide)]
  walk_at "as"
  with_reducible refine rdB (G.adv B.adv) N.divmod b_divmod ?_
  walk_at "as"
  with_reducible refine rdB (G.adv B.adv) N.len b_len ?_
  walk_at "as"
  with_reducible refine rdL B (by walk_at "lk") ?_
  walk_at "as"
  dsimp only [List.nil_append]
  refine len_bytes (by omega) ?_
  walk_at "as"
  refine divmod_int (by decide) ?_ (.inl (PyProof.noPylong_small (by omega)))
  dsimp only
  have B₁ := B.step (AdvH.push { cls := .type "tuple", data := .seq #[.int ((b.size : Int).fdiv 3) (tk + 1 + 1 + 1), .int ((b.size : Int).fmod 3) (tk + 1 + 1 + 1 + 1)] })
  refine as_pair (by rw [hA]; exact hh) B₁ (Heap.get?_push_size _ rfl) fun h₂ tk₂ B₂ => ?_
  rw [show (b.size : Int).fdiv 3 = ((b.size / 3 : Nat) : Int) from fdiv_n b.size 3, show (b.size : Int).fmod 3 = ((b.size % 3 : Nat) : Int) from fmod_n b.size 3] at B₂
  walk_at "as"
  with_reducible refine rdG (G.adv B₂.adv) N.py3 ?_
  walk_at "as"
  rw [if_pos rfl]
  walk_at "as"
  with_reducible refine rdG (G.adv B₂.adv) N.nxt ?_
  obtain ⟨pmn, codn, hn⟩ := hF.nx
  with_reducible refine cw_def (hn.adv B₂.adv) ?_
  walk_at "as"
  with_reducible refine rdB (G.adv B₂.adv) N.iter b_iter ?_
  walk_at "as"
  with_reducible refine rdL B₂ (by walk_at "lk") ?_
  walk_at "as"
  dsimp only [List.nil_append]
  refine iter_bytes ?_
  walk_at "as"
  have B₃ := B₂.step (AdvH.push (bIt b u 0))
  refine ⟨hn.adv B₃.adv, ?_⟩
  have z₂ : h₂.objs.size ≠ L := Nat.ne_of_gt B₂.new
  have hi₂ := B₂.big
  have old₂ := B₂.fresh
  generalize hIT : h₂.objs.size = IT at z₂ hi₂ old₂
  have it₃ : (h₂.push (bIt b u 0)).get? IT = some (bIt b u 0) := by rw [← hIT]; exact Heap.get?_push_size _ rfl
  generalize h₂.push (bIt b u 0) = h₃ at B₃ it₃
  refine next_ok (by omega) (G.adv B₃.adv) (hn.adv B₃.adv) nxty_bit it₃ hi₂ fun h₄ tk₄ NV a₄ oldN hiN nv₄ => ?_
  dsimp only at a₄ oldN
  have B₄ := B₃.step a₄
  have it₄ := a₄.keep _ _ (ne_T hi₂) it₃
  have oldN' : s.heap.get? NV = none := by
    cases q : s.heap.get? NV with
    | none => rfl
    | some y => rw [B₃.adv.keep _ _ (ne_T hiN) q] at oldN; cases oldN
  have neN : NV ≠ IT := fun q => by rw [q, it₃] at oldN; cases oldN
  have neNL : NV ≠ L := fun q => by obtain ⟨o, es, ep, e1, _⟩ := B₃.ns; rw [q, e1] at oldN; cases oldN
  refine stL B₄ fun h₅ tk₅ B₅ sb₅ => ?_
  have nv₅ := (sb₅.2 _ neNL).trans nv₄
  have it₅ := (sb₅.2 _ z₂).trans it₄
  walk_at "as"
  refine rdL B₅ (by walk_at "lk") ?_
  have e₅ := e.adv B₅.adv
  refine eng_meth_own C (kin_adv C X B₅.adv) e₅ C.n3 e₅.l3 rfl ?_
  dsimp only
  refine wpAny_mono (Q := GenP w A'.in1.in1.in1 s L h₅ (zs (encN big (bl b)))) ?gen (fun v s' hv => ?rest) (fun _ _ x => x)
  case gen =>
    cases big with
    | false =>
      obtain ⟨pmg, codg, hg⟩ := hF.el
      have F₅ := hg.adv B₅.adv
      refine cw_bm (q := a.meb) (g := 79) (fd := fd stEL "Base64Engine._encode_bytes_little" pmg codg) (fo := fnObj stEL "Base64Engine._encode_bytes_little" pmg codg) (self := .ref x) rfl ?_
      walk_at "as"
      refine rdL B₅ (by walk_at "lk") ?_
      walk_at "as"
      refine rdL B₅ (by walk_at "lk") ?_
      walk_at "as"
      refine rdL B₅ (by walk_at "lk") ?_
      walk_at "as"
      dsimp only [List.nil_append]
      refine ⟨⟨e₅.meb, F₅.obj⟩, ?_⟩
      refine mk_gen (s := ⟨h₅, s.gens, s.drawn, _, s.os⟩) (binds := [("self", .ref x), ("next_value", .ref NV), ("chunks", .int ((b.size / 3 : Nat) : Int) _), ("tail", .int ((b.size % 3 : Nat) : Int) _)]) (by omega) (G.adv B₅.adv) F₅ e₅.meb bodEL.2 rfl (by decide) rfl fun h₆ tk₆ L' ga kp n₆ ig eL ea ez => ?_
      dsimp only at kp n₆ ig eL ea ez
      have ltN : NV < L' := by rw [eL]; exact Heap.lt_size nv₅
      have ltI : IT < L' := by rw [eL]; exact Heap.lt_size it₅
      have ltL : L < L' := by rw [eL]; exact B₅.new
      have hi' : 262 ≤ L' := by rw [eL]; exact B₅.big
      have ltg : ga = L' + 1 := by rw [ea, eL]
      have old' : s.heap.get? L' = none := by rw [eL]; exact B₅.fresh
      have hEs : zs (encN false (bl b)) = elL (byteAt b) (b.size / 3) 0 (b.size % 3) := by
        rw [byteAt_fOf, el_encN (bl_lt b) _ _ _ (by rw [bl_len]; omega) (by omega), List.drop_zero]
      rw [hEs]
      have hLfp : L' ∉ [NV, IT] := by
        simp only [List.mem_cons, List.not_mem_nil, or_false, not_or]
        exact ⟨Nat.ne_of_gt ltN, Nat.ne_of_gt ltI⟩
      refine ⟨ga, ga :: cStatics :: L' :: [NV, IT], L' :: [IT], GenSt w A'.in1.in1.in1 ga L' [NV, IT] [IT] _ s.gens, rfl,
        gen_It (by show A'.handled = none; rw [hA]; exact hh) (by show A'.depth < recursionLimit; omega) (fun b hb => List.mem_cons_of_mem _ hb) ?_ ?_, ⟨ig, ?_, _, rfl, fun s'' al => ⟨rfl, ?_⟩⟩, ig, kp, ?_, ?_, rfl, rfl, ?_, ?_, ?_⟩
      · simp only [List.mem_cons, List.not_mem_nil, or_false, not_or]
        exact ⟨by rw [ltg]; exact Nat.succ_ne_self _, by rw [ltg]; exact Nat.ne_of_gt (Nat.lt_succ_of_lt ltI)⟩
      · simp only [List.mem_cons, List.not_mem_nil, or_false, not_or]
        exact ⟨Nat.ne_of_lt (Nat.lt_of_lt_of_le (by decide) hi'), Nat.ne_of_lt (Nat.lt_of_lt_of_le (by decide) hi₂)⟩
      · exact lim_keep (G.adv B₅.adv).lim fun o e => kp _ o e
      · exact el_seg (self := .none) (A := A'.in1.in1.in1.in1) (by show A'.handled = none; rw [hA]; exact hh) (bit_Nx (w := w) (t := u) neN) (byteAt_rng b) hLfp (by omega) (by omega) (ns_keep n₆ fun o e => al _ (by simp) o e)
          ⟨al _ (by simp) _ (kp _ _ nv₅), al _ (by simp) _ (kp _ _ it₅)⟩ rfl rfl rfl
      · intro q hq
        rw [ez, ← eL]
        simp only [List.mem_cons, List.not_mem_nil, or_false] at hq
        rcases hq with rfl | rfl | rfl | rfl | rfl
        · rw [ltg]; exact Nat.lt_succ_self _
        · exact Nat.lt_of_lt_of_le (Nat.lt_of_lt_of_le (by decide) hi') (Nat.le_add_right ..)
        · exact Nat.lt_of_lt_of_le (Nat.lt_succ_self _) (Nat.le_succ _)
        · exact Nat.lt_of_lt_of_le ltN (Nat.le_add_right ..)
        · exact Nat.lt_of_lt_of_le ltI (Nat.le_add_right ..)
      · intro q hq
        simp only [List.mem_cons, List.not_mem_nil, or_false] at hq
        rcases hq with rfl | rfl
        · exact ⟨old', hi', Nat.ne_of_gt ltL⟩
        · exact ⟨old₂, hi₂, z₂⟩
      · rw [ez, ← eL, ltg]; exact Nat.lt_succ_self _
      · rw [ltg]; exact Nat.ne_of_gt (Nat.lt_succ_of_lt ltL)
      · simp only [List.mem_cons, List.not_mem_nil, or_false, not_or]
        exact ⟨by rw [ltg]; exact Nat.ne_of_lt (Nat.lt_succ_of_lt ltL), Nat.ne_of_gt (Nat.lt_of_lt_of_le (by decide) B.hi), Nat.ne_of_lt ltL, Ne.symm neNL, Ne.symm z₂⟩
    | true =>
      obtain ⟨pmg, codg, hg⟩ := hF.eb
      have F₅ := hg.adv B₅.adv
      refine cw_bm (q := a.meb) (g := 86) (fd := fd stEB "Base64Engine._encode_bytes_big" pmg codg) (fo := fnObj stEB "Base64Engine._encode_bytes_big" pmg codg) (self := .ref x) rfl ?_
      walk_at "as"
      refine rdL B₅ (by walk_at "lk") ?_
      walk_at "as"
      refine rdL B₅ (by walk_at "lk") ?_
      walk_at "as"
      refine rdL B₅ (by walk_at "lk") ?_
      walk_at "as"
      dsimp only [List.nil_append]
      refine ⟨⟨e₅.meb, F₅.obj⟩, ?_⟩
      refine mk_gen (s := ⟨h₅, s.gens, s.drawn, _, s.os⟩) (binds := [("self", .ref x), ("next_value", .ref NV), ("chunks", .int ((b.size / 3 : Nat) : Int) _), ("tail", .int ((b.size % 3 : Nat) : Int) _)]) (by omega) (G.adv B₅.adv) F₅ e₅.meb bodEB.2 rfl (by decide) rfl fun h₆ tk₆ L' ga kp n₆ ig eL ea ez => ?_
      dsimp only at kp n₆ ig eL ea ez
      have ltN : NV < L' := by rw [eL]; exact Heap.lt_size nv₅
      have ltI : IT < L' := by rw [eL]; exact Heap.lt_size it₅
      have ltL : L < L' := by rw [eL]; exact B₅.new
      have hi' : 262 ≤ L' := by rw [eL]; exact B₅.big
      have ltg : ga = L' + 1 := by rw [ea, eL]
      have old' : s.heap.get? L' = none := by rw [eL]; exact B₅.fresh
      have hEs : zs (encN true (bl b)) = ebL (byteAt b) (b.size / 3) 0 (b.size % 3) := by
        rw [byteAt_fOf, eb_encN (bl_lt b) _ _ _ (by rw [bl_len]; omega) (by omega), List.drop_zero]
      rw [hEs]
      have hLfp : L' ∉ [NV, IT] := by
        simp only [List.mem_cons, List.not_mem_nil, or_false, not_or]
        exact ⟨Nat.ne_of_gt ltN, Nat.ne_of_gt ltI⟩
      refine ⟨ga, ga :: cStatics :: L' :: [NV, IT], L' :: [IT], GenSt w A'.in1.in1.in1 ga L' [NV, IT] [IT] _ s.gens, rfl,
        gen_It (by show A'.handled = none; rw [hA]; exact hh) (by show A'.depth < recursionLimit; omega) (fun b hb => List.mem_cons_of_mem _ hb) ?_ ?_, ⟨ig, ?_, _, rfl, fun s'' al => ⟨rfl, ?_⟩⟩, ig, kp, ?_, ?_, rfl, rfl, ?_, ?_, ?_⟩
      · simp only [List.mem_cons, List.not_mem_nil, or_false, not_or]
        exact ⟨by rw [ltg]; exact Nat.succ_ne_self _, by rw [ltg]; exact Nat.ne_of_gt (Nat.lt_succ_of_lt ltI)⟩
      · simp only [List.mem_cons, List.not_mem_nil, or_false, not_or]
        exact ⟨Nat.ne_of_lt (Nat.lt_of_lt_of_le (by decide) hi'), Nat.ne_of_lt (Nat.lt_of_lt_of_le (by decide) hi₂)⟩
      · exact lim_keep (G.adv B₅.adv).lim fun o e => kp _ o e
      · exact eb_seg (self := .none) (A := A'.in1.in1.in1.in1) (by show A'.handled = none; rw [hA]; exact hh) (bit_Nx (w := w) (t := u) neN) (byteAt_rng b) hLfp (by omega) (by omega) (ns_keep n₆ fun o e => al _ (by simp) o e)
          ⟨al _ (by simp) _ (kp _ _ nv₅), al _ (by simp) _ (kp _ _ it₅)⟩ rfl rfl rfl
      · intro q hq
        rw [ez, ← eL]
        simp only [List.mem_cons, List.not_mem_nil, or_false] at hq
        rcases hq with rfl | rfl | rfl | rfl | rfl
        · rw [ltg]; exact Nat.lt_succ_self _
        · exact Nat.lt_of_lt_of_le (Nat.lt_of_lt_of_le (by decide) hi') (Nat.le_add_right ..)
        · exact Nat.lt_of_lt_of_le (Nat.lt_succ_self _) (Nat.le_succ _)
        · exact Nat.lt_of_lt_of_le ltN (Nat.le_add_right ..)
        · exact Nat.lt_of_lt_of_le ltI (Nat.le_add_right ..)
      · intro q hq
        simp only [List.mem_cons, List.not_mem_nil, or_false] at hq
        rcases hq with rfl | rfl
        · exact ⟨old', hi', Nat.ne_of_gt ltL⟩
        · exact ⟨old₂, hi₂, z₂⟩
      · rw [ez, ← eL, ltg]; exact Nat.lt_succ_self _
      · rw [ltg]; exact Nat.ne_of_gt (Nat.lt_succ_of_lt ltL)
      · simp only [List.mem_cons, List.not_mem_nil, or_false, not_or]
        exact ⟨by rw [ltg]; exact Nat.ne_of_lt (Nat.lt_succ_of_lt ltL), Nat.ne_of_gt (Nat.lt_of_lt_of_le (by decide) B.hi), Nat.ne_of_lt ltL, Ne.symm neNL, Ne.symm z₂⟩
  case rest =>
    obtain ⟨ga, fp, wr, St, rfl, I, st, ig, kp, hfp, hwr, hd, ho, hga, gaL, hLfp⟩ := hv
    obtain ⟨h₆, g₆, d₆, tk₆, o₆⟩ := s'
    dsimp only at st ig kp hfp hd ho hga
    subst hd ho
    have B₆ := B₅.step (AdvH.ext kp)
    refine stG B₆ fun h₇ tk₇ B₇ sb₇ => ?_
    have st₇ := I.frame _ _ h₇ tk₇ st fun b hb o e => (sb₇.2 b (fun q => hLfp (q ▸ hb))).trans e
    have ig₇ := ig.sameBut sb₇ gaL
    dsimp only at st₇
    walk_at "as"
    with_reducible refine rdG (G.adv B₇.adv) N.jbe ?_
    walk_at "as"
    with_reducible refine rdG (G.adv B₇.adv) N.imap ?_
    walk_at "as"
    refine Attribute_name ?_
    refine rdL B₇ (by walk_at "lk") ?_
    have e₇ := e.adv B₇.adv
    refine eng_attr C (kin_adv C X B₇.adv) e₇ C.n1 e₇.l1 rfl ?_
    walk_at "as"
    refine rdL B₇ (by walk_at "lk") ?_
    walk_at "as"
    dsimp only [List.nil_append]
    refine call_map (it := ga) (h₁ := h₇) (fun A Q E q => wpAny_pyIter_gen ig₇ q) fun h₈ m tup kp₈ hm ht e1 e2 e3 => ?_
    walk_at "as"
    dsimp only [List.nil_append]
    have z₇ : h₇.objs.size = h₆.objs.size := sb₇.1
    have kp₆ : ∀ b o, s.heap.get? b = some o → b ≠ T → h₈.get? b = some o := fun b o e hb => kp₈ b o (B₇.adv.keep b o hb e)
    have lt6 : ∀ b ∈ fp, b < tup := fun b hb => by rw [← e1, z₇]; exact hfp b hb
    have nwr : ∀ b, tup ≤ b → b ∉ wr := fun b hb q => absurd (lt6 b (I.sub b q)) (Nat.not_lt.mpr hb)
    have he64 : a.e64 ∉ wr := fun q => by have := (hwr _ q).1; rw [e.e64] at this; cases this
    have len : (zs (encN big (bl b))).length ≤ 1000 := by rw [zs_len, enc_len, bl_len]; split <;> omega
    refine bytes_it (s := ⟨h₈, g₆, s.drawn, _, s.os⟩) (o := mapObj tup (.ref a.e64)) (ty := "map") hm rfl rfl barg_map (fun A Q E q => ?_)
      (map_It (A := A'.in1.in1) (tup := tup) (by show A'.handled = none; rw [hA]; exact hh) I (cm_Fn (ct := a.ct) hcm) (nwr _ (by rw [e2]; exact Nat.le_succ _)) (nwr _ (Nat.le_refl _)) (fun b hb => by simp at hb; rw [hb]; exact he64) fun j hj => ?_)
      (fun j hj => byteAt_rng _ _) len (fun b hb => ?_) ⟨hm, ht, kp₈ _ _ e₇.e64, ?_⟩ fun s' t kp' hd' ho' hg' => ?_
    · exact iter_map hm q
    · have := zs_rng (enc_lt big (bl b) (bl_lt b)) _ (mem_getD hj)
      exact ⟨this.1, this.2⟩
    · simp only [List.mem_cons, List.mem_append, List.not_mem_nil, or_false] at hb
      rcases hb with rfl | rfl | rfl | hb
      · exact Heap.lt_size hm
      · exact Heap.lt_size ht
      · exact Heap.lt_size (kp₈ _ _ e₇.e64)
      · exact Nat.lt_of_lt_of_le (lt6 b hb) (by show tup ≤ h₈.objs.size; rw [e3, e2]; exact Nat.le_add_right tup 2)
    · exact I.frame _ _ h₈ _ st₇ fun b hb o e => kp₈ b o e
    · obtain ⟨h₉, g₉, d₉, tk₉, o₉⟩ := s'
      dsimp only at kp' hd' ho' hg'
      subst hd' ho' hg'
      have B₉ := (B₇.step (AdvH.ext kp₈)).gens kp' hwr (push_rep s.gens)
      refine stL B₉ fun h₁₀ tk₁₀ B₁₀ sb₁₀ => ?_
      walk_at "as"
      refine rdL B₁₀ (by walk_at "lk") ?_
      have fin := hQ ⟨h₁₀, s.gens.push .finished, s.drawn, tk₁₀, s.os⟩ t B₁₀.adv
      have ee : byteArr ((List.range (zs (encN big (bl b))).length).map fun j => byteAt cm ((zs (encN big (bl b))).getD j 0).toNat) = encB cm big (bl b) := by
        unfold encB
        rw [range_map (Es := zs (encN big (bl b))) (φ := fun z => byteAt cm z.toNat)]
        congr 1
        simp [zs]
      rw [ee]
      exact fin
/-! F14 -/
theorem plain_dget : plainId "dict.__getitem__" = true := by decide +kernel

theorem dget_code {w : World} {A : Around} {s : Shared} {R : Result → Shared → Prop} {dd : Addr} {df : Int → Option Value} {z : Int} {t : Tok} {v : Value} (h2 : s.heap.MapOf (intKind prog w) dd df) (hv : df z = some v) (k : R (.ok (.ret v)) { s with toks := s.toks + 1 }) :
    codeAny (M w) A (.builtin "dict.__getitem__" ⟨[.ref dd, .int z t], []⟩) R s := by
  refine codeAny_builtin PySem.F.entry_dict_getitem ?_
  rw [Around.under_plainId plain_dget _]
  have hk : (intKind prog w).is z (.int z t) = true := by show Value.isInt z (.int z t) = true; exact decide_eq_true rfl
  exact meets_dict_getitem (intKind prog w) dd hk A R s ⟨df, v, h2, hv, k⟩

/-- `lookup.__getitem__` -/
theorem dd_Fn {w : World} {d64 dd : Addr} {df : Int → Option Value} {D : Int → Prop} {φ : Int → Int} (hD : ∀ z, D z → ∃ t, df z = some (.int (φ z) t)) :
    Fn w (.ref d64) [d64, dd] D φ (fun h => h.get? d64 = some (bwObj "dict.__getitem__" (.ref dd)) ∧ h.MapOf (intKind prog w) dd df) where
  frame := fun h h' e k => ⟨k _ (by simp) _ e.1, let ⟨o, es, ep, ho, r⟩ := e.2; ⟨o, es, ep, k _ (by simp) _ ho, r⟩⟩
  call := fun A s z t Q E hh hd hDz k => by
    obtain ⟨h1, h2⟩ := hd
    obtain ⟨o, es, ep, ho, he, hdat, r⟩ := id h2
    obtain ⟨t', ht'⟩ := hD z hDz
    refine call_bound h1 (.inr rfl) rfl (fun Q E q => chk_dget ho he.1 ⟨es, ep, hdat⟩ Q E q) (plainId_quiet plain_dget _) (dget_code h2 ht' (k _ _))

theorem Nx.congr {w : World} {NV : Addr} {fp wr : List Addr} {n : Nat} {f f' : Nat → Int} {St : Nat → Heap → Prop} (N : Nx w NV fp wr n f St) (e : ∀ j, j < n → f j = f' j) : Nx w NV fp wr n f' St :=
  ⟨N.sub, N.frame, fun A j h g d tk o Q E pos env hA hj st k => N.call A j h g d tk o Q E pos env hA hj st (by rw [e j hj]; exact k)⟩

theorem dec_lt (big : Bool) : ∀ (l : List Nat), (∀ x ∈ l, x < 64) → ∀ y ∈ decN big l, y < 256
  | [], _ => by simp [decN]
  | [a], _ => by simp [decN]
  | [a, b], h => by
    have := h a (by simp)
    have := h b (by simp)
    cases big <;> simp [decN] <;> omega
  | [a, b, c], h => by
    have := h a (by simp)
    have := h b (by simp)
    have := h c (by simp)
    cases big <;> simp [decN] <;> omega
  | a :: b :: c :: d :: r, h => by
    have := h a (by simp)
    have := h b (by simp)
    have := h c (by simp)
    have := h d (by simp)
    have ih := dec_lt big r fun x hx => h x (by simp [hx])
    intro y hy
    cases big <;> simp [decN] at hy <;> rcases hy with rfl | rfl | rfl | hy <;> first | exact ih y hy | omega
theorem dec_len (big : Bool) : ∀ (l : List Nat), (decN big l).length ≤ l.length
  | [] => by simp [decN]
  | [a] => by simp [decN]
  | [a, b] => by cases big <;> simp [decN]
  | [a, b, c] => by cases big <;> simp [decN]
  | a :: b :: c :: d :: r => by
    have ih := dec_len big r
    cases big <;> simp [decN] <;> omega

theorem map_kp {w : World} {h h' : Heap} {a : Addr} {f : Int → Option Value} (k : ∀ o, h.get? a = some o → h'.get? a = some o) (m : h.MapOf (intKind prog w) a f) : h'.MapOf (intKind prog w) a f :=
  let ⟨o, es, ep, ho, r⟩ := m; ⟨o, es, ep, k _ ho, r⟩

def litDec : { st : Stmt // methAt 11 = st } := ⟨_, by
  delta methAt stmtAt prog PySem.Challenge.pw_aj5032_01
  dsimp only [List.getElem?_cons_succ, List.getElem?_cons_zero, Option.getD_some, clsBody]⟩
abbrev stDec : Stmt := litDec.1
def bodDec : { b : List Stmt // fnBody stDec = b } := ⟨_, by delta stDec litDec; dsimp only [fnBody]⟩

/-- the index of a sign in the alphabet -/
def ixOf (cm : Array UInt8) (c : UInt8) : Nat := (bl cm).idxOf c.toNat

/-- what decode_bytes answers -/
def decB (cm : Array UInt8) (big : Bool) (b : Array UInt8) : Array UInt8 := byteArr (zs (decN big (b.toList.map (ixOf cm))))

set_option maxHeartbeats 8000000 in
theorem dec_ok {w : World} {A : Around} {E : Value → Shared → Prop} {s : Shared} {K : Frag} {mg mb : Str → Option Value} {Q : Value → Shared → Prop} {x : Addr} {a : EngA} {cm b : Array UInt8} {big : Bool} {u : Tok}
    (hh : A.handled = none) (hroom : A.depth + 2 < recursionLimit) (G : Gl mg mb s.heap) (N : Nm mg) (C : ClsOk K) (X : K.In s.heap) (e : Eng w s.heap x a cm big) (hF : Fns s.heap) (hdec : FnE s.heap 93 stDec "Base64Engine.decode_bytes") (hcm : cm.size = 64)
    (hb : b.size ≤ 64) (h1 : b.size % 4 ≠ 1) (hin : ∀ c ∈ b.toList, c.toNat ∈ bl cm)
    (hQ : ∀ s' t, Adv s s' → Q (.bytes (decB cm big b) t) s') :
    wpAny (M w) A (call (.ref 93) [.ref x, .bytes b u]) Q E s := by
  obtain ⟨pm, code, hf⟩ := hdec
  refine enter (by omega) G hf bodDec.2 (binds := [("self", .ref x), ("source", .bytes b u)]) rfl (by decide) rfl (fun h₁ L tk A' eA dA hA B => ?_)
  delta bodDec
  dsimp only
  walk_at "as"
  with_reducible refine rdB (G.adv B.adv) N.isi b_isi ?_
  walk_at "as"
  with_reducible refine rdL B (by walk_at "lk") ?_
  walk_at "as"
  with_reducible refine rdB (G.adv B.adv) N.bytes b_bytes ?_
  walk_at "as"
  dsimp only [List.nil_append]
  refine call_isinstance_yes (Tx := "bytes") (T := "bytes") rfl (by kernel_rfl) F.bm_sub ?_
  walk_at "as"
  rw [if_neg (by decide)]
  walk_at "as"
  with_reducible refine rdB (G.adv B.adv) N.divmod b_divmod ?_
  walk_at "as"
  with_reducible refine rdB (G.adv B.adv) N.len b_len ?_
  walk_at "as"
  with_reducible refine rdL B (by walk_at "lk") ?_
  walk_at "as"
  dsimp only [List.nil_append]
  refine len_bytes (by omega) ?_
  walk_at "as"
  refine divmod_int (by decide) ?_ (.inl (PyProof.noPylong_small (by omega)))
  dsimp only
  have B₁ := B.step (AdvH.push { cls := .type "tuple", data := .seq #[.int ((b.size : Int).fdiv 4) (tk + 1 + 1 + 1), .int ((b.size : Int).fmod 4) (tk + 1 + 1 + 1 + 1)] })
  refine as_pair (by rw [hA]; exact hh) B₁ (Heap.get?_push_size _ rfl) fun h₂ tk₂ B₂ => ?_
  rw [show (b.size : Int).fdiv 4 = ((b.size / 4 : Nat) : Int) from fdiv_n b.size 4, show (b.size : Int).fmod 4 = ((b.size % 4 : Nat) : Int) from fmod_n b.size 4] at B₂
  walk_at "as"
  refine rdL B₂ (by walk_at "lk") ?_
  walk_at "as"
  rw [if_neg (by simp; omega)]
  walk_at "as"
  with_reducible refine rdG (G.adv B₂.adv) N.nxt ?_
  obtain ⟨pmn, codn, hn⟩ := hF.nx
  with_reducible refine cw_def (hn.adv B₂.adv) ?_
  walk_at "as"
  with_reducible refine rdG (G.adv B₂.adv) N.imap ?_
  walk_at "as"
  refine Attribute_name ?_
  refine rdL B₂ (by walk_at "lk") ?_
  have e₂ := e.adv B₂.adv
  refine eng_attr C (kin_adv C X B₂.adv) e₂ C.n2 e₂.l2 rfl ?_
  walk_at "as"
  refine rdL B₂ (by walk_at "lk") ?_
  walk_at "as"
  dsimp only [List.nil_append]
  refine call_map (it := h₂.objs.size) (h₁ := h₂.push (bIt b u 0)) (fun A Q E q => KBw.pyIter_bytes q) fun h₃ m tup kp₃ hm ht e1 e2 e3 => ?_
  walk_at "as"
  have B₃ := B₂.step ((AdvH.push (bIt b u 0)).trans (AdvH.ext kp₃))
  refine ⟨hn.adv B₃.adv, ?_⟩
  have it₃ : h₃.get? h₂.objs.size = some (bIt b u 0) := kp₃ _ _ (Heap.get?_push_size _ rfl)
  have z₂ : h₂.objs.size ≠ L := Nat.ne_of_gt B₂.new
  have hi₂ := B₂.big
  have old₂ := B₂.fresh
  have ltm : L < h₂.objs.size := B₂.new
  have etup : tup = h₂.objs.size + 1 := by rw [← e1]; exact Heap.size_push ..
  have ltd : a.d64 < h₂.objs.size ∧ a.dd < h₂.objs.size := ⟨Heap.lt_size e₂.d64, let ⟨_, _, _, ho, _⟩ := e₂.dd; Heap.lt_size ho⟩
  generalize hIT : h₂.objs.size = IT at z₂ hi₂ old₂ it₃ ltm etup ltd ht
  have him : 262 ≤ m := by rw [e2, etup]; exact Nat.le_trans hi₂ (Nat.le_add_right IT 2)
  have hit : 262 ≤ tup := by rw [etup]; exact Nat.le_trans hi₂ (Nat.le_add_right IT 1)
  refine next_ok (by omega) (G.adv B₃.adv) (hn.adv B₃.adv) nxty_map hm him fun h₄ tk₄ NV a₄ oldN hiN nv₄ => ?_
  dsimp only at a₄ oldN
  have B₄ := B₃.step a₄
  have it₄ := a₄.keep _ _ (ne_T hi₂) it₃
  have m₄ := a₄.keep _ _ (ne_T him) hm
  have t₄ := a₄.keep _ _ (ne_T hit) ht
  have neN : NV ≠ IT := fun q => by rw [q, it₃] at oldN; cases oldN
  have neNL : NV ≠ L := fun q => by obtain ⟨o, es, ep, e1, _⟩ := B₃.ns; rw [q, e1] at oldN; cases oldN
  have nem : m ≠ IT := by rw [e2, etup]; exact Nat.ne_of_gt (Nat.lt_of_lt_of_le (Nat.lt_succ_self _) (Nat.le_succ _))
  have netu : tup ≠ IT := by rw [etup]; exact Nat.succ_ne_self _
  have nemL : m ≠ L := by rw [e2, etup]; exact Nat.ne_of_gt (Nat.lt_of_lt_of_le ltm (Nat.le_add_right IT 2))
  have netL : tup ≠ L := by rw [etup]; exact Nat.ne_of_gt (Nat.lt_of_lt_of_le ltm (Nat.le_add_right IT 1))
  have ne64 : a.d64 ≠ IT := Nat.ne_of_lt ltd.1
  have nedd : a.dd ≠ IT := Nat.ne_of_lt ltd.2
  refine stL B₄ fun h₅ tk₅ B₅ sb₅ => ?_
  have nv₅ := (sb₅.2 _ neNL).trans nv₄
  have it₅ := (sb₅.2 _ z₂).trans it₄
  have m₅ := (sb₅.2 _ nemL).trans m₄
  have t₅ := (sb₅.2 _ netL).trans t₄
  walk_at "as"
  refine wpAny_Try_except ?_
  walk_at "as"
  with_reducible refine rdG (G.adv B₅.adv) N.jbv ?_
  walk_at "as"
  refine rdL B₅ (by walk_at "lk") ?_
  have e₅ := e.adv B₅.adv
  refine eng_meth_own C (kin_adv C X B₅.adv) e₅ C.n4 e₅.l4 rfl ?_
  dsimp only
  have hix : ∀ x ∈ b.toList.map (ixOf cm), x < 64 := fun x hx => by
    obtain ⟨c, hc, rfl⟩ := List.mem_map.1 hx
    have := List.idxOf_lt_length_of_mem (hin c hc)
    rw [bl_len, hcm] at this
    exact this
  have NX : Nx w NV (NV :: m :: tup :: IT :: [a.d64, a.dd]) [IT] b.size (fOf (b.toList.map (ixOf cm))) (MbNx NV m tup IT (.ref a.d64) (fun h => h.get? a.d64 = some (bwObj "dict.__getitem__" (.ref a.dd)) ∧ h.MapOf (intKind prog w) a.dd a.df) b u) := by
    refine (mb_Nx (φ := fun z => ((bl cm).idxOf z.toNat : Int)) (D := fun z => 0 ≤ z ∧ z.toNat ∈ bl cm) (dd_Fn fun z hz => ?_) neN nem netu ?_ fun j hj => ?_).congr fun j hj => ?_
    · have lt := List.idxOf_lt_length_of_mem hz.2
      have lt' : (bl cm).idxOf z.toNat < 64 := by rw [bl_len, hcm] at lt; exact lt
      obtain ⟨t, ht⟩ := e.df _ lt'
      refine ⟨t, ?_⟩
      rw [← ht]
      congr 1
      rw [byteAt_fOf]
      unfold fOf
      rw [List.getD_eq_getElem?_getD, List.getElem?_eq_getElem lt, Option.getD_some, List.getElem_idxOf lt]
      omega
    · simp only [List.mem_cons, List.not_mem_nil, or_false, not_or]
      exact ⟨Ne.symm ne64, Ne.symm nedd⟩
    · obtain ⟨c, hc, hc'⟩ := byteAt_of hj
      rw [← hc']
      refine ⟨by omega, ?_⟩
      have : c ∈ b.toList := by simpa using Array.mem_of_getElem? hc
      simpa using hin c this
    · obtain ⟨c, hc, hc'⟩ := byteAt_of hj
      show ((bl cm).idxOf (byteAt b j).toNat : Int) = _
      rw [← hc']
      unfold fOf
      rw [List.getD_eq_getElem?_getD, List.getElem?_map, Array.getElem?_toList, hc]
      simp [ixOf]
  refine wpAny_mono (Q := GenP w A'.in1.in1 s L h₅ (zs (decN big (b.toList.map (ixOf cm))))) ?gen (fun v s' hv => ?rest) (fun _ _ x => x)
  case gen =>
    cases big with
    | false =>
      obtain ⟨pmg, codg, hg⟩ := hF.dl
      have F₅ := hg.adv B₅.adv
      refine cw_bm (q := a.mdb) (g := 100) (fd := fd stDL "Base64Engine._decode_bytes_little" pmg codg) (fo := fnObj stDL "Base64Engine._decode_bytes_little" pmg codg) (self := .ref x) rfl ?_
      walk_at "as"
      refine rdL B₅ (by walk_at "lk") ?_
      walk_at "as"
      refine rdL B₅ (by walk_at "lk") ?_
      walk_at "as"
      refine rdL B₅ (by walk_at "lk") ?_
      walk_at "as"
      dsimp only [List.nil_append]
      refine ⟨⟨e₅.mdb, F₅.obj⟩, ?_⟩
      refine mk_gen (s := ⟨h₅, s.gens, s.drawn, _, s.os⟩) (binds := [("self", .ref x), ("next_value", .ref NV), ("chunks", .int ((b.size / 4 : Nat) : Int) _), ("tail", .int ((b.size % 4 : Nat) : Int) _)]) (by omega) (G.adv B₅.adv) F₅ e₅.mdb bodDL.2 rfl (by decide) rfl fun h₆ tk₆ L' ga kp n₆ ig eL ea ez => ?_
      dsimp only at kp n₆ ig eL ea ez
      have ltN : NV < L' := by rw [eL]; exact Heap.lt_size nv₅
      have ltI : IT < L' := by rw [eL]; exact Heap.lt_size it₅
      have ltL : L < L' := by rw [eL]; exact B₅.new
      have ltmm : m < L' := by rw [eL]; exact Heap.lt_size m₅
      have ltt : tup < L' := by rw [eL]; exact Heap.lt_size t₅
      have ltd' : a.d64 < L' ∧ a.dd < L' := ⟨by rw [eL]; exact Heap.lt_size e₅.d64, by rw [eL]; exact let ⟨_, _, _, ho, _⟩ := e₅.dd; Heap.lt_size ho⟩
      have hi' : 262 ≤ L' := by rw [eL]; exact B₅.big
      have ltg : ga = L' + 1 := by rw [ea, eL]
      have old' : s.heap.get? L' = none := by rw [eL]; exact B₅.fresh
      have hEs : zs (decN false (b.toList.map (ixOf cm))) = dlL (fOf (b.toList.map (ixOf cm))) (b.size / 4) 0 (b.size % 4) := by
        rw [dl_decN hix _ _ _ (by simp; omega) (by omega) h1, List.drop_zero]
      rw [hEs]
      have hLfp : L' ∉ (NV :: m :: tup :: IT :: [a.d64, a.dd]) := by
        simp only [List.mem_cons, List.not_mem_nil, or_false, not_or]
        exact ⟨Nat.ne_of_gt ltN, Nat.ne_of_gt ltmm, Nat.ne_of_gt ltt, Nat.ne_of_gt ltI, Nat.ne_of_gt ltd'.1, Nat.ne_of_gt ltd'.2⟩
      refine ⟨ga, ga :: cStatics :: L' :: (NV :: m :: tup :: IT :: [a.d64, a.dd]), L' :: [IT], GenSt w A'.in1.in1 ga L' (NV :: m :: tup :: IT :: [a.d64, a.dd]) [IT] _ s.gens, rfl,
        gen_It (by show A'.handled = none; rw [hA]; exact hh) (by show A'.depth < recursionLimit; omega) NX.sub ?_ ?_, ⟨ig, ?_, _, rfl, fun s'' al => ⟨rfl, ?_⟩⟩, ig, kp, ?_, ?_, rfl, rfl, ?_, ?_, ?_⟩
      · simp only [List.mem_cons, List.not_mem_nil, or_false, not_or]
        exact ⟨by rw [ltg]; exact Nat.succ_ne_self _, by rw [ltg]; exact Nat.ne_of_gt (Nat.lt_succ_of_lt ltI)⟩
      · simp only [List.mem_cons, List.not_mem_nil, or_false, not_or]
        exact ⟨Nat.ne_of_lt (Nat.lt_of_lt_of_le (by decide) hi'), Nat.ne_of_lt (Nat.lt_of_lt_of_le (by decide) hi₂)⟩
      · exact lim_keep (G.adv B₅.adv).lim fun o e => kp _ o e
      · exact dl_seg (self := .none) (A := A'.in1.in1.in1) (by show A'.handled = none; rw [hA]; exact hh) NX (fun k => by have : (b.toList.map (ixOf cm)).getD k 0 < 64 := getD_lt (by decide) hix; unfold fOf; omega) hLfp (by omega) (by omega) h1 (ns_keep n₆ fun o e => al _ (by simp) o e)
          ⟨al _ (by simp) _ (kp _ _ nv₅), al _ (by simp) _ (kp _ _ m₅), al _ (by simp) _ (kp _ _ t₅), ⟨al _ (by simp) _ (kp _ _ e₅.d64), map_kp (fun o ho => al _ (by simp) o (kp _ _ ho)) e₅.dd⟩, al _ (by simp) _ (kp _ _ it₅)⟩ rfl rfl rfl
      · intro q hq
        rw [ez, ← eL]
        simp only [List.mem_cons, List.not_mem_nil, or_false] at hq
        rcases hq with rfl | rfl | rfl | rfl | rfl | rfl | rfl | rfl | rfl
        · rw [ltg]; exact Nat.lt_succ_self _
        · exact Nat.lt_of_lt_of_le (Nat.lt_of_lt_of_le (by decide) hi') (Nat.le_add_right ..)
        · exact Nat.lt_of_lt_of_le (Nat.lt_succ_self _) (Nat.le_succ _)
        · exact Nat.lt_of_lt_of_le ltN (Nat.le_add_right ..)
        · exact Nat.lt_of_lt_of_le ltmm (Nat.le_add_right ..)
        · exact Nat.lt_of_lt_of_le ltt (Nat.le_add_right ..)
        · exact Nat.lt_of_lt_of_le ltI (Nat.le_add_right ..)
        · exact Nat.lt_of_lt_of_le ltd'.1 (Nat.le_add_right ..)
        · exact Nat.lt_of_lt_of_le ltd'.2 (Nat.le_add_right ..)
      · intro q hq
        simp only [List.mem_cons, List.not_mem_nil, or_false] at hq
        rcases hq with rfl | rfl
        · exact ⟨old', hi', Nat.ne_of_gt ltL⟩
        · exact ⟨old₂, hi₂, z₂⟩
      · rw [ez, ← eL, ltg]; exact Nat.lt_succ_self _
      · rw [ltg]; exact Nat.ne_of_gt (Nat.lt_succ_of_lt ltL)
      · simp only [List.mem_cons, List.not_mem_nil, or_false, not_or]
        refine ⟨by rw [ltg]; exact Nat.ne_of_lt (Nat.lt_succ_of_lt ltL), Nat.ne_of_gt (Nat.lt_of_lt_of_le (by decide) B.hi), Nat.ne_of_lt ltL, Ne.symm neNL, Ne.symm nemL, Ne.symm netL, Ne.symm z₂, fun q => ?_, fun q => ?_⟩
        · have := B.old; rw [q, e.d64] at this; cases this
        · obtain ⟨_, _, _, ho, _⟩ := e.dd; have := B.old; rw [q, ho] at this; cases this
    | true =>
      obtain ⟨pmg, codg, hg⟩ := hF.db
      have F₅ := hg.adv B₅.adv
      refine cw_bm (q := a.mdb) (g := 107) (fd := fd stDB "Base64Engine._decode_bytes_big" pmg codg) (fo := fnObj stDB "Base64Engine._decode_bytes_big" pmg codg) (self := .ref x) rfl ?_
      walk_at "as"
      refine rdL B₅ (by walk_at "lk") ?_
      walk_at "as"
      refine rdL B₅ (by walk_at "lk") ?_
      walk_at "as"
      refine rdL B₅ (by walk_at "lk") ?_
      walk_at "as"
      dsimp only [List.nil_append]
      refine ⟨⟨e₅.mdb, F₅.obj⟩, ?_⟩
      refine mk_gen (s := ⟨h₅, s.gens, s.drawn, _, s.os⟩) (binds := [("self", .ref x), ("next_value", .ref NV), ("chunks", .int ((b.size / 4 : Nat) : Int) _), ("tail", .int ((b.size % 4 : Nat) : Int) _)]) (by omega) (G.adv B₅.adv) F₅ e₅.mdb bodDB.2 rfl (by decide) rfl fun h₆ tk₆ L' ga kp n₆ ig eL ea ez => ?_
      dsimp only at kp n₆ ig eL ea ez
      have ltN : NV < L' := by rw [eL]; exact Heap.lt_size nv₅
      have ltI : IT < L' := by rw [eL]; exact Heap.lt_size it₅
      have ltL : L < L' := by rw [eL]; exact B₅.new
      have ltmm : m < L' := by rw [eL]; exact Heap.lt_size m₅
      have ltt : tup < L' := by rw [eL]; exact Heap.lt_size t₅
      have ltd' : a.d64 < L' ∧ a.dd < L' := ⟨by rw [eL]; exact Heap.lt_size e₅.d64, by rw [eL]; exact let ⟨_, _, _, ho, _⟩ := e₅.dd; Heap.lt_size ho⟩
      have hi' : 262 ≤ L' := by rw [eL]; exact B₅.big
      have ltg : ga = L' + 1 := by rw [ea, eL]
      have old' : s.heap.get? L' = none := by rw [eL]; exact B₅.fresh
      have hEs : zs (decN true (b.toList.map (ixOf cm))) = dbL (fOf (b.toList.map (ixOf cm))) (b.size / 4) 0 (b.size % 4) := by
        rw [db_decN hix _ _ _ (by simp; omega) (by omega) h1, List.drop_zero]
      rw [hEs]
      have hLfp : L' ∉ (NV :: m :: tup :: IT :: [a.d64, a.dd]) := by
        simp only [List.mem_cons, List.not_mem_nil, or_false, not_or]
        exact ⟨Nat.ne_of_gt ltN, Nat.ne_of_gt ltmm, Nat.ne_of_gt ltt, Nat.ne_of_gt ltI, Nat.ne_of_gt ltd'.1, Nat.ne_of_gt ltd'.2⟩
      refine ⟨ga, ga :: cStatics :: L' :: (NV :: m :: tup :: IT :: [a.d64, a.dd]), L' :: [IT], GenSt w A'.in1.in1 ga L' (NV :: m :: tup :: IT :: [a.d64, a.dd]) [IT] _ s.gens, rfl,
        gen_It (by show A'.handled = none; rw [hA]; exact hh) (by show A'.depth < recursionLimit; omega) NX.sub ?_ ?_, ⟨ig, ?_, _, rfl, fun s'' al => ⟨rfl, ?_⟩⟩, ig, kp, ?_, ?_, rfl, rfl, ?_, ?_, ?_⟩
      · simp only [List.mem_cons, List.not_mem_nil, or_false, not_or]
        exact ⟨by rw [ltg]; exact Nat.succ_ne_self _, by rw [ltg]; exact Nat.ne_of_gt (Nat.lt_succ_of_lt ltI)⟩
      · simp only [List.mem_cons, List.not_mem_nil, or_false, not_or]
        exact ⟨Nat.ne_of_lt (Nat.lt_of_lt_of_le (by decide) hi'), Nat.ne_of_lt (Nat.lt_of_lt_of_le (by decide) hi₂)⟩
      · exact lim_keep (G.adv B₅.adv).lim fun o e => kp _ o e
      · exact db_seg (self := .none) (A := A'.in1.in1.in1) (by show A'.handled = none; rw [hA]; exact hh) NX (fun k => by have : (b.toList.map (ixOf cm)).getD k 0 < 64 := getD_lt (by decide) hix; unfold fOf; omega) hLfp (by omega) (by omega) h1 (ns_keep n₆ fun o e => al _ (by simp) o e)
          ⟨al _ (by simp) _ (kp _ _ nv₅), al _ (by simp) _ (kp _ _ m₅), al _ (by simp) _ (kp _ _ t₅), ⟨al _ (by simp) _ (kp _ _ e₅.d64), map_kp (fun o ho => al _ (by simp) o (kp _ _ ho)) e₅.dd⟩, al _ (by simp) _ (kp _ _ it₅)⟩ rfl rfl rfl
      · intro q hq
        rw [ez, ← eL]
        simp only [List.mem_cons, List.not_mem_nil, or_false] at hq
        rcases hq with rfl | rfl | rfl | rfl | rfl | rfl | rfl | rfl | rfl
        · rw [ltg]; exact Nat.lt_succ_self _
        · exact Nat.lt_of_lt_of_le (Nat.lt_of_lt_of_le (by decide) hi') (Nat.le_add_right ..)
        · exact Nat.lt_of_lt_of_le (Nat.lt_succ_self _) (Nat.le_succ _)
        · exact Nat.lt_of_lt_of_le ltN (Nat.le_add_right ..)
        · exact Nat.lt_of_lt_of_le ltmm (Nat.le_add_right ..)
        · exact Nat.lt_of_lt_of_le ltt (Nat.le_add_right ..)
        · exact Nat.lt_of_lt_of_le ltI (Nat.le_add_right ..)
        · exact Nat.lt_of_lt_of_le ltd'.1 (Nat.le_add_right ..)
        · exact Nat.lt_of_lt_of_le ltd'.2 (Nat.le_add_right ..)
      · intro q hq
        simp only [List.mem_cons, List.not_mem_nil, or_false] at hq
        rcases hq with rfl | rfl
        · exact ⟨old', hi', Nat.ne_of_gt ltL⟩
        · exact ⟨old₂, hi₂, z₂⟩
      · rw [ez, ← eL, ltg]; exact Nat.lt_succ_self _
      · rw [ltg]; exact Nat.ne_of_gt (Nat.lt_succ_of_lt ltL)
      · simp only [List.mem_cons, List.not_mem_nil, or_false, not_or]
        refine ⟨by rw [ltg]; exact Nat.ne_of_lt (Nat.lt_succ_of_lt ltL), Nat.ne_of_gt (Nat.lt_of_lt_of_le (by decide) B.hi), Nat.ne_of_lt ltL, Ne.symm neNL, Ne.symm nemL, Ne.symm netL, Ne.symm z₂, fun q => ?_, fun q => ?_⟩
        · have := B.old; rw [q, e.d64] at this; cases this
        · obtain ⟨_, _, _, ho, _⟩ := e.dd; have := B.old; rw [q, ho] at this; cases this
  case rest =>
    obtain ⟨ga, fp, wr, St, rfl, I, st, ig, kp, hfp, hwr, hd, ho, hga, gaL, hLfp⟩ := hv
    obtain ⟨h₆, g₆, d₆, tk₆, o₆⟩ := s'
    dsimp only at st ig kp hfp hd ho hga
    subst hd ho
    have B₆ := B₅.step (AdvH.ext kp)
    walk_at "as"
    dsimp only [List.nil_append]
    obtain ⟨go, nm, qn, hgo, hgc, hgd, _⟩ := id ig
    have len : (zs (decN big (b.toList.map (ixOf cm)))).length ≤ 1000 := by
      have := dec_len big (b.toList.map (ixOf cm))
      rw [zs_len]
      simp at this
      omega
    refine bytes_it (s := ⟨h₆, g₆, s.drawn, _, s.os⟩) hgo hgc hgd barg_gen (fun A Q E q => wpAny_pyIter_gen ig q) I (fun j hj => ?_) len hfp st fun s' t kp' hd' ho' hg' => ?_
    · exact zs_rng (dec_lt big _ hix) _ (mem_getD hj)
    · obtain ⟨h₉, g₉, d₉, tk₉, o₉⟩ := s'
      dsimp only at kp' hd' ho' hg'
      subst hd' ho' hg'
      have B₉ := B₆.gens kp' hwr (push_rep s.gens)
      have fin := hQ ⟨h₉, s.gens.push .finished, s.drawn, tk₉, s.os⟩ t B₉.adv
      rw [range_map (Es := zs (decN big (b.toList.map (ixOf cm)))) (φ := fun z => z), List.map_id']
      exact fin
/-! F15 -/
def litEtb : { st : Stmt // methAt 19 = st } := ⟨_, by
  delta methAt stmtAt prog PySem.Challenge.pw_aj5032_01
  dsimp only [List.getElem?_cons_succ, List.getElem?_cons_zero, Option.getD_some, clsBody]⟩
abbrev stEtb : Stmt := litEtb.1
def bodEtb : { b : List Stmt // fnBody stEtb = b } := ⟨_, by delta stEtb litEtb; dsimp only [fnBody]⟩

/-- a function with one cell is entered -/
theorem enterC {w : World} {A : Around} {E : Value → Shared → Prop} {s : Shared} {mg mb : Str → Option Value} {Q : Value → Shared → Prop} {f : Addr} {st : Stmt} {qual : Str} {pm code : Value} {args : List Value} {binds : List (Str × Value)} {body : List Stmt}
    (hroom : A.depth < recursionLimit) (G : Gl mg mb s.heap) (F : FnAt s.heap f st qual pm code) (hbody : fnBody st = body) (hbind : bindArgs (fd st qual pm code) ⟨args, []⟩ = pure binds)
    (hkind : ∀ x ∈ binds, (fnScope st).names.lookup x.1 = some .local ∨ ((fnScope st).names.lookup x.1 = some .cell ∧ ((cellsFrom (s.heap.objs.size + 1) (fnScope st).names []).lookup x.1).isSome = true))
    (h : ∀ s₁ L A', L = s.heap.objs.size → A' = A.deeper (callEnvC (fd st qual pm code) L f) → A'.depth = A.depth + 1 → A'.handled = A.handled →
      InCallC s L (bindL (callEnvC (fd st qual pm code) L f).kindOf binds fun _ => none) (cellsFrom (L + 1) (fnScope st).names []) (bindC (callEnvC (fd st qual pm code) L f).kindOf binds fun _ => none) s₁ →
      BdH s L (bindL (callEnvC (fd st qual pm code) L f).kindOf binds fun _ => none) s₁.heap s₁.gens s₁.drawn s₁.os → s₁.gens = s.gens → s₁.drawn = s.drawn → s₁.os = s.os →
      wpAny (M w) A' (execs body (callEnvC (fd st qual pm code) L f)) (fun f s' => Q (flowV f) s')
        (fun e s' => wpAny (M w) A' (leaving (callEnvC (fd st qual pm code) L f) e) (fun _ s'' => E e s'') (fun e' s'' => E e' s'') s') s₁)
    (hco : (fnScope st).isCoroutine = false := by rfl) (hgen : (fnScope st).isGenerator = false := by rfl) (hk : (fnScope st).kind = .function := by rfl) :
    wpAny (M w) A (call (.ref f) args) Q E s := by
  refine wpAny_call (codeAny_call_cells (fd := fd st qual pm code) (binds := binds) hroom F.obj rfl G.lim F.crec rfl hbind rfl hkind (fun s₁ x => ?_) hco hgen hk)
  rw [show fnBody st = body from hbody]
  obtain ⟨h₁, tk, e⟩ := x.toInCall.same
  subst e
  refine wpAny_mono (h _ s.heap.objs.size _ rfl rfl (depth_deeper ..) rfl x ⟨AdvH.ext x.toInCall.keep, x.toInCall.ns, (fresh_of (AdvH.ext fun _ _ e => e) G.top).2, (fresh_of (s := s) (AdvH.ext fun _ _ e => e) G.top).1, G.top⟩ rfl rfl rfl) (fun fl s' q => ?_) fun _ _ q => q
  cases fl <;> exact q
/-! F16 -/
abbrev inR (n : Nat) (p : Int) : Prop := -(n : Int) ≤ p ∧ p < n
/-- the index that a place means -/
def ixP (n : Nat) (p : Int) : Nat := if p < 0 then (p + n).toNat else p.toNat
theorem ixP_lt {n : Nat} {p : Int} (h : inR n p) : ixP n p < n := by
  unfold inR at h
  unfold ixP
  split <;> omega
theorem seqIndex_in {n : Nat} {p : Int} (h : inR n p) : seqIndex? p n = some (ixP n p) := by
  unfold inR at h
  unfold seqIndex? ixP
  by_cases hp : p < 0
  · have a1 : (decide (0 ≤ p + (n : Int)) && decide (p + (n : Int) < (n : Int))) = true := by simp; omega
    simp only [if_pos hp]
    rw [if_pos a1]
  · have a1 : (decide (0 ≤ p) && decide (p < (n : Int))) = true := by simp; omega
    simp only [if_neg hp]
    rw [if_pos a1]
theorem seqIndex_out {n : Nat} {p : Int} (h : ¬ inR n p) : seqIndex? p n = none := by
  unfold inR at h
  unfold seqIndex?
  by_cases hp : p < 0
  · have a1 : ¬ (decide (0 ≤ p + (n : Int)) && decide (p + (n : Int) < (n : Int))) = true := by simp; omega
    simp only [if_pos hp]
    rw [if_neg a1]
  · have a1 : ¬ (decide (0 ≤ p) && decide (p < (n : Int))) = true := by simp; omega
    simp only [if_neg hp]
    rw [if_neg a1]
theorem fits_small {p : Int} (h : -1000 ≤ p ∧ p ≤ 1000) : Builtin.Bytes.fitsIndex p = true := by
  unfold Builtin.Bytes.fitsIndex
  rw [Bool.and_eq_true, decide_eq_true_eq, decide_eq_true_eq]
  have : (2 : Int) ^ 63 = 9223372036854775808 := by decide
  rw [this]
  omega

section
variable {w : World} {A : Around} {E : Value → Shared → Prop} {s : Shared} {b : Array UInt8} {t u : Tok} {p : Int} {Q : Value → Shared → Prop}
theorem get_b (hp : -1000 ≤ p ∧ p ≤ 1000) (h : inR b.size p) (k : ∀ t' tk', Q (.int (byteAt b (ixP b.size p)) t') { s with toks := tk' }) : wpAny (M w) A (getItem (.bytes b t) (.int p u)) Q E s := by
  have lt := ixP_lt h
  have e : byteAt b (ixP b.size p) = ((b[ixP b.size p]'lt).toNat : Int) := by simp [byteAt, lt]
  rw [e] at k
  refine getItem_gives (typeIs_bytes s b t) (by decide) FB.slot_bytes_getitem FB.entry_bytes_getitem (FB.args_bytes_getitem_2 _ _) (gives_bytes_getitem b p t u (b[ixP b.size p]'lt) (fits_small hp) ?_) (k _ _)
  rw [seqIndex_in h]; simp [lt]
theorem get_b_out (hA : A.handled = none) (hp : -1000 ≤ p ∧ p ≤ 1000) (h : ¬ inR b.size p) (hE : ∀ h' tk e, Heap.NewExc s.heap h' e "IndexError" → E (.ref e) { s with heap := h', toks := tk }) : wpAny (M w) A (getItem (.bytes b t) (.int p u)) Q E s := by
  refine wpAny_getItem_slot (typeIs_bytes s b t) (by decide) FB.slot_bytes_getitem (wpAny_call_entry FB.slot_bytes_getitem (typeIs_bytes s b t) FB.entry_bytes_getitem ?_ (FB.args_bytes_getitem_2 _ _))
  show wpAny _ _ (Builtin.Bytes.subscript? (.int p u) >>= fun r => _) _ _ s
  refine wpAny_bind ?_
  unfold Builtin.Bytes.subscript?
  refine wpAny_bind (wpAny_specialOf (typeIs_int s p u) PySem.F.slot_int_index.lookup ?_)
  show wpAny _ _ (if (!Builtin.Bytes.fitsIndex p) = true then _ else pure (some p)) _ _ s
  rw [fits_small hp]
  refine wpAny_pure ?_
  show wpAny _ _ (match (seqIndex? p b.size).bind (b[·]?) with | some x => retInt x.toNat | none => _) _ _ s
  rw [seqIndex_out h]
  first
    | exact wpAny_bind (wpAny_rule (by exact_raiseError plainExc_IndexError hA hE))
    | exact wpAny_bind (wpAny_rule (wpAny_bind (by exact_raiseError plainExc_IndexError hA hE)))
    | exact wpAny_bind (wpAny_bind (wpAny_rule (by exact_raiseError plainExc_IndexError hA hE)))
    | exact wpAny_rule (by exact_raiseError plainExc_IndexError hA hE)
end
/-! F17 -/
/-- the bytes that the places take, up to the first place that is out of range -/
def takenTo (b : Array UInt8) (ps : List Int) : List Int := (ps.takeWhile fun p => decide (inR b.size p)).map fun p => byteAt b (ixP b.size p)
def allIn (b : Array UInt8) (ps : List Int) : Prop := ∀ p ∈ ps, inR b.size p

theorem taken_item {b : Array UInt8} : ∀ {ps : List Int} {i : Nat}, i < (takenTo b ps).length → ∃ p, ps[i]? = some p ∧ inR b.size p ∧ (takenTo b ps).getD i 0 = byteAt b (ixP b.size p)
  | [], i, h => by simp [takenTo] at h
  | p :: r, i, h => by
    unfold takenTo at h ⊢
    by_cases hp : inR b.size p
    · rw [List.takeWhile_cons_of_pos (by simpa using hp)] at h ⊢
      cases i with
      | zero => exact ⟨p, rfl, hp, rfl⟩
      | succ i =>
        obtain ⟨q, e1, e2, e3⟩ := taken_item (b := b) (ps := r) (i := i) (by unfold takenTo; simpa using h)
        exact ⟨q, by simpa using e1, e2, by unfold takenTo at e3; simpa using e3⟩
    · rw [List.takeWhile_cons_of_neg (by simpa using hp)] at h
      simp at h
theorem taken_end {b : Array UInt8} : ∀ {ps : List Int}, (allIn b ps ∧ ps[(takenTo b ps).length]? = none) ∨ (¬ allIn b ps ∧ ∃ p, ps[(takenTo b ps).length]? = some p ∧ ¬ inR b.size p)
  | [] => .inl ⟨fun _ h => (nomatch h), rfl⟩
  | p :: r => by
    by_cases hp : inR b.size p
    · have e : (takenTo b (p :: r)).length = (takenTo b r).length + 1 := by
        unfold takenTo
        rw [List.takeWhile_cons_of_pos (by simpa using hp)]; simp
      rw [e]
      rcases taken_end (b := b) (ps := r) with ⟨h1, h2⟩ | ⟨h1, q, h2, h3⟩
      · exact .inl ⟨fun x hx => by rcases List.mem_cons.mp hx with rfl | hx; exact hp; exact h1 x hx, by simpa using h2⟩
      · exact .inr ⟨fun h => h1 fun x hx => h x (List.mem_cons_of_mem _ hx), q, by simpa using h2, h3⟩
    · have e : (takenTo b (p :: r)).length = 0 := by
        unfold takenTo
        rw [List.takeWhile_cons_of_neg (by simpa using hp)]; simp
      rw [e]
      exact .inr ⟨fun h => hp (h p List.mem_cons_self), p, rfl, hp⟩

/-- an exception on its way, seen from a heap of old -/
structure Rz (base : Heap) (outer : List Env) (e : Addr) (X : String) (hN h' : Heap) : Prop where
  stays : base.StaysIn h'
  ff : h'.FunFrames base outer
  tr : h'.Traced base e (.type X)
  new : base.get? e = none
  old : ∀ b o, hN.get? b = some o → (∀ vs, o.data ≠ .fields vs) → ∃ sl, h'.get? b = some { o with slots := sl }

structure GxF (cenv : Env) (I l c : Addr) (vs : List Value) (ps : List Int) (b : Array UInt8) (u : Tok) (hN base : Heap) (outer : List Env) : Prop where
  hl : hN.IsList l vs.toArray
  hc : hN.IsCell c (some (.bytes b u))
  hi : IntsAre vs ps
  lI : l ≠ I
  cI : c ≠ I
  st : base.StaysIn hN
  bI : base.get? I = none
  ff : (hN.hide cenv.locals).FunFrames base outer
  lC : l ≠ cenv.locals
  cC : c ≠ cenv.locals
  IC : I ≠ cenv.locals
  nC : base.get? cenv.locals = none
  oI : ∃ o vs, hN.get? I = some o ∧ o.data = .fields vs
  sm : ∀ p ∈ ps, -1000 ≤ p ∧ p ≤ 1000
  k : cenv.scope.kind = .function
  ko : cenv.kindOf "off" = some .local
  ks : cenv.kindOf "source" = some .free
  cl : cenv.cells.lookup ("source" : Str) = some c
  fr : cenv.frame = some cenv.locals
  co : cenv.scope.isCoroutine = false

structure GX (cenv : Env) (I l : Addr) (hN : Heap) (i : Nat) (h : Heap) : Prop where
  keep : ∀ b o, b ≠ I → b ≠ cenv.locals → hN.get? b = some o → h.get? b = some o
  ns : ∃ m, h.Ns cenv.locals m
  it : h.IsListIter I l i

def gRx (cenv : Env) (I : Addr) (ps : List Int) (b : Array UInt8) (hN base : Heap) (outer : List Env) : GenEnd := fun n s₀ r s => n = 0 ∧ ∃ h' tk, s = ⟨h', s₀.gens, s₀.drawn, tk, s₀.os⟩ ∧
  ((allIn b ps ∧ r = .ok .next ∧ Kp [cenv.locals, I] s₀.heap h') ∨ (¬ allIn b ps ∧ ∃ e, r = .error (.ref e) ∧ Rz base (cenv :: outer) e "IndexError" (hN.hide cenv.locals) h'))
def gYx (cenv : Env) (I : Addr) (hN : Heap) (Es : List Int) : Protocol := fun m s₀ v s κ => (∃ t, v = .int (Es.getD (Es.length - 1 - m) 0) t) ∧ (∃ h' tk, s = ⟨h', s₀.gens, s₀.drawn, tk, s₀.os⟩ ∧ Kp [cenv.locals, I] s₀.heap h') ∧
  ∀ s'' : Shared, (∀ b ∈ cenv.locals :: List.range hN.objs.size, ∀ o, s.heap.get? b = some o → s''.heap.get? b = some o) → κ (.send .none) s''

section
variable {w : World} {cenv : Env} {I l c : Addr} {vs : List Value} {ps : List Int} {b : Array UInt8} {u : Tok} {hN base : Heap} {outer : List Env}

set_option maxHeartbeats 2000000 in
theorem gx_loop {A : Around} {p1 p2 p3 px pi : Pos} {scope : Scope} {pos : Pos} (hh : A.handled = none) (hA : A.frames = some outer) (F : GxF cenv I l c vs ps b u hN base outer) :
    ∀ (k i : Nat) (s₀ s : Shared), (takenTo b ps).length - i = k → i ≤ (takenTo b ps).length → GX cenv I l hN i s.heap → (∃ h' tk, s = ⟨h', s₀.gens, s₀.drawn, tk, s₀.os⟩ ∧ Kp [cenv.locals, I] s₀.heap h') →
      Seg (M w) A (gRx cenv I ps b hN base outer) (gYx cenv I hN (takenTo b ps)) ((takenTo b ps).length - i) s₀
        (.compLoop (.GeneratorExp (.Subscript (.Name "source" p1) (.Name "off" p2) p3) [⟨.Name "off" px, .Name "offsets" pi, [], 0⟩] scope pos) 0 (.ref I) .none cenv)
        ((M w).den (.compLoop (.GeneratorExp (.Subscript (.Name "source" p1) (.Name "off" p2) p3) [⟨.Name "off" px, .Name "offsets" pi, [], 0⟩] scope pos) 0 (.ref I) .none cenv)) [] s := by
  have hIC : I ≠ cenv.locals := F.IC
  have hlen : vs.length = ps.length := ints_len F.hi
  intro k
  generalize hcode : Code.compLoop (.GeneratorExp (.Subscript (.Name "source" p1) (.Name "off" p2) p3) [⟨.Name "off" px, .Name "offsets" pi, [], 0⟩] scope pos) 0 (.ref I) .none cenv = cd
  have hh' : (A.over cd []).handled = none := hh
  have hfr : (A.over cd []).frames = some (cenv :: outer) := by
    subst hcode
    show pushEnvs [cenv] (pushEnvs [] A.frames) = _
    rw [hA]; rfl
  induction k with
  | zero =>
    intro i s₀ s hk hle G sn
    have hin : i = (takenTo b ps).length := by omega
    subst hin
    obtain ⟨h', tk, rfl, kp⟩ := sn
    obtain ⟨keep, ⟨m, ns⟩, it⟩ := G
    dsimp only at keep ns it
    subst hcode
    show Seg _ A _ _ _ s₀ _ ((compTurn (.GeneratorExp (.Subscript (.Name "source" p1) (.Name "off" p2) p3) [⟨.Name "off" px, .Name "offsets" pi, [], 0⟩] scope pos) 0 (.ref I) .none cenv).onRaise (leaving cenv)) [] _
    rw [compTurn_gen, Sem.onRaise_eq_wrap]
    refine seg_bind_wrap (wpAny_standAt ?_)
    have hl : h'.IsList l vs.toArray := let ⟨o, e, r⟩ := F.hl; ⟨o, keep _ _ F.lI F.lC e, r⟩
    rcases taken_end (b := b) (ps := ps) with ⟨hall, hn⟩ | ⟨hbad, p, hp, hout⟩
    · have hx : vs.toArray[(takenTo b ps).length]? = none := by
        rw [List.getElem?_toArray]
        rw [List.getElem?_eq_none_iff] at hn ⊢
        omega
      refine seg_bind_wrap (wpAny_pyNext_list_end (s := ⟨h', _, _, tk, _⟩) hh' it hl hx fun h₁ ex => ?_)
      refine seg_end (.ok .next) ⟨by omega, h₁, tk, rfl, .inl ⟨hall, rfl, fun b o hb e => ex b o (fun q => hb (by simp [q])) (kp b o hb e)⟩⟩
    · obtain ⟨t, hv⟩ := ints_at F.hi (takenTo b ps).length (by
        have := List.getElem?_eq_some_iff.mp hp
        exact this.1)
      have hpe : ps.getD (takenTo b ps).length 0 = p := by rw [List.getD_eq_getElem?_getD, hp]; rfl
      rw [hpe] at hv
      refine seg_bind_wrap (wpAny_pyNext_list_item (s := ⟨h', _, _, tk, _⟩) (x := .int p t) it hl (by simpa using hv) fun h₁ it₁ sb₁ => ?_)
      refine seg_bind_wrap (wpAny_of_eq (rfl : letOwnedTupleGo (.Name "off" px) (.ref I) (.int p t) = pure ()) ?_)
      have ns₁ : h₁.Ns cenv.locals m := ns_keep ns fun o e => (sb₁.2 _ (Ne.symm hIC)).trans e
      refine seg_bind_wrap (wpAny_assign_Name (wpAny_storeName_local (s := ⟨h₁, _, _, tk, _⟩) F.ko ns₁ (fun h₂ ns₂ sb₂ => ?_) (by rw [F.k]; rfl)))
      refine seg_bind_wrap (wpAny_of_eq (a := true) rfl ?_)
      simp only [if_true]
      have k₂ : ∀ x o, x ≠ I → x ≠ cenv.locals → hN.get? x = some o → h₂.get? x = some o := fun x o hx hx' e => (sb₂.2 _ hx').trans ((sb₁.2 _ hx).trans (keep x o hx hx' e))
      have hy : ∀ v, yieldOut cenv v = yieldValue v := fun v => by simp only [yieldOut, F.co, Bool.false_eq_true, if_false]
      simp only [hy]
      rw [Sem.bind_eq_wrap', Sem.bind_eq_wrap', Sem.wrap_wrap, Sem.wrap_wrap]
      have cell₂ : h₂.IsCell c (some (.bytes b u)) := let ⟨o, e, r⟩ := F.hc; ⟨o, k₂ _ _ F.cI F.cC e, r⟩
      refine seg_wrap (PyProof.Rows.Subscript_ (wpAny_Name (wpAny_loadName_free F.k F.ks F.cl cell₂ ?_) rfl))
      refine wpAny_Name (wpAny_loadName_local F.k F.ko ns₂ (if_pos rfl) ?_) rfl
      refine subscriptTail_builtin (typeIs_bytes _ _ _) FB.slot_bytes_getitem.lookup ?_
      have hsm := F.sm p (List.mem_of_getElem? hp)
      refine get_b_out hh' hsm hout fun h₃ tk₃ e ne => ?_
      obtain ⟨oe, t', he, hec, hed⟩ := ne.there
      have k₃ : ∀ x o, x ≠ I → x ≠ cenv.locals → hN.get? x = some o → h₃.get? x = some o := fun x o hx hx' q => ne.keeps _ _ (k₂ x o hx hx' q)
      have bne : ∀ x o, base.get? x = some o → x ≠ I ∧ x ≠ cenv.locals := by
        intro x o q
        constructor
        · intro z; rw [z, F.bI] at q; cases q
        · intro z; rw [z, F.nC] at q; cases q
      have st₃ : base.StaysIn h₃ := fun x o q => k₃ x o (bne _ _ q).1 (bne _ _ q).2 (F.st x o q)
      have hbe : base.get? e = none := by
        cases q : base.get? e with
        | none => rfl
        | some y =>
          have q2 := k₂ e y (bne _ _ q).1 (bne _ _ q).2 (F.st e y q)
          rw [ne.new] at q2; cases q2
      have hbC : base.get? cenv.locals = none := F.nC
      have hid : ∀ x o, (hN.hide cenv.locals).get? x = some o → (∀ vs, o.data ≠ .fields vs) → h₃.get? x = some o := fun x o q nf => by
        have q2 := Heap.of_hide q
        refine k₃ x o (fun z => ?_) (fun z => ?_) q2
        · obtain ⟨o', vs', e1, e2⟩ := F.oI
          rw [z, e1] at q2
          cases q2
          exact nf _ e2
        · rw [z, Heap.hide_self] at q; cases q
      have ff₃ : h₃.FunFrames base (cenv :: outer) := by
        refine ⟨by rw [F.k]; decide, ⟨cenv.locals, ?_⟩, F.ff.of_keeps fun x o q nf => ⟨o, hid x o q nf, rfl⟩⟩
        obtain ⟨oC, es, ep, eC, eD, r⟩ := ns₂
        exact ⟨oC, F.fr, hbC, ne.keeps _ _ eC, fun vs => by rw [eD]; exact fun q => (nomatch q)⟩
      show Seg _ _ _ _ _ _ _ (((leaving cenv (.ref e)) >>= fun _ => .raise (.ref e))) [] _
      refine seg_bind (wpAny_leaving_first (s := ⟨h₃, _, _, tk₃, _⟩) hfr ff₃ F.fr he st₃ hbe hed rfl fun h₄ lf => ?_)
      refine seg_end (.error (.ref e)) ⟨by omega, h₄, tk₃, rfl, .inr ⟨hbad, e, rfl, ?_⟩⟩
      rw [hec] at lf
      exact ⟨lf.1, lf.2.1, lf.2.2.1, hbe, fun x o q nf => lf.2.2.2 x o (hid x o q nf) nf⟩
  | succ k ih =>
    intro i s₀ s hk hle G sn
    obtain ⟨h', tk, rfl, kp⟩ := sn
    obtain ⟨keep, ⟨m, ns⟩, it⟩ := G
    dsimp only at keep ns it
    obtain ⟨p, hp, hin, hEs⟩ := taken_item (b := b) (ps := ps) (i := i) (by omega)
    subst hcode
    show Seg _ A _ _ _ s₀ _ ((compTurn (.GeneratorExp (.Subscript (.Name "source" p1) (.Name "off" p2) p3) [⟨.Name "off" px, .Name "offsets" pi, [], 0⟩] scope pos) 0 (.ref I) .none cenv).onRaise (leaving cenv)) [] _
    rw [compTurn_gen, Sem.onRaise_eq_wrap]
    refine seg_bind_wrap (wpAny_standAt ?_)
    have hl : h'.IsList l vs.toArray := let ⟨o, e, r⟩ := F.hl; ⟨o, keep _ _ F.lI F.lC e, r⟩
    obtain ⟨t, hv⟩ := ints_at F.hi i (by
      have := List.getElem?_eq_some_iff.mp hp
      exact this.1)
    have hpe : ps.getD i 0 = p := by rw [List.getD_eq_getElem?_getD, hp]; rfl
    rw [hpe] at hv
    refine seg_bind_wrap (wpAny_pyNext_list_item (s := ⟨h', _, _, tk, _⟩) (x := .int p t) it hl (by simpa using hv) fun h₁ it₁ sb₁ => ?_)
    refine seg_bind_wrap (wpAny_of_eq (rfl : letOwnedTupleGo (.Name "off" px) (.ref I) (.int p t) = pure ()) ?_)
    have ns₁ : h₁.Ns cenv.locals m := ns_keep ns fun o e => (sb₁.2 _ (Ne.symm hIC)).trans e
    refine seg_bind_wrap (wpAny_assign_Name (wpAny_storeName_local (s := ⟨h₁, _, _, tk, _⟩) F.ko ns₁ (fun h₂ ns₂ sb₂ => ?_) (by rw [F.k]; rfl)))
    refine seg_bind_wrap (wpAny_of_eq (a := true) rfl ?_)
    simp only [if_true]
    have k₂ : ∀ x o, x ≠ I → x ≠ cenv.locals → hN.get? x = some o → h₂.get? x = some o := fun x o hx hx' e => (sb₂.2 _ hx').trans ((sb₁.2 _ hx).trans (keep x o hx hx' e))
    have hy : ∀ v, yieldOut cenv v = yieldValue v := fun v => by simp only [yieldOut, F.co, Bool.false_eq_true, if_false]
    simp only [hy]
    rw [Sem.bind_eq_wrap', Sem.bind_eq_wrap', Sem.wrap_wrap, Sem.wrap_wrap]
    have cell₂ : h₂.IsCell c (some (.bytes b u)) := let ⟨o, e, r⟩ := F.hc; ⟨o, k₂ _ _ F.cI F.cC e, r⟩
    refine seg_wrap (PyProof.Rows.Subscript_ (wpAny_Name (wpAny_loadName_free F.k F.ks F.cl cell₂ ?_) rfl))
    refine wpAny_Name (wpAny_loadName_local F.k F.ko ns₂ (if_pos rfl) ?_) rfl
    refine subscriptTail_builtin (typeIs_bytes _ _ _) FB.slot_bytes_getitem.lookup ?_
    have hsm := F.sm p (List.mem_of_getElem? hp)
    refine get_b hsm hin fun t' tk' => ?_
    rw [hk]
    refine seg_at (seg_yield rfl rfl rfl ⟨⟨t', ?_⟩, ⟨h₂, tk', rfl, fun x o hx e => ?_⟩, fun s'' hal => ?_⟩)
    · have : (takenTo b ps).length - 1 - k = i := by omega
      rw [this, hEs]
    · exact (sb₂.2 _ (fun q => hx (by simp [q]))).trans ((sb₁.2 _ (fun q => hx (by simp [q]))).trans (kp x o hx e))
    · refine seg_again rfl ?_
      have hk' : k = (takenTo b ps).length - (i + 1) := by omega
      rw [hk']
      refine ih (i + 1) s'' s'' (by omega) (by omega) ⟨fun x o hx hx' e => ?_, ⟨_, ns_keep ns₂ fun o e => hal _ (List.mem_cons_self ..) o e⟩, ?_⟩ ⟨s''.heap, s''.toks, rfl, fun _ _ _ e => e⟩
      · refine hal x (List.mem_cons_of_mem _ (List.mem_range.mpr (Heap.lt_size e))) o (k₂ x o hx hx' e)
      · have it₂ : h₂.IsListIter I l (i + 1) := let ⟨o, e, r⟩ := it₁; ⟨o, (sb₂.2 _ hIC).trans e, r⟩
        obtain ⟨oi, e1, r⟩ := it₂
        refine ⟨oi, hal I (List.mem_cons_of_mem _ (List.mem_range.mpr ?_)) oi e1, r⟩
        obtain ⟨o', vs', e1, e2⟩ := F.oI
        exact Heap.lt_size e1
end
/-! F18 -/
section
variable {w : World} {cenv : Env} {I l c : Addr} {vs : List Value} {ps : List Int} {b : Array UInt8} {u : Tok} {hN base : Heap} {outer : List Env}

theorem gx_start {A : Around} {p1 p2 p3 px pi : Pos} {scope : Scope} {pos : Pos} (hh : A.handled = none) (hA : A.frames = some outer) (F : GxF cenv I l c vs ps b u hN base outer) (s : Shared) (G : GX cenv I l hN 0 s.heap) :
    Seg (M w) A (gRx cenv I ps b hN base outer) (gYx cenv I hN (takenTo b ps)) (takenTo b ps).length s
        (.compStart (.GeneratorExp (.Subscript (.Name "source" p1) (.Name "off" p2) p3) [⟨.Name "off" px, .Name "offsets" pi, [], 0⟩] scope pos) 0 (.ref I) .none cenv)
        ((M w).den (.compStart (.GeneratorExp (.Subscript (.Name "source" p1) (.Name "off" p2) p3) [⟨.Name "off" px, .Name "offsets" pi, [], 0⟩] scope pos) 0 (.ref I) .none cenv)) [] s := by
  have loop := gx_loop (w := w) (A := A) (p1 := p1) (p2 := p2) (p3 := p3) (px := px) (pi := pi) (scope := scope) (pos := pos) hh hA F _ 0 s s rfl (Nat.zero_le _) G ⟨s.heap, s.toks, rfl, fun _ _ _ e => e⟩
  rw [Nat.sub_zero] at loop
  show Seg _ A _ _ _ s _ ((compStart (.GeneratorExp (.Subscript (.Name "source" p1) (.Name "off" p2) p3) [⟨.Name "off" px, .Name "offsets" pi, [], 0⟩] scope pos) 0 (.ref I) .none cenv).onRaise (leaving cenv)) [] s
  unfold compStart
  rw [Sem.onRaise_eq_wrap]
  show Seg _ A _ _ _ s _ ((ask >>= _).wrap _ _ _ _) [] s
  refine seg_bind_wrap (wpAny_askSetting ?_)
  split
  · exact seg_again rfl loop
  · first
      | exact seg_bind_wrap (wpAny_rule (seg_bind_wrap (wpAny_standAt (seg_bind_wrap (wpAny_pyIter_listiter G.it (seg_again rfl loop))))))
      | (refine seg_bind_wrap (wpAny_rule ?_); show Seg _ A _ _ _ s _ ((standAt _ >>= _).wrap _ _ _ _) [] s; exact seg_bind_wrap (wpAny_standAt (seg_bind_wrap (wpAny_pyIter_listiter G.it (seg_again rfl loop)))))

/-- the generator expression, its state the last -/
structure GxSt (w : World) (A : Around) (cenv : Env) (a I : Addr) (ps : List Int) (b : Array UInt8) (hN base : Heap) (outer : List Env) (g₀ : Array GenState) (j : Nat) (s : Shared) : Prop where
  is : s.heap.IsGen a g₀.size
  lim : s.heap.NoLimit
  run : ∃ gs, s.gens = g₀.push gs ∧ ∀ s'' : Shared, (∀ b ∈ cenv.locals :: List.range hN.objs.size, ∀ o, s.heap.get? b = some o → s''.heap.get? b = some o) →
    gs.Goes (M w) A.in1 (gRx cenv I ps b hN base outer) (gYx cenv I hN (takenTo b ps)) ((takenTo b ps).length - j) (.send .none) s''

theorem gx_item {A : Around} {a : Addr} {g₀ : Array GenState} {j : Nat} {s : Shared} {Q : Option Value → Shared → Prop} {E : Value → Shared → Prop} (hh : A.handled = none) (hroom : A.depth < recursionLimit) (ha : a ∉ [cenv.locals, I]) (hc : cStatics ∉ [cenv.locals, I])
    (hj : j < (takenTo b ps).length) (st : GxSt w A cenv a I ps b hN base outer g₀ j s) (k : ∀ s' t, GxSt w A cenv a I ps b hN base outer g₀ (j + 1) s' → Mv [cenv.locals, I] s s' → Q (some (.int ((takenTo b ps).getD j 0) t)) s') :
    wpAny (M w) A (callSpecial? (.ref a) "__next__") Q E s := by
  obtain ⟨hg, hl, gs, hgs, go⟩ := st
  have hget : s.gens[g₀.size]? = some gs := by rw [hgs]; simp
  obtain ⟨m, hm⟩ : ∃ m, (takenTo b ps).length - j = m + 1 := ⟨(takenTo b ps).length - j - 1, by omega⟩
  have go' := go (s.setGen g₀.size .running) fun b _ o e => e
  rw [hm] at go'
  refine cs_gen hh hl hroom hg hget go' (fun v s₁ gs' hb hv => ?_) fun x s₁ hx => absurd hx.1 (by omega)
  obtain ⟨⟨t, rfl⟩, ⟨h', tk, rfl, hk⟩, al⟩ := hv
  have e1 : (takenTo b ps).length - 1 - (m + 1 - 1) = j := by omega
  rw [e1]
  have g1 : ∀ x, (Shared.setGen ⟨h', (s.setGen g₀.size .running).gens, (s.setGen g₀.size .running).drawn, tk, (s.setGen g₀.size .running).os⟩ g₀.size x).gens = g₀.push x := fun x => setGen_last (setGen_last hgs)
  refine k _ t ⟨let ⟨o, nm, qn, ho, r⟩ := hg; ⟨o, nm, qn, hk a o ha ho, r⟩, lim_keep hl fun o e => hk _ o hc e, gs', g1 gs', fun s'' al' => ?_⟩ ⟨fun b o hb e => hk b o hb e, rfl, rfl⟩
  have : (takenTo b ps).length - (j + 1) = m := by omega
  rw [this]
  exact al s'' fun b hb o e => al' b hb o e

theorem gx_frame {A : Around} {a : Addr} {g₀ : Array GenState} {j : Nat} {s : Shared} {h' : Heap} {tk' : Nat} (st : GxSt w A cenv a I ps b hN base outer g₀ j s) (k : ∀ x ∈ a :: cStatics :: cenv.locals :: List.range hN.objs.size, ∀ o, s.heap.get? x = some o → h'.get? x = some o) :
    GxSt w A cenv a I ps b hN base outer g₀ j { s with heap := h', toks := tk' } :=
  ⟨let ⟨o, nm, qn, ho, r⟩ := st.is; ⟨o, nm, qn, k a (by simp) o ho, r⟩, lim_keep st.lim fun o e => k _ (by simp) o e,
    let ⟨gs, e, go⟩ := st.run; ⟨gs, e, fun s'' al => go s'' fun b hb o e => al b hb o (k b (List.mem_cons_of_mem _ (List.mem_cons_of_mem _ hb)) o e)⟩⟩

/-- all the places in range -/
theorem gx_It {A : Around} {a : Addr} {g₀ : Array GenState} (hh : A.handled = none) (hroom : A.depth < recursionLimit) (ha : a ∉ [cenv.locals, I]) (hc : cStatics ∉ [cenv.locals, I]) (hI : I < hN.objs.size) (hall : allIn b ps) :
    It w A a (a :: cStatics :: cenv.locals :: List.range hN.objs.size) [cenv.locals, I] (takenTo b ps).length (fun j => (takenTo b ps).getD j 0) (GxSt w A cenv a I ps b hN base outer g₀) (g₀.push .finished) where
  sub := fun q hq => by
    simp only [List.mem_cons, List.not_mem_nil, or_false] at hq
    rcases hq with rfl | rfl
    · simp
    · simp [hI]
  frame := fun j s h' tk' st k => gx_frame st k
  item := fun j s Q E hj st k => gx_item hh hroom ha hc hj st k
  fin := fun s Q E st k => by
    obtain ⟨hg, hl, gs, hgs, go⟩ := st
    have hget : s.gens[g₀.size]? = some gs := by rw [hgs]; simp
    have go' := go (s.setGen g₀.size .running) fun b _ o e => e
    refine cs_gen hh hl hroom hg hget go' (fun v s₁ gs' hb hv => ?_) fun x s₁ hx => .inl ?_
    · rw [Nat.sub_self] at hv
      exact absurd (hv.2.2 _ fun _ _ _ e => e) id
    · obtain ⟨_, h₁, tk, rfl, hx⟩ := hx
      rcases hx with ⟨_, hx, hk⟩ | ⟨hbad, _⟩
      · refine ⟨.inr hx, fun h' e kp st => ?_⟩
        have g1 : ∀ x, (Shared.setGen ⟨h₁, (s.setGen g₀.size .running).gens, (s.setGen g₀.size .running).drawn, tk, (s.setGen g₀.size .running).os⟩ g₀.size x).gens = g₀.push x := fun x => setGen_last (setGen_last hgs)
        exact k _ e ⟨fun b o hb e => kp b o (hk b o hb e), rfl, rfl⟩ (g1 _) st
      · exact absurd hall hbad

theorem sub_ie_stop : isSubtype (.type "IndexError") (.type "StopIteration") = pure false := by rw [isSubtype_type]; kernel_rfl

/-- a place out of range: the IndexError -/
theorem gx_bad {A : Around} {a : Addr} {g₀ : Array GenState} {s : Shared} {Q : Option Value → Shared → Prop} {E : Value → Shared → Prop} (hh : A.handled = none) (hroom : A.depth < recursionLimit) (hbad : ¬ allIn b ps)
    (hab : ∃ nm qn : Value, base.get? a = some { cls := .type "generator", data := .fields #[.int g₀.size 0, nm, qn] })
    (st : GxSt w A cenv a I ps b hN base outer g₀ (takenTo b ps).length s) (k : ∀ h' tk' e, Rz base (cenv :: outer) e "IndexError" (hN.hide cenv.locals) h' → E (.ref e) ⟨h', g₀.push .finished, s.drawn, tk', s.os⟩) :
    wpAny (M w) A (callSpecial? (.ref a) "__next__") Q E s := by
  obtain ⟨hg, hl, gs, hgs, go⟩ := st
  have hget : s.gens[g₀.size]? = some gs := by rw [hgs]; simp
  have go' := go (s.setGen g₀.size .running) fun b _ o e => e
  refine cs_gen hh hl hroom hg hget go' (fun v s₁ gs' hb hv => ?_) fun x s₁ hx => .inr ?_
  · rw [Nat.sub_self] at hv
    exact absurd (hv.2.2 _ fun _ _ _ e => e) id
  · obtain ⟨_, h₁, tk, rfl, hx⟩ := hx
    rcases hx with ⟨hall, _⟩ | ⟨_, e, hx, R⟩
    · exact absurd hall hbad
    · refine ⟨.ref e, hx, ?_⟩
      obtain ⟨nm, qn, hab⟩ := hab
      have ga := R.stays _ _ hab
      obtain ⟨oe, es, T', oT, ts, he, hec, _⟩ := id R.tr
      have g1 : ∀ x, (Shared.setGen ⟨h₁, (s.setGen g₀.size .running).gens, (s.setGen g₀.size .running).drawn, tk, (s.setGen g₀.size .running).os⟩ g₀.size x).gens = g₀.push x := fun x => setGen_last (setGen_last hgs)
      unfold Builtin.Generator.genLeft
      refine wpAny_bind ?_
      unfold Builtin.Generator.madeByALambda
      refine wpAny_bind (wpAny_load (s := Shared.setGen _ _ _) ga ?_)
      refine wpAny_pure ?_
      refine wpAny_bind (wpAny_isInstance (T := "IndexError") ⟨oe, he, hec⟩ sub_ie_stop ?_)
      dsimp only
      rw [if_neg (by rw [Bool.and_false]; decide)]
      unfold Builtin.Generator.genEscaped
      refine wpAny_bind (wpAny_isInstance (T := "IndexError") ⟨oe, he, hec⟩ sub_ie_stop ?_)
      rw [if_pos (by decide)]
      refine wpAny_bind (wpAny_throw ?_)
      have := k h₁ tk e R
      rw [← g1 .finished] at this
      exact this
end
/-! F19 -/
/-- an iterator that hands out f 0 .. f (n - 1), then raises -/
structure ItX (w : World) (A : Around) (it : Addr) (fp wr : List Addr) (n : Nat) (f : Nat → Int) (St : Nat → Shared → Prop) (gE : Array GenState) (Z : Addr → Heap → Prop) : Prop where
  frame : ∀ j s h' tk', St j s → (∀ b ∈ fp, ∀ o, s.heap.get? b = some o → h'.get? b = some o) → St j { s with heap := h', toks := tk' }
  item : ∀ j s (Q : Option Value → Shared → Prop) (E : Value → Shared → Prop), j < n → St j s → (∀ s' t, St (j + 1) s' → Mv wr s s' → Q (some (.int (f j) t)) s') →
    wpAny (M w) A (callSpecial? (.ref it) "__next__") Q E s
  bad : ∀ s (Q : Option Value → Shared → Prop) (E : Value → Shared → Prop), St n s → (∀ h' tk' e, Z e h' → E (.ref e) ⟨h', gE, s.drawn, tk', s.os⟩) →
    wpAny (M w) A (callSpecial? (.ref it) "__next__") Q E s
theorem ItX.nxt {w : World} {A : Around} {it : Addr} {fp wr : List Addr} {n : Nat} {f : Nat → Int} {St : Nat → Shared → Prop} {gE : Array GenState} {Z : Addr → Heap → Prop} {s : Shared} {E : Value → Shared → Prop} {Q : Option Value → Shared → Prop}
    (I : ItX w A it fp wr n f St gE Z) {j : Nat} (hj : j < n) (st : St j s) (k : ∀ s' t, St (j + 1) s' → Mv wr s s' → Q (some (.int (f j) t)) s') : wpAny (M w) A (pyNext (.ref it)) Q E s := by
  unfold pyNext
  exact wpAny_bind (wpAny_attempt (I.item j s _ _ hj st fun s' t st' m => wpAny_pure (k s' t st' m)))

theorem it_loopX {w : World} {A : Around} {I S : Addr} {fp wr : List Addr} {n : Nat} {f : Nat → Int} {St : Nat → Shared → Prop} {gE : Array GenState} {Z : Addr → Heap → Prop} {R : Result → Shared → Prop}
    (sub : ∀ b ∈ wr, b ∈ fp) (T : ItX w A.in1 I fp wr n f St gE Z) (hZ : ∀ e h, Z e h → ∃ o, h.get? e = some o ∧ o.cls = .type "IndexError") (hr : ∀ j, j < n → 0 ≤ f j ∧ f j < 256) (hz : n ≤ 1000) (hS : S ∉ fp) (s₀ : Shared)
    (hR : ∀ h' tk' e, Z e h' → R (.error (.ref e)) ⟨h', gE, s₀.drawn, tk', s₀.os⟩) :
    ∀ (k j : Nat) (s : Shared), n - j = k → j ≤ n → St j s → s.heap.get? S = some { cls := .type "bytearray", data := .bytearray (byteArr ((List.range j).map f)) } → Mv (S :: wr) s₀ s →
      codeAny (M w) A (.builtin "bytes.__new__.loop" ⟨[.type "bytes", .ref I, .ref S], []⟩) R s := by
  have hSw : S ∉ wr := fun q => hS (sub S q)
  intro k
  induction k with
  | zero =>
    intro j s hk hle st hs mv
    have hj : j = n := by omega
    subst hj
    refine codeAny_builtin F.bm_entry_loop ?_
    rw [Around.under_plainId F.bm_plain_loop _]
    show wpAny _ A.in1 (pyNext (.ref I) >>= _) _ _ s
    unfold pyNext
    refine wpAny_bind (wpAny_bind (wpAny_attempt (T.bad s _ _ st fun h' tk' e z => ?_)))
    obtain ⟨o, ho, hc⟩ := hZ e h' z
    refine wpAny_bind (wpAny_isInstance (s := ⟨h', gE, _, tk', _⟩) (T := "IndexError") ⟨o, ho, hc⟩ sub_ie_stop ?_)
    rw [if_neg (by decide)]
    refine wpAny_throw ?_
    have := hR h' tk' e z
    rw [← mv.2.1, ← mv.2.2] at this
    exact this
  | succ k ih =>
    intro j s hk hle st hs mv
    have hlt : j < n := by omega
    obtain ⟨h0, h1⟩ := hr j hlt
    refine codeAny_builtin F.bm_entry_loop ?_
    rw [Around.under_plainId F.bm_plain_loop _]
    show wpAny _ A.in1 (pyNext (.ref I) >>= _) _ _ s
    refine wpAny_bind (T.nxt hlt st fun s' t st' m => ?_)
    have hS' : s'.heap.get? S = some { cls := .type "bytearray", data := .bytearray (byteArr ((List.range j).map f)) } := m.1 S _ hSw hs
    refine wpAny_bind (wpAny_holding (wpAny_of_eq (rfl : asIndex (.int (f j) t) = pure (f j)) ?_))
    refine wpAny_bind (wpAny_letGo ?_)
    refine bm_if_false (by simp only [Bool.or_eq_false_iff, decide_eq_false_iff_not]; omega) ?_
    refine wpAny_bind ?_
    show wpAny _ _ (updateBytearray S (·.push (f j).toNat.toUInt8)) _ _ _
    unfold updateBytearray
    refine wpAny_bind (wpAny_load hS' ?_)
    show wpAny _ _ (update S (Obj.mapBytearray (·.push (f j).toNat.toUInt8)) >>= fun _ => lookBehind S) _ _ _
    refine wpAny_bind (wpAny_update hS' ?_)
    have hsnoc : (byteArr ((List.range j).map f)).push (f j).toNat.toUInt8 = byteArr ((List.range (j + 1)).map f) := by
      unfold byteArr
      rw [List.range_succ]; simp
    have hS₂ : (s'.heap.update S (Obj.mapBytearray (·.push (f j).toNat.toUInt8))).get? S = some { cls := .type "bytearray", data := .bytearray (byteArr ((List.range (j + 1)).map f)) } := by
      rw [← hsnoc]
      exact Heap.get?_update_self (Obj.mapBytearray (·.push (f j).toNat.toUInt8)) hS' rfl
    refine wpAny_lookBehind hS₂ ?_ ?_
    · show (if (byteArr ((List.range (j + 1)).map f)).size > sizeLine then some "bytearray:memory" else none) = none
      rw [if_neg]
      rw [byteArr_size, sizeLine_eq]; simp; omega
    · refine wpAny_pure ⟨plainId_quiet F.bm_plain_loop _, ih (j + 1) _ (by omega) hlt ?_ hS₂ ?_⟩
      · exact T.frame _ s' _ s'.toks st' fun b hb o e => (Heap.get?_update_other _ _ (by intro q; subst q; exact hS hb)).trans e
      · refine ⟨fun b o hb e => ?_, m.2.1.trans mv.2.1, m.2.2.trans mv.2.2⟩
        refine (Heap.get?_update_other _ _ (fun q => hb (by simp [q]))).trans ?_
        exact m.1 b o (fun q => hb (List.mem_cons_of_mem _ q)) (mv.1 b o hb e)

theorem bytes_itX {w : World} {A : Around} {E : Value → Shared → Prop} {s : Shared} {I : Addr} {ty : String} {o : Obj} {vs : Array Value} {Q : Value → Shared → Prop} {fp wr : List Addr} {n : Nat} {f : Nat → Int} {St : Nat → Shared → Prop} {gE : Array GenState} {Z : Addr → Heap → Prop}
    (ho : s.heap.get? I = some o) (hc : o.cls = .type ty) (hd : o.data = .fields vs) (bt : BArg ty) (hiter : ∀ (A : Around) (Q : Value → Shared → Prop) (E : Value → Shared → Prop), Q (.ref I) s → wpAny (M w) A (pyIter (.ref I)) Q E s)
    (sub : ∀ b ∈ wr, b ∈ fp) (T : ItX w A.in1.in1 I fp wr n f St gE Z) (hZ : ∀ e h, Z e h → ∃ o, h.get? e = some o ∧ o.cls = .type "IndexError") (hr : ∀ j, j < n → 0 ≤ f j ∧ f j < 256) (hz : n ≤ 1000) (hfp : ∀ b ∈ fp, b < s.heap.objs.size) (st : St 0 s)
    (hE : ∀ h' tk' e, Z e h' → E (.ref e) ⟨h', gE, s.drawn, tk', s.os⟩) :
    wpAny (M w) A (call (.type "bytes") [.ref I]) Q E s := by
  refine callType_codes (Q₁ := fun obj s₁ => s₁.TypeIs obj "bytes" ∧ Q obj s₁) F.bm_called (F.bm_typeCall _) F.entry_object_init ?_ fun obj s₁ h₁ =>
    ⟨h₁.1, F.args_object_init_2 obj _, object_init_meets F.bm_called.init.lookup F.bm_called.made (by decide) prog w A.in1 _ s₁ ⟨h₁.1, rfl, h₁.2⟩⟩
  refine it_new ho hc hd bt hiter ?_
  have hS : s.heap.objs.size ∉ fp := fun q => Nat.lt_irrefl _ (hfp _ q)
  refine it_loopX sub T hZ hr hz hS { s with heap := s.heap.push { cls := .type "bytearray", data := .bytearray #[] } } (fun h' tk' e z => hE h' tk' e z) n 0 _ rfl (Nat.zero_le _) ?_ (Heap.get?_push_size _ rfl) ⟨fun _ _ _ e => e, rfl, rfl⟩
  exact T.frame 0 s _ s.toks st fun b _ o e => Heap.get?_push_of_some _ e
/-! F20 -/
/-- how a call that raises may move the heap -/
structure AdvX (base : Heap) (outer : List Env) (e : Addr) (X : String) (h h' : Heap) : Prop where
  z : Rz base outer e X h h'
  tab : ∀ ps, TabOk h ps → ∃ ps', TabOk h' ps'

theorem rdC {w : World} {A : Around} {E : Value → Shared → Prop} {s : Shared} {env : Env} {c : Addr} {x : Str} {v : Value} {pos : Pos} {Q : Value → Shared → Prop} (hc : s.heap.IsCell c (some v)) (k : Q v s) (hcl : env.cells.lookup x = some c := by kernel_rfl)
    (hk : env.scope.kind = .function := by kernel_rfl) (hl : env.kindOf x = some .cell := by kernel_rfl) (hd : (x == ("__debug__" : Str)) = false := by kernel_rfl) : wpAny (M w) A (eval (.Name x pos) env) Q E s :=
  wpAny_Name (wpAny_loadName_cell hk hl hcl hc k) hd

theorem genexprCodeT {w : World} {A : Around} {E : Value → Shared → Prop} {s : Shared} {env : Env} {ps : Array Value} {pos : Pos} {qualname : Str} {scope : Scope} {Q : Value → Shared → Prop} (hc : env.code = .ref 150) (hok : TabOk s.heap ps)
    (hQ : ∀ code h' tk ps', Heap.ExtBut T s.heap h' → TabOk h' ps' → Q code { s with heap := h', toks := tk }) : wpAny (M w) A (genexprCode env pos qualname scope) Q E s := by
  cases hf : codeAmong pos ps.toList with
  | some c' => exact wpAny_genexprCode_hit hc hok.1 hf (hQ c' s.heap s.toks ps (Heap.ExtBut.refl _ _) hok)
  | none => exact wpAny_genexprCodeX hc hok.1 hok.2 hf fun c' h' tk ext _ _ i _ t _ => hQ _ h' tk _ ext ⟨i, t⟩

theorem bl_byteArr {l : List Int} (h : ∀ z ∈ l, 0 ≤ z ∧ z < 256) : bl (byteArr l) = l.map Int.toNat := by
  unfold bl byteArr
  simp only [List.map_map]
  apply List.map_congr_left
  intro z hz
  have := h z hz
  simp only [Function.comp, Nat.toUInt8, UInt8.toNat_ofNat']
  omega
theorem taken_rng {b : Array UInt8} {ps : List Int} : ∀ z ∈ takenTo b ps, 0 ≤ z ∧ z < 256 := by
  intro z hz
  obtain ⟨p, _, rfl⟩ := List.mem_map.1 hz
  exact byteAt_rng _ _
theorem taken_len {b : Array UInt8} {ps : List Int} : (takenTo b ps).length ≤ ps.length := by
  unfold takenTo
  rw [List.length_map]
  exact (List.takeWhile_sublist _).length_le

/-- the name `__builtins__` -/
def BmOk (mg : Str → Option Value) (h : Heap) : Prop := ∃ bm o, mg "__builtins__" = some (.ref bm) ∧ bm ≠ builtinsNs ∧ bm ≠ T ∧ h.get? bm = some o ∧ o.cls = .type "module" ∧ o.dict = some builtinsNs ∧ o.data = .plain
theorem BmOk.adv {mg : Str → Option Value} {h h' : Heap} {g g' : Array GenState} {d d' : Drawn} {o o' : OsState} (b : BmOk mg h) (k : AdvH h g d o h' g' d' o') : BmOk mg h' :=
  let ⟨bm, o, e1, e2, e3, e4, r⟩ := b; ⟨bm, o, e1, e2, e3, k.keep _ _ e3 e4, r⟩

set_option maxHeartbeats 8000000 in
theorem etb_ok {w : World} {A : Around} {E : Value → Shared → Prop} {s : Shared} {K : Frag} {mg mb : Str → Option Value} {Q : Value → Shared → Prop} {x l : Addr} {a : EngA} {cm b : Array UInt8} {big : Bool} {u : Tok} {pm : Value} {vs : List Value} {ps : List Int} {base : Heap} {outer : List Env}
    (hh : A.handled = none) (hroom : A.depth + 3 < recursionLimit) (G : Gl mg mb s.heap) (N : Nm mg) (Cl : ClsOk K) (X : K.In s.heap) (e : Eng w s.heap x a cm big) (hF : Fns s.heap) (hbm : BmOk mg s.heap) (hf : FnAt s.heap 151 stEtb "Base64Engine.encode_transposed_bytes" pm (.ref 150))
    (hcode : ∃ ps, TabOk s.heap ps) (hcm : cm.size = 64) (hb : b.size ≤ 64) (hl : LstAt s.heap l vs) (hi : IntsAre vs ps) (hsm : ∀ p ∈ ps, -1000 ≤ p ∧ p ≤ 1000) (hlen : ps.length ≤ 64)
    (Bl : Below A base outer s.heap) (hTb : base.get? T = none)
    (hQ : allIn b ps → ∀ s' t, Adv s s' → Q (.bytes (encB cm big ((takenTo b ps).map Int.toNat)) t) s')
    (hE : ¬ allIn b ps → ∀ h' tk' ex, AdvX base outer ex "IndexError" s.heap h' → E (.ref ex) ⟨h', s.gens.push .finished, s.drawn, tk', s.os⟩) :
    wpAny (M w) A (call (.ref 151) [.ref x, .bytes b u, .ref l]) Q E s := by
  refine enterC (by omega) G hf bodEtb.2 (binds := [("self", .ref x), ("source", .bytes b u), ("offsets", .ref l)]) rfl ?_ (fun s₁ L A' eL eA dA hA IC B eg ed eo => ?_)
  · intro y hy
    simp only [List.mem_cons, List.not_mem_nil, or_false] at hy
    rcases hy with rfl | rfl | rfl
    · exact .inl (by dsimp only; decide)
    · exact .inr ⟨by dsimp only; decide, by kernel_rfl⟩
    · exact .inl (by dsimp only; decide)
  obtain ⟨h₁, g₁, d₁, tk, o₁⟩ := s₁
  dsimp only at eg ed eo B
  subst eg ed eo
  have hcl : List.lookup ("source" : Str) (cellsFrom (L + 1) (fnScope stEtb).names []) = some (L + 1) := by kernel_rfl
  have cell : h₁.IsCell (L + 1) (some (.bytes b u)) := IC.cell _ _ hcl
  delta bodEtb
  dsimp only
  walk_at "as"
  with_reducible refine rdB (G.adv B.adv) N.isi b_isi ?_
  walk_at "as"
  with_reducible refine rdC cell ?_
  walk_at "as"
  with_reducible refine rdB (G.adv B.adv) N.bytes b_bytes ?_
  walk_at "as"
  dsimp only [List.nil_append]
  refine call_isinstance_yes (Tx := "bytes") (T := "bytes") rfl (by kernel_rfl) F.bm_sub ?_
  walk_at "as"
  rw [if_neg (by decide)]
  walk_at "as"
  with_reducible refine rdG (G.adv B.adv) N.jbe ?_
  walk_at "as"
  refine wpAny_GeneratorExp_make (cl := [("source", L + 1)]) rfl (by kernel_rfl) (by decide) (by kernel_rfl) rfl (by omega) ?_ (by intro _; kernel_rfl)
  refine rdL B (by walk_at "lk") ?_
  refine wpAny_pyIter_list (s := ⟨h₁, _, _, tk, _⟩) (hl.adv B.adv).is ?_
  dsimp only
  have B₂ := B.step (AdvH.push (g := s.gens) (d := s.drawn) (o := s.os) { cls := .type "list_iterator", data := .fields #[.ref l, .int 0 0] })
  have hL₁ := B.new
  have hI262 := B.big
  have oldI := B.fresh
  have itI : (h₁.push { cls := .type "list_iterator", data := .fields #[.ref l, .int 0 0] }).get? h₁.objs.size = some { cls := .type "list_iterator", data := .fields #[.ref l, .int 0 0] } := Heap.get?_push_size _ rfl
  obtain ⟨ps₂, ic₂⟩ : ∃ ps, TabOk (h₁.push { cls := .type "list_iterator", data := .fields #[.ref l, .int 0 0] }) ps := let ⟨ps, i⟩ := hcode; B₂.adv.tab ps i
  have hpush : ∀ q o, h₁.get? q = some o → (h₁.push { cls := .type "list_iterator", data := .fields #[.ref l, .int 0 0] }).get? q = some o := fun q o e => Heap.get?_push_of_some _ e
  have hz₂ : (h₁.push { cls := .type "list_iterator", data := .fields #[.ref l, .int 0 0] }).objs.size = h₁.objs.size + 1 := Heap.size_push ..
  generalize h₁.push { cls := .type "list_iterator", data := .fields #[.ref l, .int 0 0] } = h₂ at B₂ itI ic₂ hz₂ hpush
  generalize hIe : h₁.objs.size = I at hL₁ hI262 oldI itI hz₂
  refine ⟨(G.adv B₂.adv).lim, genexprCodeT (s := ⟨h₂, _, _, tk, _⟩) rfl ic₂ fun code h₃ tk₃ ps₃ ext₃ ic₃ => ?_⟩
  have B₃ : BdH s L _ h₃ s.gens s.drawn s.os := B₂.step (h' := h₃) (g' := s.gens) (d' := s.drawn) (o' := s.os) ⟨fun b o hb e => ext₃ b o hb e, ⟨0, by simp⟩, rfl, rfl, fun _ _ => ⟨ps₃, ic₃⟩⟩
  obtain ⟨bm, obm, bm1, bm2, bm3, bm4, bm5, bm6, bm7⟩ := hbm.adv B₃.adv
  refine wpAny_builtinsFor (s := ⟨h₃, _, _, tk₃, _⟩) (G.adv B₃.adv).g bm1 bm2 bm4 bm5 bm6 bm7 fun h₄ n₄ sb₄ => ?_
  dsimp only at n₄ sb₄
  have it₃ := ext₃ _ _ (ne_T hI262) itI
  have k₄ : ∀ q o, h₃.get? q = some o → h₄.get? q = some o := fun q o e => sb₄.extBut q o (Nat.ne_of_lt (Heap.lt_size e)) (Heap.get?_push_of_some _ e)
  have B₄ := B₃.step (AdvH.ext (g := s.gens) (d := s.drawn) (o := s.os) k₄)
  have z₄ : h₄.objs.size = h₃.objs.size + 1 := sb₄.1.trans (Heap.size_push ..)
  have ltI : I < h₃.objs.size := Heap.lt_size it₃
  have ltL : L < h₃.objs.size := B₃.new
  have hC262 := B₃.big
  have oldC := B₃.fresh
  walk_at "as"
  dsimp only [List.nil_append]
  generalize hce : genEnv _ _ _ _ _ _ = cenv
  have c1 : cenv.locals = h₃.objs.size := by rw [← hce]; rfl
  have c2 : cenv.scope.kind = .function := by rw [← hce]; rfl
  have c3 : cenv.kindOf "off" = some .local := by rw [← hce]; kernel_rfl
  have c4 : cenv.kindOf "source" = some .free := by rw [← hce]; kernel_rfl
  have c5 : cenv.cells.lookup ("source" : Str) = some (L + 1) := by rw [← hce]; kernel_rfl
  have c6 : cenv.frame = some cenv.locals := by rw [← hce]; rfl
  have c7 : cenv.scope.isCoroutine = false := by rw [← hce]; rfl
  clear hce
  generalize hgo : ({ cls := .type "generator", data := .fields #[.int s.gens.size 0, .str "<genexpr>" _, .str _ _] } : Obj) = go
  have hgoc : go.cls = .type "generator" := by rw [← hgo]
  obtain ⟨nm, qn, hgd⟩ : ∃ nm qn, go = { cls := .type "generator", data := .fields #[.int s.gens.size 0, nm, qn] } := ⟨_, _, hgo.symm⟩
  clear hgo
  subst hgd
  have hga : (h₄.push { cls := .type "generator", data := .fields #[.int s.gens.size 0, nm, qn] }).get? h₄.objs.size = some { cls := .type "generator", data := .fields #[.int s.gens.size 0, nm, qn] } := Heap.get?_push_size _ rfl
  have k₅ : ∀ q o, h₄.get? q = some o → (h₄.push { cls := .type "generator", data := .fields #[.int s.gens.size 0, nm, qn] }).get? q = some o := fun q o e => Heap.get?_push_of_some _ e
  have z₅ : (h₄.push { cls := .type "generator", data := .fields #[.int s.gens.size 0, nm, qn] }).objs.size = h₄.objs.size + 1 := Heap.size_push ..
  generalize h₄.push { cls := .type "generator", data := .fields #[.int s.gens.size 0, nm, qn] } = hN at hga k₅ z₅
  have B₅ := B₄.step (AdvH.ext (g := s.gens) (d := s.drawn) (o := s.os) k₅)
  generalize hCe : h₃.objs.size = C at c1 n₄ sb₄ z₄ ltI ltL hC262 oldC
  generalize hae : h₄.objs.size = ga at hga z₄ z₅
  have fr' : A'.frames = some (callEnvC (fd stEtb "Base64Engine.encode_transposed_bytes" pm (.ref 150)) L 151 :: outer) := by rw [eA]; exact Around.frames_deeper Bl.stack
  have hfe : (callEnvC (fd stEtb "Base64Engine.encode_transposed_bytes" pm (.ref 150)) L 151).frame = some L := rfl
  have hke : (callEnvC (fd stEtb "Base64Engine.encode_transposed_bytes" pm (.ref 150)) L 151).scope.kind = .function := rfl
  generalize hEe : callEnvC (fd stEtb "Base64Engine.encode_transposed_bytes" pm (.ref 150)) L 151 = envE at fr' hfe hke
  -- what the base holds
  have bs : ∀ q o, base.get? q = some o → s.heap.get? q = some o := Bl.stays
  have bT : ∀ q o, base.get? q = some o → q ≠ T := fun q o e z => by rw [z, hTb] at e; cases e
  have noB : ∀ q, s.heap.get? q = none → base.get? q = none := fun q e => by
    cases z : base.get? q with
    | none => rfl
    | some o => rw [bs q o z] at e; cases e
  obtain ⟨psT, icT⟩ := hcode
  have nfT : ∀ o, s.heap.get? T = some o → ∃ vs, o.data = .fields vs := by
    obtain ⟨⟨_, _, _, _, _, _, _, _, _, op, _, _, _, _, _, _, _, e, d, _⟩, _⟩ := icT
    intro o q
    rw [e] at q; cases q; exact ⟨_, d⟩
  have kN : ∀ q o, q ≠ T → s.heap.get? q = some o → hN.get? q = some o := B₅.adv.keep
  have neC : ∀ q o, s.heap.get? q = some o → q ≠ C := fun q o e z => by rw [z, oldC] at e; cases e
  have kH : ∀ q o, s.heap.get? q = some o → (∀ vs, o.data ≠ .fields vs) → (hN.hide C).get? q = some o := fun q o e nf => by
    rw [Heap.hide_ne _ (neC q o e)]
    exact kN q o (fun z => by rw [z] at e; obtain ⟨vs, d⟩ := nfT o e; exact nf _ d) e
  have ffH : (hN.hide C).FunFrames base (envE :: outer) := by
    refine ⟨by rw [hke]; decide, ⟨L, ?_⟩, Bl.frames.of_keeps fun q o e nf => ⟨o, kH q o e nf, rfl⟩⟩
    obtain ⟨oL, es, ep, eL', eD, _⟩ := B₅.ns
    exact ⟨oL, hfe, noB _ B₅.old, by rw [Heap.hide_ne _ (Nat.ne_of_lt ltL)]; exact eL', fun vs => by rw [eD]; exact fun q => (nomatch q)⟩
  generalize has : I :: (envE :: outer).filterMap (·.frame) = as
  have nfr : ∀ q o, (hN.hide C).get? q = some o → (∃ vs, o.data = .fields vs) → q ≠ I → q ∉ as := fun q o e nf hq z => by
    rw [← has] at z
    rcases List.mem_cons.mp z with z | z
    · exact hq z
    · obtain ⟨_, o', e', n'⟩ := ffH.mem z
      rw [e] at e'; cases e'
      obtain ⟨vs, d⟩ := nf
      exact n' _ d
  have bIn : base.get? I = none := noB _ oldI
  have bas : ∀ q, q ∈ as → base.get? q = none := fun q z => by
    rw [← has] at z
    rcases List.mem_cons.mp z with z | z
    · rw [z]; exact bIn
    · exact (ffH.mem z).1
  have b1 : ∀ q o, base.get? q = some o → (hideAll (hN.hide C) as).get? q = some o := fun q o e =>
    hideAll_get _ (by rw [Heap.hide_ne _ (neC q o (bs q o e))]; exact kN q o (bT q o e) (bs q o e)) fun z => by rw [bas q z] at e; cases e
  have itN : hN.get? I = some { cls := .type "list_iterator", data := .fields #[.ref l, .int 0 0] } := k₅ _ _ (k₄ _ _ it₃)
  have ltl : l < I := by rw [← hIe]; exact let ⟨o, e, _⟩ := (hl.adv B.adv).is; Heap.lt_size e
  have ltc : L + 1 < I := by rw [← hIe]; exact cell.lt
  have ne1I : I ≠ C := Nat.ne_of_lt ltI
  have cellN : hN.IsCell (L + 1) (some (.bytes b u)) := by
    obtain ⟨o, e, d⟩ := cell
    exact ⟨o, k₅ _ _ (k₄ _ _ (ext₃ _ _ (ne_T (Nat.le_succ_of_le B.hi)) (hpush _ _ e))), d⟩
  have FG : GxF cenv I l (L + 1) vs ps b u hN (hideAll (hN.hide C) as) (envE :: outer) := {
    hl := (hl.adv B₅.adv).is
    hc := cellN
    hi := hi
    lI := Nat.ne_of_lt ltl
    cI := Nat.ne_of_lt ltc
    st := fun q o e => Heap.of_hide (of_hideAll _ e)
    bI := hideAll_none _ (by rw [← has]; exact List.mem_cons_self ..)
    ff := by
      rw [c1]
      refine funFrames_hide ffH fun env he q hq => ?_
      rw [← has]
      exact List.mem_cons_of_mem _ (List.mem_filterMap.mpr ⟨env, he, hq⟩)
    lC := by rw [c1]; exact Nat.ne_of_lt (Nat.lt_trans ltl ltI)
    cC := by rw [c1]; exact Nat.ne_of_lt (Nat.lt_trans ltc ltI)
    IC := by rw [c1]; exact ne1I
    nC := by
      rw [c1]
      cases z : (hideAll (hN.hide C) as).get? C with
      | none => rfl
      | some o => have := of_hideAll _ z; rw [Heap.hide_self] at this; cases this
    oI := ⟨_, _, itN, rfl⟩
    sm := hsm
    k := c2
    ko := c3
    ks := c4
    cl := c5
    fr := c6
    co := c7 }
  have hcs : cStatics ∉ [cenv.locals, I] := by
    rw [c1]
    simp only [List.mem_cons, List.not_mem_nil, or_false, not_or]
    exact ⟨Nat.ne_of_lt (Nat.lt_of_lt_of_le (by decide) hC262), Nat.ne_of_lt (Nat.lt_of_lt_of_le (by decide) hI262)⟩
  have hgaw : ga ∉ [cenv.locals, I] := by
    rw [c1, z₄]
    simp only [List.mem_cons, List.not_mem_nil, or_false, not_or]
    exact ⟨Nat.succ_ne_self _, Nat.ne_of_gt (Nat.lt_succ_of_lt ltI)⟩
  have zN : hN.objs.size = C + 2 := by rw [z₅, z₄]
  have ltIN : I < hN.objs.size := Heap.lt_size itN
  have nsN : ∃ m, hN.Ns cenv.locals m := ⟨_, by rw [c1]; exact ns_keep n₄ fun o e => k₅ _ _ e⟩
  have hha : A'.handled = none := by rw [hA]; exact hh
  have hda : A'.depth < recursionLimit := by omega
  have len : (takenTo b ps).length ≤ 1000 := Nat.le_trans taken_len (Nat.le_trans hlen (by decide))
  have gx0 : ∀ s'' : Shared, (∀ q ∈ cenv.locals :: List.range hN.objs.size, ∀ o, hN.get? q = some o → s''.heap.get? q = some o) → GX cenv I l hN 0 s''.heap := fun s'' al =>
    ⟨fun q o _ _ e => al q (List.mem_cons_of_mem _ (List.mem_range.mpr (Heap.lt_size e))) o e, let ⟨m, n⟩ := nsN; ⟨m, ns_keep n fun o e => al _ (List.mem_cons_self ..) o e⟩,
      ⟨_, al I (List.mem_cons_of_mem _ (List.mem_range.mpr ltIN)) _ itN, rfl, rfl⟩⟩
  have hfp : ∀ q ∈ ga :: cStatics :: cenv.locals :: List.range hN.objs.size, q < hN.objs.size := by
    intro q hq
    simp only [List.mem_cons, List.mem_range] at hq
    rcases hq with rfl | rfl | rfl | hq
    · exact Heap.lt_size hga
    · rw [zN]; exact Nat.lt_of_lt_of_le (Nat.lt_of_lt_of_le (by decide) hC262) (Nat.le_add_right ..)
    · rw [c1, zN]; exact Nat.lt_of_lt_of_le (Nat.lt_succ_self _) (Nat.le_succ _)
    · exact hq
  have igN : hN.IsGen ga s.gens.size := ⟨_, nm, qn, hga, rfl, rfl, rfl⟩
  by_cases hall : allIn b ps
  · refine bytes_it (s := ⟨hN, _, s.drawn, _, s.os⟩) hga rfl rfl barg_gen (fun A Q E q => wpAny_pyIter_gen igN q) (gx_It (A := A'.in1.in1) (base := hideAll (hN.hide C) as) (outer := envE :: outer) (g₀ := s.gens) hha hda hgaw hcs ltIN hall)
      (fun j hj => taken_rng _ (mem_getD hj)) len hfp ⟨igN, (G.adv B₅.adv).lim, _, rfl, fun s'' al => ⟨rfl, gx_start (A := A'.in1.in1.in1) hha fr' FG s'' (gx0 s'' al)⟩⟩ fun s' t kp' hd' ho' hg' => ?_
    obtain ⟨h₆, g₆, d₆, tk₆, o₆⟩ := s'
    dsimp only at kp' hd' ho' hg'
    subst hd' ho' hg'
    have B₆ := B₅.gens kp' (fun q hq => by
      rw [c1] at hq
      simp only [List.mem_cons, List.not_mem_nil, or_false] at hq
      rcases hq with rfl | rfl
      · exact ⟨oldC, hC262, Nat.ne_of_gt ltL⟩
      · exact ⟨oldI, hI262, Nat.ne_of_gt hL₁⟩) (push_rep s.gens)
    subst hEe
    refine stL B₆ fun h₇ tk₇ B₇ sb₇ => ?_
    walk_at "as"
    refine rdL B₇ (by walk_at "lk") ?_
    have e₇ := e.adv B₇.adv
    refine eng_meth Cl (kin_adv Cl X B₇.adv) e₇ Cl.f1 Cl.t1 e₇.m1 ?_
    dsimp only
    obtain ⟨pmE, codE, hEn⟩ := hF.enc
    with_reducible refine cw_def (hEn.adv B₇.adv) ?_
    walk_at "as"
    refine rdL B₇ (by walk_at "lk") ?_
    walk_at "as"
    dsimp only [List.cons_append, List.nil_append]
    refine ⟨hEn.adv B₇.adv, ?_⟩
    have hrm : (List.range (takenTo b ps).length).map (fun j => (takenTo b ps).getD j 0) = takenTo b ps := by
      rw [range_map (Es := takenTo b ps) (φ := fun z => z), List.map_id']
    rw [hrm]
    refine enc_ok hha (by omega) (G.adv B₇.adv) N Cl (kin_adv Cl X B₇.adv) e₇ (hF.adv B₇.adv) hcm (by rw [byteArr_size]; exact Nat.le_trans taken_len hlen) fun s₈ t₈ ad => ?_
    rw [bl_byteArr taken_rng]
    exact hQ hall s₈ t₈ (B₇.adv.trans ad)
  · refine bytes_itX (s := ⟨hN, _, s.drawn, _, s.os⟩) (Z := fun ex h => Rz (hideAll (hN.hide C) as) (cenv :: envE :: outer) ex "IndexError" (hN.hide cenv.locals) h) hga rfl rfl barg_gen (fun A Q E q => wpAny_pyIter_gen igN q) ?_
      (⟨fun j s1 h' tk' st k => gx_frame st k, fun j s1 Q E hj st k => gx_item (base := hideAll (hN.hide C) as) (outer := envE :: outer) (g₀ := s.gens) hha hda hgaw hcs hj st k, fun s1 Q E st k => gx_bad hha hda hall ⟨nm, qn, ?_⟩ st k⟩ : ItX w A'.in1.in1 ga (ga :: cStatics :: cenv.locals :: List.range hN.objs.size) [cenv.locals, I] (takenTo b ps).length (fun j => (takenTo b ps).getD j 0)
        (GxSt w A'.in1.in1 cenv ga I ps b hN (hideAll (hN.hide C) as) (envE :: outer) s.gens) (s.gens.push .finished) _)
      (fun ex h z => ?_) (fun j hj => taken_rng _ (mem_getD hj)) len hfp ⟨igN, (G.adv B₅.adv).lim, _, rfl, fun s'' al => ⟨rfl, gx_start (A := A'.in1.in1.in1) hha fr' FG s'' (gx0 s'' al)⟩⟩ fun h₆ tk₆ ex z => ?_
    · intro q hq
      simp only [List.mem_cons, List.not_mem_nil, or_false] at hq
      rcases hq with rfl | rfl
      · simp
      · simp [ltIN]
    · refine hideAll_get _ (by rw [Heap.hide_ne _ (by rw [z₄]; exact Nat.succ_ne_self _)]; exact hga) (nfr _ _ (by rw [Heap.hide_ne _ (by rw [z₄]; exact Nat.succ_ne_self _)]; exact hga) ⟨_, rfl⟩ (by rw [z₄]; exact Nat.ne_of_gt (Nat.lt_succ_of_lt ltI)))
    · obtain ⟨oe, es, T', oT, ts, he, hec, _⟩ := z.tr
      exact ⟨oe, he, hec⟩
    · refine wpAny_leaving_next (s := ⟨h₆, _, _, tk₆, _⟩) fr' z.ff.2.2 hfe z.tr z.stays z.new fun h₇ lf => ?_
      have hlow : ∀ q o, (∃ vs, o.data = .fields vs) → q < 262 → hN.get? q = some o → h₇.get? q = some o := fun q o nf hq e2 => by
        have eH : (hN.hide C).get? q = some o := by rw [Heap.hide_ne _ (Nat.ne_of_lt (Nat.lt_of_lt_of_le hq hC262))]; exact e2
        exact lf.1 q o (hideAll_get _ eH (nfr q o eH nf (Nat.ne_of_lt (Nat.lt_of_lt_of_le hq hI262))))
      refine hE hall h₇ tk₆ ex ⟨⟨fun q o e => lf.1 q o (b1 q o e), funFrames_base b1 lf.2.1.2.2, ?_, fresh_of_stays b1 z.new, fun q o e nf => ?_⟩, fun _ _ => ⟨ps₃, ?_⟩⟩
      · obtain ⟨oe, es, T', oT, ts, a1, a2, a3, a4, a5, a6⟩ := lf.2.2.1
        exact ⟨oe, es, T', oT, ts, a1, a2, a3, a4, fresh_of_stays b1 a5, a6⟩
      · obtain ⟨sl, e1⟩ := z.old q o (by rw [c1]; exact kH q o e nf) nf
        exact lf.2.2.2 q { o with slots := sl } e1 nf
      · obtain ⟨⟨o, vs', file, tf, flags, tg, inF, text, tt, op, e1, d1, r2, r3, r4, r5, r6, e2, d2, r⟩, ⟨o2, vs2, a2, r7, d7, r8⟩, t2⟩ := ic₃
        exact ⟨⟨o, vs', file, tf, flags, tg, inF, text, tt, op, hlow _ _ ⟨_, d1⟩ (by decide) (k₅ _ _ (k₄ _ _ e1)), d1, r2, r3, r4, r5, r6, hlow _ _ ⟨_, d2⟩ (by decide) (k₅ _ _ (k₄ _ _ e2)), d2, r⟩,
          ⟨o2, vs2, hlow _ _ ⟨_, d7⟩ (by decide) (k₅ _ _ (k₄ _ _ a2)), r7, d7, r8⟩, hlow _ _ ⟨_, rfl⟩ (by decide) (k₅ _ _ (k₄ _ _ t2))⟩
/-! F21 -/
/-- `[None] * n` -/
theorem mul_none {w : World} {A : Around} {E : Value → Shared → Prop} {s : Shared} {l : Addr} {n k : Nat} {x : Int} {u : Tok} {Q : Value → Shared → Prop} (hl : s.heap.get? l = some (listOf #[.none] k)) (hx : x = n) (hn : n ≤ 1000)
    (h : Q (.ref s.heap.objs.size) { s with heap := s.heap.push (listOf (List.replicate n Value.none).toArray 0) }) : wpAny (M w) A (binaryOp .Mult (.ref l) (.int x u)) Q E s := by
  have e : (List.foldl (fun x1 x2 => x1 ++ x2) #[] (List.replicate (if (#[Value.none] : Array Value).isEmpty = true then 0 else x.toNat) #[Value.none])) = (List.replicate n Value.none).toArray := by
    rw [if_neg (by decide), listMul_foldl, hx, Int.toNat_natCast]
    simp
  refine wpAny_binaryOp_repeat_ref (T := "list") (U := "int") (by decide) ⟨_, hl, rfl⟩ (fun s' => typeIs_int s' x u) noFill_list_mul F.fills_int_mul F.slot_int_rmul repeat_list F.slot_int_index.lookup
    (call_meets F.slot_int_rmul (typeIs_int s x u) F.entry_int_rmul (F.args_int_rmul_2 _ _) (int___rmul___int_list x u l #[.none] k)
      ⟨hl, rfl, ⟨_, hl, rfl⟩, call_meets F.slot_list_mul ⟨_, hl, rfl⟩ F.entry_list_mul (F.args_list_mul_2 _ _)
        (AutoListH.list___mul___list_int_3 l #[.none] k x u (by simp [Builtin.List.listFitsIndex]; omega) (by simp; omega) (by simp [Builtin.List.listTooLong, sizeLine]; omega))
        ⟨hl, ?_⟩⟩)
  rw [e]
  exact h

def lIt (l : Addr) (i : Nat) : Obj := { cls := .type "list_iterator", data := .fields #[.ref l, .int i 0] }
def pair (a b : Value) : Obj := { cls := .type "tuple", data := .seq #[a, b] }
def zObj (f0 : Value) (ti to : Addr) : Obj := { cls := .type "zip", dict := none, data := .fields #[f0, .bool false, .bool false, .ref ti, .ref to], slots := #[] }

abbrev zh1 (h : Heap) (l : Addr) : Heap := h.push (lIt l 0)
abbrev zh2 (h : Heap) (l : Addr) (b : Array UInt8) (t : Tok) : Heap := (zh1 h l).push (bIt b t 0)
abbrev zh3 (h : Heap) (l : Addr) (b : Array UInt8) (t : Tok) : Heap := (zh2 h l b t).push (pair (.ref h.objs.size) (.ref (zh1 h l).objs.size))
abbrev zh4 (h : Heap) (l : Addr) (b : Array UInt8) (t : Tok) : Heap := (zh3 h l b t).push (pair .none .none)
/-- the heap after `zip(list, bytes)` -/
abbrev zHeap (h : Heap) (l : Addr) (b : Array UInt8) (t : Tok) : Heap := (zh4 h l b t).push (zObj .none (zh2 h l b t).objs.size (zh3 h l b t).objs.size)

set_option maxHeartbeats 1000000 in
theorem meets_zip_lb (w : World) (l : Addr) (xs : Array Value) (b : Array UInt8) (t : Tok) :
    MeetsIn prog w (Builtin.«zip.__new__» ⟨[.type "zip", .ref l, .bytes b t], []⟩) (fun _ R s => s.heap.IsList l xs ∧ R (.ok (.ret (.ref (zh4 s.heap l b t).objs.size))) { s with heap := zHeap s.heap l b t }) :=
  .of_wp fun A R s h => by
    obtain ⟨hp, g, d, tk, os⟩ := s
    obtain ⟨hl1, h⟩ := h
    have hsub := sub_zip
    have hL1 : Heap.IsList (Shared.heap ⟨hp, g, d, tk, os⟩) l xs := hl1
    repeat (any_goals (first | assumption | with_reducible refine wpAny_pyIter_list hL1 ?_ | with_reducible refine KBw.pyIter_bytes ?_ | wp_step))
    exact ⟨_, rfl, h⟩

/-- a zip of a list and a bytes, as it stands between two steps -/
structure ZipAt (h : Heap) (z ti to i1 i2 l : Addr) (b : Array UInt8) (t : Tok) (k : Nat) : Prop where
  z : h.get? z = some (zObj .none ti to)
  ti : h.get? ti = some (pair (.ref i1) (.ref i2))
  to : ∃ x y, h.get? to = some (pair x y)
  i1 : h.IsListIter i1 l k
  i2 : h.get? i2 = some (bIt b t k)

theorem call_zip_lb {w : World} {A : Around} {E : Value → Shared → Prop} {s : Shared} {l : Addr} {xs : Array Value} {b : Array UInt8} {t : Tok} {Q : Value → Shared → Prop} (hl : s.heap.IsList l xs)
    (h : ∀ h', (∀ c o, s.heap.get? c = some o → h'.get? c = some o) → ZipAt h' (s.heap.objs.size + 4) (s.heap.objs.size + 2) (s.heap.objs.size + 3) s.heap.objs.size (s.heap.objs.size + 1) l b t 0 → h'.objs.size = s.heap.objs.size + 5 →
      Q (.ref (s.heap.objs.size + 4)) { s with heap := h' }) : wpAny (M w) A (call (.type "zip") [.ref l, .bytes b t]) Q E s := by
  refine callType_newIn F.called_zip (by decide) (F.typeCall_zip_2 _ _) (F.newCall_zip_2 _ _) (fun obj => F.args_object_init_3 obj _ _) F.entry_zip_new (meets_zip_lb w l xs b t) ⟨hl, ?_⟩
  have z1 : (zh1 s.heap l).objs.size = s.heap.objs.size + 1 := Heap.size_push ..
  have z2 : (zh2 s.heap l b t).objs.size = s.heap.objs.size + 2 := by rw [Heap.size_push, z1]
  have z3 : (zh3 s.heap l b t).objs.size = s.heap.objs.size + 3 := by rw [Heap.size_push, z2]
  have z4 : (zh4 s.heap l b t).objs.size = s.heap.objs.size + 4 := by rw [Heap.size_push, z3]
  have z5 : (zHeap s.heap l b t).objs.size = s.heap.objs.size + 5 := by rw [Heap.size_push, z4]
  have p : ∀ {g : Heap} {c : Addr} {o x : Obj}, g.get? c = some o → (g.push x).get? c = some o := fun e => Heap.get?_push_of_some _ e
  have g5 : (zHeap s.heap l b t).get? (zh4 s.heap l b t).objs.size = some _ := Heap.get?_push_size _ rfl
  have g4 : (zHeap s.heap l b t).get? (zh3 s.heap l b t).objs.size = some _ := p (Heap.get?_push_size _ rfl)
  have g3 : (zHeap s.heap l b t).get? (zh2 s.heap l b t).objs.size = some _ := p (p (Heap.get?_push_size _ rfl))
  have g2 : (zHeap s.heap l b t).get? (zh1 s.heap l).objs.size = some _ := p (p (p (Heap.get?_push_size _ rfl)))
  have g1 : (zHeap s.heap l b t).get? s.heap.objs.size = some _ := p (p (p (p (Heap.get?_push_size _ rfl))))
  rw [z4, z2, z3] at g5
  rw [z3] at g4
  rw [z2, z1] at g3
  rw [z1] at g2
  refine ⟨⟨_, by rw [z4]; exact g5, rfl⟩, ?_⟩
  rw [z4]
  exact h _ (fun c o e => p (p (p (p (p e))))) ⟨g5, g3, ⟨_, _, g4⟩, ⟨_, g1, rfl, rfl⟩, g2⟩ z5
/-! F22 -/
section
variable {w : World} {A : Around} {E : Value → Shared → Prop} {s : Shared} {l : Addr} {items : Array Value} {p : Int} {t : Tok} {v : Value} {Q : Unit → Shared → Prop}
theorem set_in (hl : s.heap.IsList l items) (hp : -1000 ≤ p ∧ p ≤ 1000) (hin : inR items.size p) (hQ : ∀ h', h'.IsList l (items.setIfInBounds (ixP items.size p) v) → Heap.SameBut l s.heap h' → Q () { s with heap := h' }) :
    wpAny (M w) A (setItem (.ref l) (.int p t) v) Q E s := by
  by_cases hneg : 0 ≤ p
  · have e : ixP items.size p = p.toNat := by unfold ixP; rw [if_neg (by omega)]
    rw [e] at hQ
    exact wpAny_setItem_list hl hneg (by omega) hin.2 hQ
  · obtain ⟨o, ho, hc, ne, hd⟩ := id hl
    have hsi := seqIndex_in hin
    have hj := ixP_lt hin
    unfold setItem
    try with_reducible refine wpAny_holding ?_
    first | refine wpAny_bind (wpAny_pure ?_) | skip
    refine wpAny_bind (wpAny_sequenceKey hl.typeIs (by decide) ?_)
    refine wpAny_bind (wpAny_callSpecial?_slot (name := Str.ofString "__setitem__") hl.typeIs slot_list_setitem (wpAny_call_entry slot_list_setitem hl.typeIs entry_list_setitem ?_ (args_list_setitem _ _ _)))
    show wpAny _ _ (Builtin.List.listSubscript? (.int p t) >>= _) _ _ s
    refine wpAny_bind (wpAny_listSubscript_int (fitsIndex_both (by omega) (by omega)) ?_)
    clear hp hin
    cases p with
    | ofNat j => exact absurd (Int.natCast_nonneg j) hneg
    | negSucc j =>
      show wpAny _ _ ((Builtin.List.listItems (.ref l) >>= fun xs => pure ((seqIndex? (Int.negSucc j) xs.size).bind fun i => xs[i]?.map (i, ·))) >>= _) _ _ s
      refine wpAny_bind (wpAny_bind ?_)
      show wpAny _ _ (seqItems? (.ref l) >>= _) _ _ s
      refine wpAny_bind (wpAny_seqItems ho hd (wpAny_pure (wpAny_pure ?_)))
      rw [hsi]
      generalize ixP items.size (Int.negSucc j) = q at hj hQ
      have hx' : items[q]? = some items[q] := Array.getElem?_eq_getElem hj
      rw [Option.bind_some, hx']
      show wpAny _ _ (setSeqItemAt l q v >>= _) _ _ s
      obtain ⟨n', hd'⟩ := Obj.data_mapSeq hd (·.setIfInBounds q v)
      have hfin : (s.heap.update l (Obj.mapSeq (·.setIfInBounds q v))).IsList l (items.setIfInBounds q v) := ⟨_, Heap.get?_update_self _ ho (Obj.isFreed_of_seq hd'), (Obj.cls_mapSeq ..).trans hc, n', hd'⟩
      refine wpAny_bind (wpAny_setSeqItemAt ho hd ?_)
      first
        | exact wpAny_bind (wpAny_pure (wpAny_pure ⟨.none, rfl, wpAny_pure (hQ _ hfin (Heap.SameBut.update ..))⟩))
        | exact wpAny_pure ⟨.none, rfl, wpAny_pure (hQ _ hfin (Heap.SameBut.update ..))⟩

theorem set_out (hA : A.handled = none) (hl : s.heap.IsList l items) (hp : -1000 ≤ p ∧ p ≤ 1000) (hout : ¬ inR items.size p) (hE : ∀ h' tk e, Heap.NewExc s.heap h' e "IndexError" → E (.ref e) { s with heap := h', toks := tk }) :
    wpAny (M w) A (setItem (.ref l) (.int p t) v) Q E s := by
  obtain ⟨o, ho, hc, ne, hd⟩ := id hl
  have hsi := seqIndex_out hout
  unfold setItem
  try with_reducible refine wpAny_holding ?_
  first | refine wpAny_bind (wpAny_pure ?_) | skip
  refine wpAny_bind (wpAny_sequenceKey hl.typeIs (by decide) ?_)
  refine wpAny_bind (wpAny_callSpecial?_slot (name := Str.ofString "__setitem__") hl.typeIs slot_list_setitem (wpAny_call_entry slot_list_setitem hl.typeIs entry_list_setitem ?_ (args_list_setitem _ _ _)))
  show wpAny _ _ (Builtin.List.listSubscript? (.int p t) >>= _) _ _ s
  refine wpAny_bind (wpAny_listSubscript_int (fitsIndex_both (by omega) (by omega)) ?_)
  clear hp
  cases p with
  | ofNat j =>
    have hx : items[j]? = none := by
      unfold inR at hout
      have : ¬ ((j : Int) < items.size) := fun q => hout ⟨by have := Int.natCast_nonneg j; show -(items.size : Int) ≤ (j : Int); omega, q⟩
      exact Array.getElem?_eq_none (by omega)
    show wpAny _ _ ((seqItemAt l j >>= fun r => pure (r.map (j, ·))) >>= _) _ _ s
    refine wpAny_bind (wpAny_bind (wpAny_seqItemAt ho hd (wpAny_pure ?_)))
    rw [hx]
    first
      | exact wpAny_bind (wpAny_rule (by exact_raiseError plainExc_IndexError hA hE))
      | exact wpAny_bind (wpAny_rule (wpAny_bind (by exact_raiseError plainExc_IndexError hA hE)))
      | exact wpAny_bind (wpAny_bind (wpAny_rule (by exact_raiseError plainExc_IndexError hA hE)))
      | exact wpAny_rule (by exact_raiseError plainExc_IndexError hA hE)
  | negSucc j =>
    show wpAny _ _ ((Builtin.List.listItems (.ref l) >>= fun xs => pure ((seqIndex? (Int.negSucc j) xs.size).bind fun i => xs[i]?.map (i, ·))) >>= _) _ _ s
    refine wpAny_bind (wpAny_bind ?_)
    show wpAny _ _ (seqItems? (.ref l) >>= _) _ _ s
    refine wpAny_bind (wpAny_seqItems ho hd (wpAny_pure (wpAny_pure ?_)))
    rw [hsi]
    first
      | exact wpAny_bind (wpAny_rule (by exact_raiseError plainExc_IndexError hA hE))
      | exact wpAny_bind (wpAny_rule (wpAny_bind (by exact_raiseError plainExc_IndexError hA hE)))
      | exact wpAny_bind (wpAny_bind (wpAny_rule (by exact_raiseError plainExc_IndexError hA hE)))
      | exact wpAny_rule (by exact_raiseError plainExc_IndexError hA hE)
end
/-! F23 -/
/-- all the addresses of a zip are apart -/
structure ZAp (z ti to i1 i2 l : Addr) : Prop where
  tiz : ti ≠ z
  toz : to ≠ z
  i1z : i1 ≠ z
  i2z : i2 ≠ z
  lz : l ≠ z
  tito : ti ≠ to
  toi1 : to ≠ i1
  toi2 : to ≠ i2
  i12 : i1 ≠ i2
  li1 : l ≠ i1
  li2 : l ≠ i2
  lto : l ≠ to
  tii1 : ti ≠ i1
  tii2 : ti ≠ i2

theorem upd_pair {w : World} {A : Around} {E : Value → Shared → Prop} {s : Shared} {to : Addr} {a b x : Value} {k : Nat} {Q : Unit → Shared → Prop} (hT : s.heap.get? to = some (pair a b))
    (h : ∀ h', h'.get? to = some { cls := .type "tuple", data := .seq ((#[a, b] : Array Value).setIfInBounds k x) } → Heap.SameBut to s.heap h' → Q () { s with heap := h' }) :
    wpAny (M w) A (updateSeq to (·.setIfInBounds k x)) Q E s := wpAny_updateSeq_pair hT h

set_option maxHeartbeats 1000000 in
theorem zb_item {w : World} {A : Around} {E : Value → Shared → Prop} {s : Shared} {z ti to i1 i2 l : Addr} {b : Array UInt8} {t : Tok} {k : Nat} {xs : Array Value} {x : Value} {c : UInt8} {Q : Value → Shared → Prop} (Z : ZipAt s.heap z ti to i1 i2 l b t k) (D : ZAp z ti to i1 i2 l)
    (hl : s.heap.IsList l xs) (hx : xs[k]? = some x) (hc : b[k]? = some c)
    (hQ : ∀ h' tk T u, s.heap.get? T = none → h'.get? T = some (pair x (.int (c.toNat : Int) u)) → h'.get? z = some (zObj (rawInt T) ti to) → h'.get? ti = some (pair (.ref i1) (.ref i2)) → (∃ x y, h'.get? to = some (pair x y)) → h'.IsListIter i1 l (k + 1) → h'.get? i2 = some (bIt b t (k + 1)) →
      (∀ q o, q ≠ z → q ≠ to → q ≠ i1 → q ≠ i2 → s.heap.get? q = some o → h'.get? q = some o) → Q (.ref T) { s with heap := h', toks := tk }) :
    wpAny (M w) A.in1 (Builtin.«zip.__next__» ⟨[.ref z], []⟩) (fun fin s' => ∃ v, fin = .done (.ret v) ∧ Q v s') E s := by
  obtain ⟨a, b', hto⟩ := Z.to
  show wpAny _ _ (field (.ref z) 2 >>= _) _ _ _
  refine wpAny_bind (wpAny_field Z.z rfl (x := .bool false) rfl ?_)
  show wpAny _ _ (field (.ref z) 3 >>= _) _ _ _
  refine wpAny_bind (wpAny_field Z.z rfl (x := .ref ti) rfl ?_)
  refine wpAny_bind (wpAny_seqItems Z.ti rfl ?_)
  show wpAny _ _ (Builtin.SmallTypes.ownedTupleIsFree (.ref z) >>= _) _ _ _
  refine wpAny_bind ?_
  unfold Builtin.SmallTypes.ownedTupleIsFree
  refine wpAny_bind (wpAny_field Z.z rfl (x := .none) rfl (wpAny_pure ?_))
  simp only [if_true]
  refine wpAny_bind (wpAny_rule ?_)
  refine wpAny_bind (wpAny_field Z.z rfl (x := .ref to) rfl ?_)
  refine wpAny_bind (wpAny_setField_rec Z.z (by simp) fun h₁ hz₁ hs₁ => ?_)
  replace hz₁ : h₁.get? z = some (zObj .ellipsis ti to) := hz₁
  refine wpAny_bind ?_
  simp only [List.zipIdx_cons, List.zipIdx_nil, List.forIn_cons, List.forIn_nil]
  have i1₁ : h₁.IsListIter i1 l k := let ⟨o, e, r⟩ := Z.i1; ⟨o, (hs₁.2 _ D.i1z).trans e, r⟩
  have hl₁ : h₁.IsList l xs := let ⟨o, e, r⟩ := hl; ⟨o, (hs₁.2 _ D.lz).trans e, r⟩
  refine wpAny_bind (wpAny_bind (wpAny_onRaise ?_))
  show wpAny _ _ (Builtin.SmallTypes.nextOf (.ref i1) >>= _) _ _ _
  refine wpAny_bind (wpAny_nextOf_list_item (s := ⟨h₁, _, _, _, _⟩) i1₁ hl₁ hx fun h₂ it₂ hs₂ => wpAny_pure ?_)
  have to₂ := (hs₂.2 _ D.toi1).trans ((hs₁.2 _ D.toz).trans hto)
  refine wpAny_bind (wpAny_seqItems to₂ rfl ?_)
  refine wpAny_bind (upd_pair (s := ⟨h₂, _, _, _, _⟩) to₂ fun h₃ to₃ hs₃ => ?_)
  replace to₃ : h₃.get? to = some (pair x b') := to₃
  refine wpAny_bind (wpAny_letGo (wpAny_pure ?_))
  have i2₃ := (hs₃.2 _ (Ne.symm D.toi2)).trans ((hs₂.2 _ (Ne.symm D.i12)).trans ((hs₁.2 _ D.i2z).trans Z.i2))
  refine wpAny_bind (wpAny_bind (wpAny_onRaise ?_))
  show wpAny _ _ (Builtin.SmallTypes.nextOf (.ref i2) >>= _) _ _ _
  refine wpAny_bind (nof_of (cs_bit (s := ⟨h₃, _, _, _, _⟩) i2₃ hc fun h₄ i2₄ hs₄ => ⟨_, rfl, wpAny_pure ?_⟩))
  have to₄ := (hs₄.2 _ D.toi2).trans to₃
  refine wpAny_bind (wpAny_seqItems to₄ rfl ?_)
  refine wpAny_bind (upd_pair (s := ⟨h₄, _, _, _, _⟩) to₄ fun h₅ to₅ hs₅ => ?_)
  refine wpAny_bind (wpAny_letGo (wpAny_pure (wpAny_pure ?_)))
  replace to₅ : h₅.get? to = some (pair x (.int (c.toNat : Int) s.toks)) := to₅
  have z₅ : h₅.get? z = some (zObj .ellipsis ti to) := (hs₅.2 _ (Ne.symm D.toz)).trans ((hs₄.2 _ (Ne.symm D.i2z)).trans ((hs₃.2 _ (Ne.symm D.toz)).trans ((hs₂.2 _ (Ne.symm D.i1z)).trans hz₁)))
  have k₅ : ∀ q o, q ≠ z → q ≠ to → q ≠ i1 → q ≠ i2 → s.heap.get? q = some o → h₅.get? q = some o := fun q o q1 q2 q3 q4 e =>
    (hs₅.2 _ q2).trans ((hs₄.2 _ q4).trans ((hs₃.2 _ q2).trans ((hs₂.2 _ q3).trans ((hs₁.2 _ q1).trans e))))
  have i1₅ : h₅.IsListIter i1 l (k + 1) := let ⟨o, e, r⟩ := it₂; ⟨o, (hs₅.2 _ (Ne.symm D.toi1)).trans ((hs₄.2 _ D.i12).trans ((hs₃.2 _ (Ne.symm D.toi1)).trans e)), r⟩
  have i2₅ := (hs₅.2 _ (Ne.symm D.toi2)).trans i2₄
  have sz : h₅.objs.size = s.heap.objs.size := by rw [hs₅.1, hs₄.1, hs₃.1, hs₂.1, hs₁.1]
  have zlt : z < h₅.objs.size := Heap.lt_size z₅
  refine wpAny_bind (wpAny_seqItems to₅ rfl ?_)
  refine wpAny_bind (wpAny_newTuple ?_)
  show wpAny _ _ (Builtin.SmallTypes.ownedTupleHandOut (.ref z) (.ref h₅.objs.size) >>= _) _ _ _
  refine wpAny_bind ?_
  unfold Builtin.SmallTypes.ownedTupleHandOut
  have z₆ : (h₅.push (pair x (.int (c.toNat : Int) s.toks))).get? z = some (zObj .ellipsis ti to) := Heap.get?_push_of_some _ z₅
  refine wpAny_bind (wpAny_setField_rec z₆ (by simp) fun h₇ hz₇ hs₇ => ?_)
  replace hz₇ : h₇.get? z = some (zObj (rawInt h₅.objs.size) ti to) := hz₇
  refine wpAny_setField_rec hz₇ (by simp) fun h₈ hz₈ hs₈ => ?_
  replace hz₈ : h₈.get? z = some (zObj (rawInt h₅.objs.size) ti to) := hz₈
  have up : ∀ q o, q ≠ z → h₅.get? q = some o → h₈.get? q = some o := fun q o q1 e => (hs₈.2 _ q1).trans ((hs₇.2 _ q1).trans (Heap.get?_push_of_some _ e))
  refine wpAny_pure ⟨_, rfl, ?_⟩
  refine hQ h₈ _ h₅.objs.size s.toks (Heap.get?_none_of_le (by rw [sz]; exact Nat.le_refl _)) ((hs₈.2 _ (Nat.ne_of_gt zlt)).trans ((hs₇.2 _ (Nat.ne_of_gt zlt)).trans (Heap.get?_push_size _ rfl))) hz₈
    (up _ _ D.tiz (k₅ _ _ D.tiz D.tito D.tii1 D.tii2 Z.ti)) ⟨_, _, up _ _ D.toz to₅⟩ (let ⟨o, e, r⟩ := i1₅; ⟨o, up _ _ D.i1z e, r⟩) (up _ _ D.i2z i2₅) fun q o q1 q2 q3 q4 e => up q o q1 (k₅ q o q1 q2 q3 q4 e)
/-! F24 -/
/-- a bytes iterator at its end -/
theorem bit_stop {w : World} {A : Around} {E : Value → Shared → Prop} {s : Shared} {it : Addr} {b : Array UInt8} {t : Tok} {i : Nat} {Q : Option Value → Shared → Prop} (hh : A.handled = none) (ho : s.heap.get? it = some (bIt b t i)) (hx : b[i]? = none)
    (hE : ∀ h' e, Heap.ExtBut it s.heap h' → Stop h' e → E (.ref e) { s with heap := h' }) :
    wpAny (M w) A (callSpecial? (.ref it) "__next__") Q E s := by
  refine wpAny_callSpecial?_slot (name := Str.ofString "__next__") (T := "bytes_iterator") ⟨_, ho, rfl⟩ KBw.slot_next
    (wpAny_call_entry KBw.slot_next (T := "bytes_iterator") ⟨_, ho, rfl⟩ KBw.entry_next ?_ (KBw.args_next _))
  show wpAny _ _ (field (.ref it) 0 >>= _) _ _ s
  refine wpAny_bind (wpAny_field ho rfl (x := .bytes b t) rfl ?_)
  show wpAny _ _ (if (Value.bytes b t == Value.none) = true then _ else _) _ _ s
  rw [if_neg (show ¬ ((Value.bytes b t == Value.none) = true) from Bool.false_ne_true)]
  show wpAny _ _ (field (.ref it) 1 >>= _) _ _ s
  refine wpAny_bind (wpAny_field ho rfl (x := .int i 0) rfl ?_)
  refine wpAny_bind (wpAny_of_eq (a := b) rfl ?_)
  simp only [Int.toNat_natCast, hx]
  refine wpAny_bind (wpAny_rule (wpAny_bind (wpAny_setField ho rfl (by simp) ?_)))
  show wpAny _ _ (newExc (.type "StopIteration") [] >>= _) _ _ _
  refine wpAny_bind ?_
  simp only [newExc, newTuple]
  refine wpAny_bind (wpAny_newObj_type ?_ (by size_fits))
  refine wpAny_bind (m := firstArgMember _ _) (wpAny_of_eq (a := Value.none) (by first | rfl | (simp only [firstArgMember]; rfl)) ?_)
  refine wpAny_newObj_type ?_ (by size_fits)
  simp only [raiseNew]
  refine wpAny_bind (wpAny_handled ?_)
  rw [show A.in1.handled = none from hh]
  refine wpAny_bind (wpAny_pure (wpAny_throw ?_))
  exact hE _ _ (((Heap.SameBut.update ..).extBut.push _).push _) ⟨_, Heap.get?_push_size _ rfl, rfl⟩

set_option maxHeartbeats 1000000 in
theorem zb_end {w : World} {A : Around} {E : Value → Shared → Prop} {s : Shared} {z ti to i1 i2 l : Addr} {b : Array UInt8} {t : Tok} {k : Nat} {xs : Array Value} {Q : PySem.Fin → Shared → Prop} (hh : A.handled = none) (Z : ZipAt s.heap z ti to i1 i2 l b t k) (D : ZAp z ti to i1 i2 l)
    (hl : s.heap.IsList l xs) (hend : xs[k]? = none ∨ b[k]? = none)
    (hE : ∀ h' e, (∀ q o, q ≠ z → q ≠ to → q ≠ i1 → q ≠ i2 → s.heap.get? q = some o → h'.get? q = some o) → Stop h' e → E (.ref e) { s with heap := h' }) :
    wpAny (M w) A.in1 (Builtin.«zip.__next__» ⟨[.ref z], []⟩) Q E s := by
  obtain ⟨a, b', hto⟩ := Z.to
  show wpAny _ _ (field (.ref z) 2 >>= _) _ _ _
  refine wpAny_bind (wpAny_field Z.z rfl (x := .bool false) rfl ?_)
  show wpAny _ _ (field (.ref z) 3 >>= _) _ _ _
  refine wpAny_bind (wpAny_field Z.z rfl (x := .ref ti) rfl ?_)
  refine wpAny_bind (wpAny_seqItems Z.ti rfl ?_)
  show wpAny _ _ (Builtin.SmallTypes.ownedTupleIsFree (.ref z) >>= _) _ _ _
  refine wpAny_bind ?_
  unfold Builtin.SmallTypes.ownedTupleIsFree
  refine wpAny_bind (wpAny_field Z.z rfl (x := .none) rfl (wpAny_pure ?_))
  simp only [if_true]
  refine wpAny_bind (wpAny_rule ?_)
  refine wpAny_bind (wpAny_field Z.z rfl (x := .ref to) rfl ?_)
  refine wpAny_bind (wpAny_setField_rec Z.z (by simp) fun h₁ hz₁ hs₁ => ?_)
  replace hz₁ : h₁.get? z = some (zObj .ellipsis ti to) := hz₁
  refine wpAny_bind ?_
  simp only [List.zipIdx_cons, List.zipIdx_nil, List.forIn_cons, List.forIn_nil]
  have i1₁ : h₁.IsListIter i1 l k := let ⟨o, e, r⟩ := Z.i1; ⟨o, (hs₁.2 _ D.i1z).trans e, r⟩
  have hl₁ : h₁.IsList l xs := let ⟨o, e, r⟩ := hl; ⟨o, (hs₁.2 _ D.lz).trans e, r⟩
  refine wpAny_bind (wpAny_bind (wpAny_onRaise ?_))
  show wpAny _ _ (Builtin.SmallTypes.nextOf (.ref i1) >>= _) _ _ _
  cases hx : xs[k]? with
  | none =>
    refine wpAny_bind (wpAny_nextOf_list_end (s := ⟨h₁, _, _, _, _⟩) hh i1₁ hl₁ hx fun h₂ e hs₂ he => ?_)
    obtain ⟨oe, hoe, hce⟩ := he
    have z₂ : h₂.get? z = some (zObj .ellipsis ti to) := hs₂ _ _ (Ne.symm D.i1z) hz₁
    have hez : e ≠ z := fun q => by subst q; rw [z₂] at hoe; cases hoe; simp [zObj] at hce
    refine wpAny_setField_rec z₂ (by simp) fun h₃ _ hs₃ => hE h₃ e (fun q o q1 q2 q3 q4 y => (hs₃.2 _ q1).trans (hs₂ _ _ q3 ((hs₁.2 _ q1).trans y))) ⟨oe, (hs₃.2 _ hez).trans hoe, hce⟩
  | some x =>
    have hb : b[k]? = none := by rcases hend with h | h; rw [hx] at h; cases h; exact h
    refine wpAny_bind (wpAny_nextOf_list_item (s := ⟨h₁, _, _, _, _⟩) i1₁ hl₁ hx fun h₂ it₂ hs₂ => wpAny_pure ?_)
    have to₂ := (hs₂.2 _ D.toi1).trans ((hs₁.2 _ D.toz).trans hto)
    refine wpAny_bind (wpAny_seqItems to₂ rfl ?_)
    refine wpAny_bind (upd_pair (s := ⟨h₂, _, _, _, _⟩) to₂ fun h₃ to₃ hs₃ => ?_)
    replace to₃ : h₃.get? to = some (pair x b') := to₃
    refine wpAny_bind (wpAny_letGo (wpAny_pure ?_))
    have i2₃ := (hs₃.2 _ (Ne.symm D.toi2)).trans ((hs₂.2 _ (Ne.symm D.i12)).trans ((hs₁.2 _ D.i2z).trans Z.i2))
    refine wpAny_bind (wpAny_bind (wpAny_onRaise ?_))
    show wpAny _ _ (Builtin.SmallTypes.nextOf (.ref i2) >>= _) _ _ _
    refine wpAny_bind (nof_of (bit_stop (s := ⟨h₃, _, _, _, _⟩) hh i2₃ hb fun h₄ e hs₄ he => ?_))
    obtain ⟨oe, hoe, hce⟩ := he
    have z₄ : h₄.get? z = some (zObj .ellipsis ti to) := hs₄ _ _ (Ne.symm D.i2z) ((hs₃.2 _ (Ne.symm D.toz)).trans ((hs₂.2 _ (Ne.symm D.i1z)).trans hz₁))
    have hez : e ≠ z := fun q => by subst q; rw [z₄] at hoe; cases hoe; simp [zObj] at hce
    refine wpAny_setField_rec z₄ (by simp) fun h₅ _ hs₅ => hE h₅ e (fun q o q1 q2 q3 q4 y => (hs₅.2 _ q1).trans (hs₄ _ _ q4 ((hs₃.2 _ q2).trans ((hs₂.2 _ q3).trans ((hs₁.2 _ q1).trans y))))) ⟨oe, (hs₅.2 _ hez).trans hoe, hce⟩
/-! F25 -/
theorem zip_nxt {w : World} {A : Around} {E : Value → Shared → Prop} {s : Shared} {z ti to i1 i2 l : Addr} {b : Array UInt8} {t : Tok} {k : Nat} {xs : Array Value} {x : Value} {c : UInt8} {Q : Option Value → Shared → Prop} (Z : ZipAt s.heap z ti to i1 i2 l b t k) (D : ZAp z ti to i1 i2 l)
    (hl : s.heap.IsList l xs) (hx : xs[k]? = some x) (hc : b[k]? = some c)
    (hQ : ∀ h' tk T u, s.heap.get? T = none → h'.get? T = some (pair x (.int (c.toNat : Int) u)) → h'.get? z = some (zObj (rawInt T) ti to) → h'.get? ti = some (pair (.ref i1) (.ref i2)) → (∃ x y, h'.get? to = some (pair x y)) → h'.IsListIter i1 l (k + 1) → h'.get? i2 = some (bIt b t (k + 1)) →
      (∀ q o, q ≠ z → q ≠ to → q ≠ i1 → q ≠ i2 → s.heap.get? q = some o → h'.get? q = some o) → Q (some (.ref T)) { s with heap := h', toks := tk }) :
    wpAny (M w) A (pyNext (.ref z)) Q E s := by
  have hT : s.TypeIs (.ref z) "zip" := ⟨_, Z.z, rfl⟩
  unfold pyNext
  exact wpAny_bind (wpAny_attempt (wpAny_callSpecial?_slot (name := Str.ofString "__next__") hT F.slot_zip_next
    (wpAny_call_entry F.slot_zip_next hT F.entry_zip_next (zb_item Z D hl hx hc fun h' tk T u a1 a2 a3 a4 a5 a6 a7 a8 => wpAny_pure (hQ h' tk T u a1 a2 a3 a4 a5 a6 a7 a8)) (F.args_zip_next_1 _))))

theorem zip_stop {w : World} {A : Around} {E : Value → Shared → Prop} {s : Shared} {z ti to i1 i2 l : Addr} {b : Array UInt8} {t : Tok} {k : Nat} {xs : Array Value} {Q : Option Value → Shared → Prop} (hh : A.handled = none) (Z : ZipAt s.heap z ti to i1 i2 l b t k) (D : ZAp z ti to i1 i2 l)
    (hl : s.heap.IsList l xs) (hend : xs[k]? = none ∨ b[k]? = none)
    (hQ : ∀ h', (∀ q o, q ≠ z → q ≠ to → q ≠ i1 → q ≠ i2 → s.heap.get? q = some o → h'.get? q = some o) → Q none { s with heap := h' }) :
    wpAny (M w) A (pyNext (.ref z)) Q E s := by
  have hT : s.TypeIs (.ref z) "zip" := ⟨_, Z.z, rfl⟩
  unfold pyNext
  refine wpAny_bind (wpAny_attempt (wpAny_callSpecial?_slot (name := Str.ofString "__next__") hT F.slot_zip_next
    (wpAny_call_entry F.slot_zip_next hT F.entry_zip_next (zb_end hh Z D hl hend fun h' e k st => ?_) (F.args_zip_next_1 _))))
  exact wpAny_bind (wpAny_isInstance (T := "StopIteration") (b := true) st isSubtype_stop (wpAny_pure (hQ h' k)))
/-! F26 -/
/-- an exception held in a frame -/
structure Hz (base : Heap) (l : List Env) (e : Addr) (X : String) (fl : Value) (hN h' : Heap) : Prop where
  stays : base.StaysIn h'
  ff : h'.FunFrames base l
  tr : ∃ a0, h'.TracedAtW base e (.type X) a0 fl
  new : base.get? e = none
  old : ∀ b o, hN.get? b = some o → (∀ vs, o.data ≠ .fields vs) → ∃ sl, h'.get? b = some { o with slots := sl }

section
variable {M : Model} {A : Around} {E : Value → Shared → Prop} {s : Shared} {base hN : Heap} {env : Env} {outer : List Env} {L e : Addr} {X : String} {Q : Unit → Shared → Prop}

theorem note_fresh (hfr : A.frames = some (env :: outer)) (ff : hN.FunFrames base (env :: outer)) (hf : env.frame = some L) (st : base.StaysIn hN) (ne : Heap.NewExc hN s.heap e X)
    (k : ∀ h', Hz base (env :: outer) e X (rawInt L) hN h' → Q () { s with heap := h' }) : wpAny M A (noteFrame (.ref e) env) Q E s := by
  obtain ⟨ob, t, he, hc, hd⟩ := ne.there
  have st' : base.StaysIn s.heap := fun b o q => ne.keeps b o (st b o q)
  have hen : base.get? e = none := fresh_of_stays st ne.new
  have ff' : s.heap.FunFrames base (env :: outer) := ff.of_keeps fun b o q _ => ⟨o, ne.keeps b o q, rfl⟩
  unfold noteFrame
  simp only [hf]
  refine wpAny_bind (wpAny_field he hd (x := .none) rfl ?_)
  rw [if_neg (by decide)]
  refine wpAny_entryW (a0 := t) hfr ff' hf he st' hen hd (by simp) rfl fun h' hN => k h' ?_
  obtain ⟨k1, k2, k3, k4⟩ := hN
  rw [hc] at k3
  exact ⟨k1, k2, ⟨_, k3⟩, hen, fun b o q nf => k4 b o (ne.keeps b o q) nf⟩

theorem note_on (hfr : A.frames = some (env :: outer)) (hf : env.frame = some L) (z : Rz base (env :: outer) e X hN s.heap)
    (k : ∀ h', Hz base (env :: outer) e X (rawInt L) hN h' → Q () { s with heap := h' }) : wpAny M A (noteFrame (.ref e) env) Q E s := by
  obtain ⟨oe, vs, T', oT, ts, he, hcl, hd, h1, hnT, hTe, hT, hdT, h3⟩ := z.tr
  have hsz : 0 < vs.size := Nat.lt_of_le_of_lt (Nat.zero_le _) (Array.getElem?_eq_some_iff.mp h1).1
  refine wpAny_noteFrame_onW (cls := .type X) (a0 := vs[0]) hfr z.ff hf ⟨oe, vs, T', oT, ts, he, ⟨hcl, Array.getElem?_eq_getElem hsz⟩, hd, h1, hnT, hTe, hT, hdT, h3⟩ z.stays z.new fun h' hN => k h' ?_
  obtain ⟨k1, k2, k3, k4⟩ := hN
  refine ⟨k1, k2, ⟨_, k3⟩, z.new, fun b o q nf => ?_⟩
  obtain ⟨sl, e1⟩ := z.old b o q nf
  exact k4 b { o with slots := sl } e1 nf

theorem note_again {l : List Env} (hf : env.frame = some L) (z : Hz base l e X (rawInt L) hN s.heap) (k : Q () s) : wpAny M A (noteFrame (.ref e) env) Q E s :=
  let ⟨_, t⟩ := z.tr; wpAny_noteFrame_againW hf t k

theorem fly_none {l : List Env} {fl : Value} (z : Hz base l e X fl hN s.heap) (k : ∀ h', Rz base l e X hN h' → Q () { s with heap := h' }) : wpAny M A (setFlight (.ref e) none) Q E s := by
  obtain ⟨a0, t⟩ := z.tr
  refine wpAny_setFlight_noneW z.stays z.ff t fun h' k1 k2 k3 k4 => k h' ?_
  obtain ⟨oe, vs, T', oT, ts, he, hcl, r⟩ := k3
  refine ⟨k1, k2, ⟨oe, vs, T', oT, ts, he, hcl.1, r⟩, z.new, fun b o q nf => ?_⟩
  obtain ⟨sl, e1⟩ := z.old b o q nf
  exact ⟨sl, k4 b { o with slots := sl } e1 nf⟩

theorem leave_held (hf : env.frame = some L) (z : Hz base (env :: outer) e X (rawInt L) hN s.heap) (k : ∀ h', Rz base outer e X hN h' → Q () { s with heap := h' }) : wpAny M A (leaving env (.ref e)) Q E s := by
  unfold leaving
  exact wpAny_bind (note_again hf z (fly_none z fun h' r => k h' ⟨r.stays, r.ff.2.2, r.tr, r.new, r.old⟩))

theorem leave_fresh (hfr : A.frames = some (env :: outer)) (ff : hN.FunFrames base (env :: outer)) (hf : env.frame = some L) (st : base.StaysIn hN) (ne : Heap.NewExc hN s.heap e X)
    (k : ∀ h', Rz base outer e X hN h' → Q () { s with heap := h' }) : wpAny M A (leaving env (.ref e)) Q E s := by
  unfold leaving
  exact wpAny_bind (note_fresh hfr ff hf st ne fun h' z => fly_none (s := { s with heap := h' }) z fun h'' r => k h'' ⟨r.stays, r.ff.2.2, r.tr, r.new, r.old⟩)

theorem fly_here {l : List Env} (z : Hz base l e X (rawInt L) hN s.heap) (k : ∀ h', Hz base l e X (rawInt L) hN h' → Q () { s with heap := h' }) : wpAny M A (setFlight (.ref e) (some L)) Q E s := by
  obtain ⟨a0, oe, vs, T', oT, ts, he, hcls, hd, h1, hnT, hTe, hT, hdT, h3⟩ := z.tr
  have hsz3 : 3 < ts.size := (Array.getElem?_eq_some_iff.mp h3).1
  have other : ∀ b, b ≠ T' → (s.heap.update T' (Obj.mapFields (·.setIfInBounds 3 ((some L : Option Addr).elim Value.none fun f => rawInt f)))).get? b = s.heap.get? b :=
    fun b hb => Heap.get?_update_other _ _ (Ne.symm hb)
  have noRecord : ∀ b o, s.heap.get? b = some o → (∀ vs, o.data ≠ .fields vs) → b ≠ T' := fun b o hb hnf q => by
    rw [q, hT] at hb; injection hb with hb; subst hb; exact hnf ts hdT
  unfold setFlight
  refine wpAny_bind (wpAny_field he hd h1 ?_)
  rw [if_pos (show (Value.ref T' != Value.none) = true from by simp)]
  refine wpAny_setField hT hdT hsz3 (k _ ⟨fun b o hbo => (other b fun q => by rw [q, hnT] at hbo; cases hbo).trans (z.stays b o hbo),
    z.ff.of_keeps fun b o hb hnf => ⟨o, (other b (noRecord b o hb hnf)).trans hb, rfl⟩, ⟨a0, ?_⟩, z.new, fun b o hb hn => ?_⟩)
  · exact ⟨oe, vs, T', _, _, (other e (Ne.symm hTe)).trans he, hcls, hd, h1, hnT, hTe, Heap.get?_update_self _ hT (Obj.isFreed_of_fields (Obj.data_mapFields hdT _)), Obj.data_mapFields hdT _, by simp [hsz3]⟩
  · obtain ⟨sl, e1⟩ := z.old b o hb hn
    exact ⟨sl, (other b (noRecord b { o with slots := sl } e1 hn)).trans e1⟩

theorem back_held {l : List Env} (hf : env.frame = some L) (z : Hz base l e X (rawInt L) hN s.heap) (k : ∀ h', Hz base l e X (rawInt L) hN h' → E (.ref e) { s with heap := h' }) : cameBackBy M A env E (.ref e) s := by
  obtain ⟨a0, oe, vs, T', oT, ts, he, hcls, hd, h1, _⟩ := id z.tr
  unfold cameBackBy
  rw [hf]
  refine wpAny_bind (wpAny_field he hd h1 ?_)
  rw [if_neg (show ¬ ((Value.ref T' == Value.none) = true) from Bool.false_ne_true)]
  first
    | exact fly_here z k
    | exact wpAny_bind (wpAny_pure (fly_here z k))
end

/-- amid a function of the text, something is raised: what the way out may count on -/
theorem out_of {s : Shared} {A : Around} {L e : Addr} {m : Str → Option Value} {hN : Heap} {g : Array GenState} {d : Drawn} {o : OsState} {base : Heap} {env : Env} {outer : List Env} {X : String} (B : BdH s L m hN g d o) (Bl : Below A base outer s.heap) (hTb : base.get? T = none) (hcode : ∃ ps, TabOk s.heap ps)
    (hf : env.frame = some L) (hk : env.scope.kind = .function) :
    ∃ base' : Heap, base'.StaysIn hN ∧ hN.FunFrames base' (env :: outer) ∧ ∀ h', Rz base' outer e X hN h' → AdvX base outer e X s.heap h' := by
  obtain ⟨psT, icT⟩ := hcode
  have nfT : ∀ o, s.heap.get? T = some o → ∃ vs, o.data = .fields vs := by
    intro o q
    rw [icT.2.2] at q; cases q; exact ⟨_, rfl⟩
  have bs : ∀ q o, base.get? q = some o → s.heap.get? q = some o := Bl.stays
  have bT : ∀ q o, base.get? q = some o → q ≠ T := fun q o e z => by rw [z, hTb] at e; cases e
  have noB : ∀ q, s.heap.get? q = none → base.get? q = none := fun q e => fresh_of_stays Bl.stays e
  have kN : ∀ q o, q ≠ T → s.heap.get? q = some o → hN.get? q = some o := B.adv.keep
  have kH : ∀ q o, s.heap.get? q = some o → (∀ vs, o.data ≠ .fields vs) → hN.get? q = some o := fun q o e nf =>
    kN q o (fun z => by rw [z] at e; obtain ⟨vs, d⟩ := nfT o e; exact nf _ d) e
  have ffH : hN.FunFrames base (env :: outer) := by
    refine ⟨by rw [hk]; decide, ⟨L, ?_⟩, Bl.frames.of_keeps fun q o e nf => ⟨o, kH q o e nf, rfl⟩⟩
    obtain ⟨oL, es, ep, eL', eD, _⟩ := B.ns
    exact ⟨oL, hf, noB _ B.old, eL', fun vs => by rw [eD]; exact fun q => (nomatch q)⟩
  have bas : ∀ q, q ∈ (env :: outer).filterMap (·.frame) → base.get? q = none := fun q z => (ffH.mem z).1
  have b1 : ∀ q o, base.get? q = some o → (hideAll hN ((env :: outer).filterMap (·.frame))).get? q = some o := fun q o e =>
    hideAll_get _ (kN q o (bT q o e) (bs q o e)) fun z => by rw [bas q z] at e; cases e
  refine ⟨hideAll hN ((env :: outer).filterMap (·.frame)), fun q o e => of_hideAll _ e, funFrames_hide ffH fun env he q hq => List.mem_filterMap.mpr ⟨env, he, hq⟩, fun h' z => ?_⟩
  refine ⟨⟨fun q o e => z.stays q o (b1 q o e), funFrames_base b1 z.ff, ?_, fresh_of_stays b1 z.new, fun q o e nf => z.old q o (kH q o e nf) nf⟩, fun ps i => ?_⟩
  · obtain ⟨oe, es, T', oT, ts, a1, a2, a3, a4, a5, a6⟩ := z.tr
    exact ⟨oe, es, T', oT, ts, a1, a2, a3, a4, fresh_of_stays b1 a5, a6⟩
  · obtain ⟨ps', i'⟩ := B.adv.tab ps i
    have hlow : ∀ q o, (∃ vs, o.data = .fields vs) → hN.get? q = some o → h'.get? q = some o := fun q o nf e2 =>
      z.stays q o (hideAll_get _ e2 fun y => by
        obtain ⟨_, o', e', n'⟩ := ffH.mem y
        rw [e2] at e'; cases e'
        obtain ⟨vs, d⟩ := nf
        exact n' _ d)
    obtain ⟨⟨o, vs', file, tf, flags, tg, inF, text, tt, op, e1, d1, r2, r3, r4, r5, r6, e2, d2, r⟩, ⟨o2, vs2, a2, r7, d7, r8⟩, t2⟩ := i'
    exact ⟨ps', ⟨o, vs', file, tf, flags, tg, inF, text, tt, op, hlow _ _ ⟨_, d1⟩ e1, d1, r2, r3, r4, r5, r6, hlow _ _ ⟨_, d2⟩ e2, d2, r⟩, ⟨o2, vs2, hlow _ _ ⟨_, d7⟩ a2, r7, d7, r8⟩, hlow _ _ ⟨_, rfl⟩ t2⟩
/-! F27 -/
theorem no_none_index : typeLookup (.type "NoneType") "__index__" = pure none := by rw [typeLookup_type, builtinLookup_eq_fast]; kernel_rfl

theorem asIndex_none {w : World} {A : Around} {E : Value → Shared → Prop} {s : Shared} {Q : Int → Shared → Prop} (hA : A.handled = none) (hE : ∀ h' tk e, Heap.NewExc s.heap h' e "TypeError" → E (.ref e) { s with heap := h', toks := tk }) :
    wpAny (M w) A (asIndex .none) Q E s := by
  have hT : s.TypeIs .none "NoneType" := by first | exact typeIs_none _ | exact rfl
  have f1 := no_none_index
  unfold asIndex
  repeat (any_goals (first | assumption | wp_step))
  exact_raiseError plainExc_TypeError hA hE

/-- a list with a None is no bytes -/
theorem ln_loop {w : World} {A : Around} {l I S : Addr} {vs : List Value} {n : Nat} {R : Result → Shared → Prop} (hA : A.handled = none) (hn : vs[n]? = some .none) (hi : ∀ j, j < n → ∃ z t, vs[j]? = some (.int z t) ∧ 0 ≤ z ∧ z < 256) (hz : n ≤ 1000) (hIS : I ≠ S) (hlI : l ≠ I) (hlS : l ≠ S)
    (s₀ : Shared) (hR : ∀ h₁ h' tk e, (∀ b o, b ≠ I → b ≠ S → s₀.heap.get? b = some o → h₁.get? b = some o) → Heap.NewExc h₁ h' e "TypeError" → R (.error (.ref e)) ⟨h', s₀.gens, s₀.drawn, tk, s₀.os⟩) :
    ∀ (k j : Nat) (h : Heap) (tk : Nat), n - j = k → j ≤ n → (∀ b o, b ≠ I → b ≠ S → s₀.heap.get? b = some o → h.get? b = some o) → h.IsList l vs.toArray → h.IsListIter I l j → (∃ b : Array UInt8, b.size = j ∧ h.get? S = some { cls := .type "bytearray", data := .bytearray b }) →
      codeAny (M w) A (.builtin "bytes.__new__.loop" ⟨[.type "bytes", .ref I, .ref S], []⟩) R ⟨h, s₀.gens, s₀.drawn, tk, s₀.os⟩ := by
  intro k
  induction k with
  | zero =>
    intro j h tk hk hle kp hl hit hS
    have hin : j = n := by omega
    subst hin
    refine codeAny_builtin F.bm_entry_loop ?_
    rw [Around.under_plainId F.bm_plain_loop _]
    show wpAny _ A.in1 (pyNext (.ref I) >>= _) _ _ _
    refine wpAny_bind (wpAny_pyNext_list_item (s := ⟨h, _, _, tk, _⟩) (x := .none) hit hl (by simpa using hn) fun h₁ it₁ sb₁ => ?_)
    refine wpAny_bind (wpAny_holding (asIndex_none (s := ⟨h₁, _, _, tk, _⟩) (show A.in1.handled = none from hA) fun h' tk' e ne => ?_))
    exact hR h₁ h' tk' e (fun b o hb hb' q => (sb₁.2 _ hb).trans (kp b o hb hb' q)) ne
  | succ k ih =>
    intro j h tk hk hle kp hl hit hS
    obtain ⟨z, t, hx, h0, h1⟩ := hi j (by omega)
    obtain ⟨b, hb, hS⟩ := hS
    refine codeAny_builtin F.bm_entry_loop ?_
    rw [Around.under_plainId F.bm_plain_loop _]
    show wpAny _ A.in1 (pyNext (.ref I) >>= _) _ _ _
    refine wpAny_bind (wpAny_pyNext_list_item (s := ⟨h, _, _, tk, _⟩) (x := .int z t) hit hl (by simpa using hx) fun h₁ it₁ sb₁ => ?_)
    have hS' : h₁.get? S = some { cls := .type "bytearray", data := .bytearray b } := (sb₁.2 S (Ne.symm hIS)).trans hS
    refine wpAny_bind (wpAny_holding (wpAny_of_eq (rfl : asIndex (.int z t) = pure z) ?_))
    refine wpAny_bind (wpAny_letGo ?_)
    refine bm_if_false (by simp only [Bool.or_eq_false_iff, decide_eq_false_iff_not]; omega) ?_
    refine wpAny_bind ?_
    show wpAny _ _ (updateBytearray S (·.push z.toNat.toUInt8)) _ _ _
    unfold updateBytearray
    refine wpAny_bind (wpAny_load hS' ?_)
    show wpAny _ _ (update S (Obj.mapBytearray (·.push z.toNat.toUInt8)) >>= fun _ => lookBehind S) _ _ _
    refine wpAny_bind (wpAny_update hS' ?_)
    have hS₂ : (h₁.update S (Obj.mapBytearray (·.push z.toNat.toUInt8))).get? S = some { cls := .type "bytearray", data := .bytearray (b.push z.toNat.toUInt8) } :=
      Heap.get?_update_self (Obj.mapBytearray (·.push z.toNat.toUInt8)) hS' rfl
    refine wpAny_lookBehind hS₂ ?_ ?_
    · show (if (b.push z.toNat.toUInt8).size > sizeLine then some "bytearray:memory" else none) = none
      rw [if_neg]
      rw [Array.size_push, sizeLine_eq]; omega
    · refine wpAny_pure ⟨plainId_quiet F.bm_plain_loop _, ih (j + 1) (h₁.update S (Obj.mapBytearray (·.push z.toNat.toUInt8))) tk (by omega) (by omega) (fun b o hb hb' q => ?_) ?_ ?_ ⟨_, by rw [Array.size_push, hb], hS₂⟩⟩
      · exact (Heap.get?_update_other _ _ (Ne.symm hb')).trans ((sb₁.2 _ hb).trans (kp b o hb hb' q))
      · exact (hl.extBut sb₁.extBut hlI).extBut (Heap.SameBut.update ..).extBut hlS
      · exact it₁.extBut (Heap.SameBut.update ..).extBut hIS

theorem bytes_none {w : World} {A : Around} {E : Value → Shared → Prop} {s : Shared} {l : Addr} {vs : List Value} {n : Nat} {Q : Value → Shared → Prop} (hA : A.handled = none) (hl : s.heap.IsList l vs.toArray) (hn : vs[n]? = some .none) (hi : ∀ j, j < n → ∃ z t, vs[j]? = some (.int z t) ∧ 0 ≤ z ∧ z < 256) (hz : n ≤ 1000)
    (hE : ∀ h₁ h' tk e, (∀ b o, s.heap.get? b = some o → h₁.get? b = some o) → Heap.NewExc h₁ h' e "TypeError" → E (.ref e) { s with heap := h', toks := tk }) :
    wpAny (M w) A (call (.type "bytes") [.ref l]) Q E s := by
  refine callType_codes (Q₁ := fun obj s₁ => s₁.TypeIs obj "bytes" ∧ Q obj s₁) F.bm_called (F.bm_typeCall _) F.entry_object_init ?_ fun obj s₁ h₁ =>
    ⟨h₁.1, F.args_object_init_2 obj _, object_init_meets F.bm_called.init.lookup F.bm_called.made (by decide) prog w A.in1 _ s₁ ⟨h₁.1, rfl, h₁.2⟩⟩
  refine codeAny_of_tree ?_
  show wpAny _ A.in1.in1 (do checkBuiltinCall "bytes.__new__" ⟨[.type "bytes", .ref l], []⟩; again (.builtin "bytes.__new__" ⟨[.type "bytes", .ref l], []⟩)) _ _ s
  refine wpAny_bind (wpAny_of_eq (F.bm_newCall _) (wpAny_pure ⟨plainId_quiet F.bm_plain _, codeAny_builtin F.bm_entry ?_⟩))
  rw [Around.under_plainId F.bm_plain _]
  have hT : s.TypeIs (.ref l) "list" := hl.typeIs
  obtain ⟨ol, hol, hoc, nl, hod⟩ := id hl
  unfold Builtin.«bytes.__new__»
  refine wpAny_bind (wpAny_of_eq (a := true) rfl ?_)
  refine bm_if_false rfl ?_
  refine wpAny_bind (wpAny_of_eq F.bm_sub ?_)
  refine bm_if_false rfl ?_
  refine wpAny_bind (wpAny_of_eq (F.bm_bind _) ?_)
  refine wpAny_bind (wpAny_of_eq (a := ()) rfl ?_)
  refine wpAny_bind (wpAny_of_eq (a := ()) rfl ?_)
  refine bm_if_false rfl ?_
  refine wpAny_bind (wpAny_specialOf hT F.bm_no_bytes ?_)
  refine wpAny_bind (wpAny_bind ?_)
  show wpAny _ _ (load l >>= _) _ _ _
  refine wpAny_bind (wpAny_load hol ?_)
  rw [hod]
  refine wpAny_pure (wpAny_pure ?_)
  refine bm_if_false rfl ?_
  refine wpAny_bind (wpAny_specialOf hT F.bm_no_index ?_)
  refine bm_if_true rfl ?_
  first
    | show wpAny _ _ (Builtin.Bytes.buffer? "bytes.__new__" (.ref l) true >>= _) _ _ _
    | (refine wpAny_bind ?_; show wpAny _ _ (Builtin.Bytes.buffer? "bytes.__new__" (.ref l) true >>= _) _ _ _)
  refine wpAny_bind ?_
  unfold Builtin.Bytes.buffer?
  refine wpAny_bind (wpAny_specialOf hT F.bm_no_buffer ?_)
  refine wpAny_bind (wpAny_specialOf hT F.bm_no_buffer ?_)
  refine wpAny_pure ?_
  refine wpAny_bind (wpAny_tryCatch (wpAny_pyIter_list hl ?_))
  have hl₁ : (s.heap.push (lIt l 0)).IsList l vs.toArray := hl.push _
  have hT₁ : ({ s with heap := s.heap.push (lIt l 0) } : Shared).TypeIs (.ref l) "list" := Heap.IsList.typeIs (s := { s with heap := s.heap.push (lIt l 0) }) hl₁
  refine wpAny_bind (wpAny_holding ?_)
  unfold Builtin.Bytes.lengthHint
  refine wpAny_bind (wpAny_specialOf hT₁ slot_list_len.lookup ?_)
  dsimp only
  rw [F.bm_split]
  dsimp only
  refine wpAny_bind (wpAny_isInstance hT₁ F.bm_sub_list ?_)
  refine bm_if_false rfl ?_
  refine bm_if_true (by decide +kernel) ?_
  refine wpAny_pure ?_
  refine wpAny_bind ?_
  unfold Builtin.Bytes.newBytearray
  refine wpAny_newObj_type ?_ (Nat.zero_le _)
  have hI : ((s.heap.push (lIt l 0)).push { cls := .type "bytearray", data := .bytearray #[] }).IsListIter s.heap.objs.size l 0 := ⟨_, Heap.get?_push_of_some _ (Heap.get?_push_size _ rfl), rfl, rfl⟩
  have hlt : l < s.heap.objs.size := Heap.lt_size hol
  have hsz : (s.heap.push (lIt l 0)).objs.size = s.heap.objs.size + 1 := Heap.size_push _ _
  have main := ln_loop (w := w) (A := A.in1) (R := wants (fun obj s₁ => s₁.TypeIs obj "bytes" ∧ Q obj s₁) E) (l := l) (I := s.heap.objs.size) (S := (s.heap.push (lIt l 0)).objs.size) hA hn hi hz (by rw [hsz]; exact Nat.ne_of_lt (Nat.lt_succ_self _)) (Nat.ne_of_lt hlt) (by rw [hsz]; exact Nat.ne_of_lt (Nat.lt_succ_of_lt hlt))
    s (fun h₁ h' tk e kp ne => hE h₁ h' tk e (fun b o q => kp b o (Nat.ne_of_lt (Heap.lt_size q)) (by rw [hsz]; exact Nat.ne_of_lt (Nat.lt_succ_of_lt (Heap.lt_size q))) q) ne)
    n 0 ((s.heap.push (lIt l 0)).push { cls := .type "bytearray", data := .bytearray #[] }) s.toks rfl (Nat.zero_le _) (fun b o _ _ q => Heap.get?_push_of_some _ (Heap.get?_push_of_some _ q)) (hl₁.push _) hI ⟨#[], rfl, Heap.get?_push_size _ rfl⟩
  first
    | exact wpAny_pure ⟨plainId_quiet F.bm_plain_loop _, main⟩
    | exact wpAny_pure (wpAny_pure ⟨plainId_quiet F.bm_plain_loop _, main⟩)
/-! F28 -/
def litDtb : { st : Stmt // methAt 20 = st } := ⟨_, by
  delta methAt stmtAt prog PySem.Challenge.pw_aj5032_01
  dsimp only [List.getElem?_cons_succ, List.getElem?_cons_zero, Option.getD_some, clsBody]⟩
abbrev stDtb : Stmt := litDtb.1
def bodDtb : { b : List Stmt // fnBody stDtb = b } := ⟨_, by delta stDtb litDtb; dsimp only [fnBody]⟩

/-- a zip just handed out its tuple: the loop lets it go -/
theorem zip_lot {w : World} {A : Around} {E : Value → Shared → Prop} {s : Shared} {z ti to Tp : Addr} {elts : List Expr} {x1} {pos : Pos} {Q : Unit → Shared → Prop} (hz : s.heap.get? z = some (zObj (rawInt Tp) ti to))
    (hQ : ∀ h', h'.get? z = some (zObj .none ti to) → Heap.SameBut z s.heap h' → Q () { s with heap := h' }) : wpAny (M w) A (letOwnedTupleGo (.Tuple elts x1 pos) (.ref z) (.ref Tp)) Q E s := by
  unfold letOwnedTupleGo
  refine wpAny_bind (wpAny_load hz ?_)
  show wpAny _ _ (if (["enumerate", "zip", "dict_itemiterator", "dict_reverseitemiterator", "odict_iterator", "itertools.zip_longest", "itertools.pairwise"].contains "zip" &&
      (#[rawInt Tp, .bool false, .bool false, .ref ti, .ref to] : Array Value)[0]? == some (rawInt Tp)) = true then _ else _) Q E s
  rw [if_pos (by simp)]
  refine wpAny_bind (wpAny_rule ?_)
  show wpAny _ _ (setField (.ref z) 0 .none) Q E s
  exact wpAny_setField_rec hz (by simp) fun h' hz' hs' => hQ h' hz' hs'

theorem none_list {w : World} {A : Around} {E : Value → Shared → Prop} {s : Shared} {env : Env} {L : Addr} {m : Str → Option Value} {h : Heap} {g : Array GenState} {d : Drawn} {tk : Nat} {o : OsState} {p1 pos : Pos} {k1} {Q : Value → Shared → Prop}
    (B : BdH s L m h g d o) (k : ∀ h' D, BdH s L m h' g d o → h'.get? D = some (listOf #[Value.none] 0) → Q (.ref D) ⟨h', g, d, tk, o⟩) :
    wpAny (M w) A (eval (.List [.Constant .none k1 p1] pos) env) Q E ⟨h, g, d, tk, o⟩ := by
  refine wpAny_List ?_
  walk_at "as"
  exact ⟨by decide, k _ _ (B.step (AdvH.push _)) (Heap.get?_push_size _ rfl)⟩

/-- what stands at the places behind k stores -/
def layF (n : Nat) (ps : List Int) (t : Array UInt8) : Nat → Nat → Option Int
  | 0 => fun _ => none
  | k + 1 => fun i => if i = ixP n (ps.getD k 0) then some (byteAt t k) else layF n ps t k i
structure BufAre (n : Nat) (vs : List Value) (F : Nat → Option Int) : Prop where
  len : vs.length = n
  non : ∀ i, i < n → F i = none → vs[i]? = some .none
  int : ∀ i, i < n → ∀ z, F i = some z → ∃ t, vs[i]? = some (.int z t)
theorem BufAre.zero (n : Nat) (ps : List Int) (t : Array UInt8) : BufAre n (List.replicate n Value.none) (layF n ps t 0) :=
  ⟨by simp, fun i hi _ => by simp [hi], fun i hi z e => by cases e⟩
theorem BufAre.store {n k : Nat} {ps : List Int} {t : Array UInt8} {vs : List Value} {u : Tok} (b : BufAre n vs (layF n ps t k)) (h : inR n (ps.getD k 0)) :
    BufAre n (vs.set (ixP n (ps.getD k 0)) (.int (byteAt t k) u)) (layF n ps t (k + 1)) := by
  have lt := ixP_lt h
  refine ⟨by simp [b.len], fun i hi e => ?_, fun i hi z e => ?_⟩
  · unfold layF at e
    by_cases q : i = ixP n (ps.getD k 0)
    · rw [if_pos q] at e; cases e
    · rw [if_neg q] at e
      rw [List.getElem?_set_ne (Ne.symm q)]
      exact b.non i hi e
  · unfold layF at e
    by_cases q : i = ixP n (ps.getD k 0)
    · rw [if_pos q] at e
      cases e
      rw [q]
      exact ⟨u, by rw [List.getElem?_set_self (by rw [b.len]; exact lt)]⟩
    · rw [if_neg q] at e
      rw [List.getElem?_set_ne (Ne.symm q)]
      exact b.int i hi z e
theorem layF_rng {n : Nat} {ps : List Int} {t : Array UInt8} : ∀ {k i : Nat} {z : Int}, layF n ps t k i = some z → 0 ≤ z ∧ z < 256
  | k + 1, i, z, e => by
    unfold layF at e
    split at e
    · cases e; exact byteAt_rng _ _
    · exact layF_rng e

theorem ints_of : ∀ {vs : List Value} {ns : List Int}, vs.length = ns.length → (∀ i, i < ns.length → ∃ t, vs[i]? = some (.int (ns.getD i 0) t)) → IntsAre vs ns
  | [], [], _, _ => .nil
  | v :: vs, n :: ns, e, h => by
    obtain ⟨t, ht⟩ := h 0 (by simp)
    have : v = .int n t := by simpa using ht
    subst this
    exact .cons n t (ints_of (by simpa using e) fun i hi => by
      obtain ⟨t', h'⟩ := h (i + 1) (by simpa using hi)
      exact ⟨t', by simpa using h'⟩)
  | [], _ :: _, e, _ => by simp at e
  | _ :: _, [], e, _ => by simp at e
theorem least {P : Nat → Prop} : ∀ n, (∃ i, i < n ∧ P i) → ∃ i, i < n ∧ P i ∧ ∀ j, j < i → ¬ P j
  | 0, ⟨_, h, _⟩ => absurd h (Nat.not_lt_zero _)
  | n + 1, ⟨i, hi, hp⟩ => by
    by_cases q : ∃ i, i < n ∧ P i
    · obtain ⟨j, a, b, c⟩ := least n q
      exact ⟨j, Nat.lt_succ_of_lt a, b, c⟩
    · have : i = n := by
        rcases Nat.lt_or_ge i n with h | h
        · exact absurd ⟨i, h, hp⟩ q
        · exact Nat.le_antisymm (Nat.le_of_lt_succ hi) h
      subst this
      exact ⟨i, hi, hp, fun j hj hpj => q ⟨j, hj, hpj⟩⟩
theorem zap_of (n l : Nat) (h : l < n) : ZAp (n + 4) (n + 2) (n + 3) n (n + 1) l := by
  constructor <;> (show (_ : Nat) ≠ _) <;> omega
theorem BdH.above {s : Shared} {L : Addr} {m : Str → Option Value} {h : Heap} {g : Array GenState} {d : Drawn} {o : OsState} (B : BdH s L m h g d o) {q : Addr} (hq : h.objs.size ≤ q) : s.heap.get? q = none := by
  cases z : s.heap.get? q with
  | none => rfl
  | some y => exact absurd (Heap.lt_size (B.adv.keep q y (ne_T (Nat.le_trans B.big hq)) z)) (Nat.not_lt.mpr hq)

theorem as_pairK {w : World} {A : Around} {E : Value → Shared → Prop} {s : Shared} {env : Env} {L t : Addr} {m : Str → Option Value} {h : Heap} {g : Array GenState} {d : Drawn} {tk : Nat} {o : OsState} {x y : Str} {v1 v2 : Value} {p1 p2 pos : Pos} {k : Nat} {Q : Unit → Shared → Prop}
    (hh : A.handled = none) (B : BdH s L m h g d o) (ht : h.get? t = some { cls := .type "tuple", data := .seq #[v1, v2] })
    (kk : ∀ h' tk', BdH s L (upd (upd m x v1) y v2) h' g d o → (∀ q o, q ≠ L → h.get? q = some o → h'.get? q = some o) → Q () ⟨h', g, d, tk', o⟩)
    (hL : env.locals = L := by kernel_rfl) (hk : env.scope.kind = .function := by kernel_rfl) (hx : env.kindOf x = some .local := by kernel_rfl) (hy : env.kindOf y = some .local := by kernel_rfl) :
    wpAny (M w) A (assign (.Tuple [.Name x p1, .Name y p2] k pos) env (.ref t)) Q E ⟨h, g, d, tk, o⟩ := by
  refine assign_Tuple_tuple (s := ⟨h, g, d, tk, o⟩) hh ⟨_, ht, rfl, _, rfl⟩ rfl rfl fun h₁ he => ?_
  have k₁ : ∀ b o, h.get? b = some o → h₁.get? b = some o := fun b o e => he b o (Nat.ne_of_lt (Heap.lt_size e)) e
  have B₁ : BdH s L m h₁ g d o := B.step (AdvH.ext k₁)
  refine assignInOrder_cons (assign_Name (stL B₁ (fun h₂ tk₂ B₂ sb₂ => ?_) hL hk hx))
  refine assignInOrder_cons (assign_Name (stL B₂ (fun h₃ tk₃ B₃ sb₃ => ?_) hL hk hy))
  exact assignInOrder_nil (kk _ _ B₃ fun q o hq e => (sb₃.2 _ hq).trans ((sb₂.2 _ hq).trans (k₁ q o e)))

structure DtI (s : Shared) (L l D z ti to i1 i2 x : Addr) (b tb : Array UInt8) (ub u : Tok) (ps : List Int) (k : Nat) (h : Heap) (g : Array GenState) (d : Drawn) (o : OsState) : Prop where
  le : k ≤ ps.length ∧ k ≤ tb.size
  ok : ∀ j, j < k → inR ps.length (ps.getD j 0)
  fr : ∃ m, BdH s L m h g d o ∧ m "buf" = some (.ref D)
  zip : ZipAt h z ti to i1 i2 l tb u k
  buf : ∃ vs, LstAt h D vs ∧ BufAre ps.length vs (layF ps.length ps tb k)

theorem dec_size {cm : Array UInt8} {big : Bool} {b : Array UInt8} : (decB cm big b).size ≤ b.size := by
  unfold decB
  rw [byteArr_size, zs_len]
  exact Nat.le_trans (dec_len _ _) (by simp)

set_option maxHeartbeats 8000000 in
theorem dtb_ok {w : World} {A : Around} {E : Value → Shared → Prop} {s : Shared} {K : Frag} {mg mb : Str → Option Value} {Q : Value → Shared → Prop} {x l : Addr} {a : EngA} {cm b : Array UInt8} {big : Bool} {u : Tok} {pm code : Value} {vs : List Value} {ps : List Int} {base : Heap} {outer : List Env}
    (hh : A.handled = none) (hroom : A.depth + 3 < recursionLimit) (G : Gl mg mb s.heap) (N : Nm mg) (Cl : ClsOk K) (X : K.In s.heap) (e : Eng w s.heap x a cm big) (hF : Fns s.heap) (hdec : FnE s.heap 93 stDec "Base64Engine.decode_bytes") (hf : FnAt s.heap 158 stDtb "Base64Engine.decode_transposed_bytes" pm code)
    (hcm : cm.size = 64) (hb : b.size ≤ 64) (h1 : b.size % 4 ≠ 1) (hin : ∀ c ∈ b.toList, c.toNat ∈ bl cm) (hl : LstAt s.heap l vs) (hi : IntsAre vs ps) (hsm : ∀ p ∈ ps, -1000 ≤ p ∧ p ≤ 1000) (hlen : ps.length ≤ 64)
    (Bl : Below A base outer s.heap) (hTb : base.get? T = none) (hcode : ∃ ps, TabOk s.heap ps)
    (hQ : (∀ k, k < ps.length → k < (decB cm big b).size → inR ps.length (ps.getD k 0)) → (∀ i, i < ps.length → layF ps.length ps (decB cm big b) (min ps.length (decB cm big b).size) i ≠ none) →
      ∀ s' t, Adv s s' → Q (.bytes (byteArr ((List.range ps.length).map fun i => (layF ps.length ps (decB cm big b) (min ps.length (decB cm big b).size) i).getD 0)) t) s')
    (hI : ∀ k, k < ps.length → k < (decB cm big b).size → ¬ inR ps.length (ps.getD k 0) → ∀ h' n tk' ex, AdvX base outer ex "IndexError" s.heap h' → E (.ref ex) ⟨h', s.gens ++ Array.replicate n .finished, s.drawn, tk', s.os⟩)
    (hT : (∀ k, k < ps.length → k < (decB cm big b).size → inR ps.length (ps.getD k 0)) → ∀ i, i < ps.length → layF ps.length ps (decB cm big b) (min ps.length (decB cm big b).size) i = none →
      ∀ h' n tk' ex, AdvX base outer ex "TypeError" s.heap h' → E (.ref ex) ⟨h', s.gens ++ Array.replicate n .finished, s.drawn, tk', s.os⟩) :
    wpAny (M w) A (call (.ref 158) [.ref x, .bytes b u, .ref l]) Q E s := by
  refine enter (by omega) G hf bodDtb.2 (binds := [("self", .ref x), ("source", .bytes b u), ("offsets", .ref l)]) rfl (by decide) rfl (fun h₁ L tk A' eA dA hA B => ?_)
  have fr' : A'.frames = some (callEnv (fd stDtb "Base64Engine.decode_transposed_bytes" pm code) L 158 :: outer) := by rw [eA]; exact Around.frames_deeper Bl.stack
  delta bodDtb
  dsimp only
  walk_at "as"
  refine rdL B (by walk_at "lk") ?_
  have e₁ := e.adv B.adv
  refine eng_meth Cl (kin_adv Cl X B.adv) e₁ Cl.f2 Cl.t2 e₁.m2 ?_
  dsimp only
  obtain ⟨pmD, codD, hD⟩ := id hdec
  with_reducible refine cw_def (hD.adv B.adv) ?_
  walk_at "as"
  refine rdL B (by walk_at "lk") ?_
  walk_at "as"
  dsimp only [List.cons_append, List.nil_append]
  refine ⟨hD.adv B.adv, ?_⟩
  refine dec_ok (by rw [hA]; exact hh) (by omega) (G.adv B.adv) N Cl (kin_adv Cl X B.adv) e₁ (hF.adv B.adv) (hdec.adv B.adv) hcm hb h1 hin fun s₂ t₂ ad => ?_
  obtain ⟨h₂, g₂, d₂, tk₂, o₂⟩ := s₂
  have B₂ := B.step ad
  refine stL B₂ fun h₃ tk₃ B₃ sb₃ => ?_
  clear B₂ ad e₁
  generalize htb : decB cm big b = tb at *
  have htz : tb.size ≤ 64 := by rw [← htb]; exact Nat.le_trans dec_size hb
  refine wpAny_execs_cons (xAssign (wpAny_BinOp (none_list B₃ fun h₄ D₀ B₄ hD₀ => ?_)))
  walk_at "as"
  with_reducible refine rdB (G.adv B₄.adv) N.len b_len ?_
  walk_at "as"
  with_reducible refine rdL B₄ (by walk_at "lk") ?_
  walk_at "as"
  dsimp only [List.nil_append]
  have hvz : vs.toArray.size = ps.length := by simpa using ints_len hi
  refine call_len_list (hl.adv B₄.adv).is (by rw [hvz]; omega) ?_
  refine mul_none (n := ps.length) hD₀ (by rw [hvz]) (by omega) ?_
  have B₅ := B₄.step (AdvH.push (g := g₂) (d := d₂) (o := o₂) (listOf (List.replicate ps.length Value.none).toArray 0))
  have lD : LstIn s L (h₄.push (listOf (List.replicate ps.length Value.none).toArray 0)) h₄.objs.size (List.replicate ps.length Value.none) := ⟨⟨0, Heap.get?_push_size _ rfl⟩, B₄.fresh, Nat.ne_of_gt B₄.new, B₄.big⟩
  dsimp only
  generalize h₄.push (listOf (List.replicate ps.length Value.none).toArray 0) = h₅ at B₅ lD
  generalize h₄.objs.size = D at lD
  refine stL B₅ fun h₆ tk₆ B₆ sb₆ => ?_
  replace lD := lD.same sb₆ lD.ne
  walk_at "as"
  with_reducible refine rdB (G.adv B₆.adv) N.zip b_zip ?_
  walk_at "as"
  with_reducible refine rdL B₆ (by walk_at "lk") ?_
  walk_at "as"
  with_reducible refine rdL B₆ (by walk_at "lk") ?_
  walk_at "as"
  dsimp only [List.nil_append]
  refine call_zip_lb (s := ⟨h₆, g₂, d₂, _, o₂⟩) (hl.adv B₆.adv).is fun h₇ kp₇ Z₇ z₇ => ?_
  dsimp only at kp₇ Z₇ z₇ ⊢
  have B₇ := B₆.step (AdvH.ext (g := g₂) (d := d₂) (o := o₂) kp₇)
  refine wpAny_pyIter_zip Z₇.z ?_
  have ltl : l < h₆.objs.size := let ⟨_, e, _⟩ := (hl.adv B₆.adv).is; Heap.lt_size e
  have ltD : D < h₆.objs.size := let ⟨_, e⟩ := lD.obj; Heap.lt_size e
  have ZD := zap_of _ _ ltl
  have hwr : ∀ q ∈ [h₆.objs.size + 4, h₆.objs.size + 3, h₆.objs.size, h₆.objs.size + 1], s.heap.get? q = none ∧ 262 ≤ q ∧ q ≠ L := by
    intro q hq
    have hge : h₆.objs.size ≤ q := by
      simp only [List.mem_cons, List.not_mem_nil, or_false] at hq
      rcases hq with rfl | rfl | rfl | rfl
      · exact Nat.le_add_right _ _
      · exact Nat.le_add_right _ _
      · exact Nat.le_refl _
      · exact Nat.le_add_right _ _
    exact ⟨B₆.above hge, Nat.le_trans B₆.big hge, Nat.ne_of_gt (Nat.lt_of_lt_of_le B₆.new hge)⟩
  have nDz : ∀ q, h₆.objs.size ≤ q → D ≠ q := fun q hq => Nat.ne_of_lt (Nat.lt_of_lt_of_le ltD hq)
  have htiL : h₆.objs.size + 2 ≠ L := Nat.ne_of_gt (Nat.lt_of_lt_of_le B₆.new (Nat.le_add_right _ _))
  have nDt : D ≠ h₆.objs.size + 2 := nDz _ (Nat.le_add_right _ _)
  generalize hz : h₆.objs.size + 4 = z at Z₇ ZD hwr
  generalize hti : h₆.objs.size + 2 = ti at Z₇ ZD htiL nDt
  generalize hto : h₆.objs.size + 3 = to at Z₇ ZD hwr
  generalize hi2 : h₆.objs.size + 1 = i2 at Z₇ ZD hwr
  generalize hi1 : h₆.objs.size = i1 at Z₇ ZD hwr nDz ltl ltD
  have nD1 : D ≠ i1 := nDz _ (Nat.le_refl _)
  have nD2 : D ≠ i2 := nDz _ (by rw [← hi2, hi1]; exact Nat.le_add_right _ _)
  have nDo : D ≠ to := nDz _ (by rw [← hto, hi1]; exact Nat.le_add_right _ _)
  have nDzz : D ≠ z := nDz _ (by rw [← hz, hi1]; exact Nat.le_add_right _ _)
  have lD₇ : LstIn s L h₇ D (List.replicate ps.length Value.none) := lD.adv (AdvH.ext (g := g₂) (d := d₂) (o := o₂) kp₇)
  have oldD := lD.old
  have neD := lD.ne
  have hha : A'.handled = none := by rw [hA]; exact hh
  have fin : ∀ (h : Heap) (g : Array GenState) (d : Drawn) (o : OsState) (m : Str → Option Value), BdH s L m h g d o → ∃ n, g = s.gens ++ Array.replicate n .finished ∧ d = s.drawn ∧ o = s.os := fun h g d o m B =>
    let ⟨n, e⟩ := B.adv.gens; ⟨n, e, B.adv.drawn, B.adv.os⟩
  clear hz hti hto hi2 hi1 nDz z₇ kp₇ B₆ sb₆ lD B₅ B₄ hD₀ B₃ sb₃
  refine codeAny_forLoop_any (fun n c => ∃ k, n = min ps.length tb.size - k ∧ DtI s L l D z ti to i1 i2 x b tb u t₂ ps k c.heap c.gens c.drawn c.os) ?_ (min ps.length tb.size)
    ⟨0, rfl, ⟨Nat.zero_le _, Nat.zero_le _⟩, fun j hj => absurd hj (Nat.not_lt_zero _), ⟨_, B₇, by walk_at "lk"⟩, Z₇, _, lD₇.lst, BufAre.zero _ _ _⟩
  rintro n ⟨h, g, d, t, o⟩ ⟨k, rfl, le, ok, ⟨m, B, m1⟩, Z, ⟨us, I, bu⟩⟩
  dsimp only at B Z I
  by_cases hlt : k < ps.length ∧ k < tb.size
  · obtain ⟨tk, hv⟩ := ints_at hi k hlt.1
    obtain ⟨c, hc, hc'⟩ := byteAt_of hlt.2
    refine zip_nxt (s := ⟨h, g, d, t, o⟩) Z ZD (hl.adv B.adv).is (x := .int (ps.getD k 0) tk) (by simpa using hv) hc fun h₁ tk₁ Tp uu a1 a2 a3 a4 a5 a6 a7 a8 => ?_
    dsimp only at a1 a8
    have B₁ : BdH s L m h₁ g d o := B.gens (n := 0) (wr := [z, to, i1, i2]) (fun q o hq e => by
      simp only [List.mem_cons, List.not_mem_nil, or_false, not_or] at hq
      exact a8 q o hq.1 hq.2.1 hq.2.2.1 hq.2.2.2 e) hwr (by simp)
    have I₁ : LstAt h₁ D us := ⟨let ⟨o, e, r⟩ := I.is; ⟨o, a8 _ _ nDzz nDo nD1 nD2 e, r⟩, I.hi⟩
    refine zip_lot (s := ⟨h₁, g, d, tk₁, o⟩) a3 fun h₂ hz₂ sb₂ => ?_
    dsimp only at sb₂
    have nTz : Tp ≠ z := fun q => by rw [q, Z.z] at a1; cases a1
    have B₂ := B₁.mut sb₂ (hwr z (by simp)).1 (hwr z (by simp)).2.2 (hwr z (by simp)).2.1
    have I₂ := I₁.same sb₂ nDzz
    have Z₂ : ZipAt h₂ z ti to i1 i2 l tb t₂ (k + 1) := ⟨hz₂, (sb₂.2 _ ZD.tiz).trans a4, let ⟨x, y, e⟩ := a5; ⟨x, y, (sb₂.2 _ ZD.toz).trans e⟩, let ⟨o, e, r⟩ := a6; ⟨o, (sb₂.2 _ ZD.i1z).trans e, r⟩, (sb₂.2 _ ZD.i2z).trans a7⟩
    rw [hc'] at a2
    have a2' := (sb₂.2 _ nTz).trans a2
    refine as_pairK hha B₂ a2' fun h₃ tk₃ B₃ k₃ => ?_
    have I₃ : LstAt h₃ D us := ⟨let ⟨o, e, r⟩ := I₂.is; ⟨o, k₃ _ _ neD e, r⟩, I.hi⟩
    have Z₃ : ZipAt h₃ z ti to i1 i2 l tb t₂ (k + 1) := ⟨k₃ _ _ (hwr z (by simp)).2.2 Z₂.z, k₃ _ _ htiL Z₂.ti, let ⟨x, y, e⟩ := Z₂.to; ⟨x, y, k₃ _ _ (hwr to (by simp)).2.2 e⟩, let ⟨o, e, r⟩ := Z₂.i1; ⟨o, k₃ _ _ (hwr i1 (by simp)).2.2 e, r⟩, k₃ _ _ (hwr i2 (by simp)).2.2 Z₂.i2⟩
    generalize hm3 : upd (upd m "off" _) "char" _ = m3 at B₃
    have n1 : m3 "buf" = some (.ref D) := by subst hm3; walk_at "lk"
    have n2 : m3 "off" = some (.int (ps.getD k 0) tk) := by subst hm3; walk_at "lk"
    have n3 : m3 "char" = some (.int (byteAt tb k) uu) := by subst hm3; walk_at "lk"
    clear hm3
    refine wpAny_execs_cons (wpAny_Assign_Subscript ?_)
    refine rdL B₃ n3 (rdL B₃ n1 (rdL B₃ n2 ?_))
    have hpm : ps.getD k 0 ∈ ps := mem_getD hlt.1
    have hus : us.toArray.size = ps.length := by simpa using bu.len
    by_cases hin' : inR ps.length (ps.getD k 0)
    · refine set_in I₃.is (hsm _ hpm) (by rw [hus]; exact hin') fun h₄ l₄ sb₄ => ?_
      repeat with_reducible refine wpAny_execs_nil ?_
      refine ⟨min ps.length tb.size - (k + 1), by omega, k + 1, rfl, ⟨hlt.1, hlt.2⟩, fun j hj => ?_, ⟨m3, B₃.mut sb₄ oldD neD I.hi, n1⟩, ?_, ?_⟩
      · rcases Nat.lt_succ_iff_lt_or_eq.mp hj with h | h
        · exact ok j h
        · rw [h]; exact hin'
      · exact ⟨(sb₄.2 _ (Ne.symm nDzz)).trans Z₃.z, (sb₄.2 _ (Ne.symm nDt)).trans Z₃.ti, let ⟨x, y, e⟩ := Z₃.to; ⟨x, y, (sb₄.2 _ (Ne.symm nDo)).trans e⟩, let ⟨o, e, r⟩ := Z₃.i1; ⟨o, (sb₄.2 _ (Ne.symm nD1)).trans e, r⟩, (sb₄.2 _ (Ne.symm nD2)).trans Z₃.i2⟩
      · refine ⟨us.set (ixP ps.length (ps.getD k 0)) (.int (byteAt tb k) uu), ⟨?_, I.hi⟩, bu.store hin'⟩
        rw [hus] at l₄
        simpa using l₄
    · refine set_out hha I₃.is (hsm _ hpm) (by rw [hus]; exact hin') fun h₄ tk₄ ex ne => ?_
      obtain ⟨base', st', ff', out⟩ := out_of (X := "IndexError") (e := ex) (env := callEnv (fd stDtb "Base64Engine.decode_transposed_bytes" pm code) L 158) B₃ Bl hTb hcode rfl rfl
      unfold notedBy
      refine note_fresh (s := ⟨h₄, g, d, tk₄, o⟩) fr' ff' rfl st' ne fun h₅ z₅ => ?_
      refine back_held (s := ⟨h₅, g, d, tk₄, o⟩) rfl z₅ fun h₆ z₆ => ?_
      refine leave_held (s := ⟨h₆, g, d, tk₄, o⟩) rfl z₆ fun h₇ z₇ => ?_
      obtain ⟨n, rfl, rfl, rfl⟩ := fin _ _ _ _ _ B₃
      exact hI k hlt.1 hlt.2 hin' _ _ _ _ (out _ z₇)
  · have hend : vs.toArray[k]? = none ∨ tb[k]? = none := by
      rcases Classical.not_and_iff_not_or_not.mp hlt with h | h
      · exact .inl (Array.getElem?_eq_none (by omega))
      · exact .inr (Array.getElem?_eq_none (by omega))
    refine zip_stop (s := ⟨h, g, d, t, o⟩) hha Z ZD (hl.adv B.adv).is hend fun h₁ a8 => ?_
    dsimp only at a8 ⊢
    have B₁ : BdH s L m h₁ g d o := B.gens (n := 0) (wr := [z, to, i1, i2]) (fun q o hq e => by
      simp only [List.mem_cons, List.not_mem_nil, or_false, not_or] at hq
      exact a8 q o hq.1 hq.2.1 hq.2.2.1 hq.2.2.2 e) hwr (by simp)
    have I₁ : LstAt h₁ D us := ⟨let ⟨o, e, r⟩ := I.is; ⟨o, a8 _ _ nDzz nDo nD1 nD2 e, r⟩, I.hi⟩
    have hk : k = min ps.length tb.size := by omega
    rw [hk] at bu ok
    have hall : ∀ j, j < ps.length → j < tb.size → inR ps.length (ps.getD j 0) := fun j h1 h2 => ok j (by omega)
    walk_at "as"
    with_reducible refine rdG (G.adv B₁.adv) N.jbe ?_
    walk_at "as"
    with_reducible refine rdL B₁ m1 ?_
    walk_at "as"
    dsimp only [List.nil_append]
    by_cases hno : ∃ i, i < ps.length ∧ layF ps.length ps tb (min ps.length tb.size) i = none
    · obtain ⟨i, hi1, hi2, hi3⟩ := least _ hno
      refine bytes_none (n := i) hha I₁.is (bu.non i hi1 hi2) (fun j hj => ?_) (by omega) fun h₂ h₃ tk₃ ex kp₂ ne => ?_
      · cases hz : layF ps.length ps tb (min ps.length tb.size) j with
        | none => exact absurd hz (hi3 j hj)
        | some z =>
          obtain ⟨t, ht⟩ := bu.int j (by omega) z hz
          exact ⟨z, t, ht, layF_rng hz⟩
      · have B₂ := B₁.step (AdvH.ext (g := g) (d := d) (o := o) kp₂)
        obtain ⟨base', st', ff', out⟩ := out_of (X := "TypeError") (e := ex) (env := callEnv (fd stDtb "Base64Engine.decode_transposed_bytes" pm code) L 158) B₂ Bl hTb hcode rfl rfl
        refine leave_fresh (s := ⟨h₃, g, d, tk₃, o⟩) fr' ff' rfl st' ne fun h₇ z₇ => ?_
        obtain ⟨n, rfl, rfl, rfl⟩ := fin _ _ _ _ _ B₂
        exact hT hall i hi1 hi2 _ _ _ _ (out _ z₇)
    · have hok : ∀ i, i < ps.length → layF ps.length ps tb (min ps.length tb.size) i ≠ none := fun i h1 h2 => hno ⟨i, h1, h2⟩
      refine call_bytes_ints (ns := (List.range ps.length).map fun i => (layF ps.length ps tb (min ps.length tb.size) i).getD 0) I₁.is (ints_of (by simp [bu.len]) fun i hi => ?_) (fun z hz => ?_) (by rw [bu.len, sizeLine_eq]; omega) hha fun h₂ t₃ tk₂ kp₂ => ?_
      · simp only [List.length_map, List.length_range] at hi
        cases hz : layF ps.length ps tb (min ps.length tb.size) i with
        | none => exact absurd hz (hok i hi)
        | some z =>
          obtain ⟨t, ht⟩ := bu.int i hi z hz
          exact ⟨t, by rw [ht]; simp [List.getD_eq_getElem?_getD, hi, hz]⟩
      · obtain ⟨i, hi, rfl⟩ := List.mem_map.1 hz
        cases hz : layF ps.length ps tb (min ps.length tb.size) i with
        | none => exact ⟨Int.le_refl _, by decide⟩
        | some z => exact layF_rng hz
      · have B₂ := B₁.step (AdvH.ext (g := g) (d := d) (o := o) kp₂)
        exact hQ hall hok ⟨h₂, g, d, tk₂, o⟩ t₃ B₂.adv
/-! F29 -/
/-- how a call that may catch moves the state: the frames in fs but for their slots, and the table at T -/
structure AdvC (fs : List Addr) (s s' : Shared) : Prop where
  keep : ∀ b o, b ≠ T → b ∉ fs → s.heap.get? b = some o → s'.heap.get? b = some o
  slots : ∀ b o, b ≠ T → s.heap.get? b = some o → (∀ vs, o.data ≠ .fields vs) → ∃ sl, s'.heap.get? b = some { o with slots := sl }
  gens : ∃ k, s'.gens = s.gens ++ Array.replicate k .finished
  drawn : s'.drawn = s.drawn
  os : s'.os = s.os
  tab : ∀ ps, TabOk s.heap ps → ∃ ps', TabOk s'.heap ps'
theorem AdvC.of {s s' : Shared} (fs : List Addr) (a : Adv s s') : AdvC fs s s' :=
  ⟨fun b o h _ e => a.keep b o h e, fun b o h e _ => ⟨o.slots, a.keep b o h e⟩, a.gens, a.drawn, a.os, a.tab⟩

theorem Gl.low {mg mb : Str → Option Value} {h h' : Heap} (G : Gl mg mb h) (k : ∀ b o, b < 262 → b ≠ T → h.get? b = some o → h'.get? b = some o) : Gl mg mb h' :=
  ⟨let ⟨o, e⟩ := G.top; ⟨o, k _ o (by decide) (by decide) e⟩, ns_keep G.g fun o e => k _ o (by decide) (by decide) e, ns_keep G.b fun o e => k _ o (by decide) (by decide) e, G.bi, let ⟨mc, a, b⟩ := G.lim; ⟨mc, ns_keep a fun o e => k _ o (by decide) (by decide) e, b⟩⟩

/-- the base that a callee of the frame at L may count on -/
theorem base_of {s : Shared} {L : Addr} {m : Str → Option Value} {hN : Heap} {g : Array GenState} {d : Drawn} {o : OsState} {base : Heap} {env : Env} {outer : List Env} (B : BdH s L m hN g d o) (hff : s.heap.FunFrames base outer) (hcode : ∃ ps, TabOk s.heap ps)
    (hf : env.frame = some L) (hk : env.scope.kind = .function) :
    ∃ base' : Heap, base'.StaysIn hN ∧ hN.FunFrames base' (env :: outer) ∧ base'.get? T = none ∧ ∀ b o, b ≠ T → b ∉ (env :: outer).filterMap (·.frame) → hN.get? b = some o → base'.get? b = some o := by
  obtain ⟨psT, icT⟩ := hcode
  have nfT : ∀ o, s.heap.get? T = some o → ∃ vs, o.data = .fields vs := by
    intro o q
    rw [icT.2.2] at q; cases q; exact ⟨_, rfl⟩
  have kH : ∀ q o, s.heap.get? q = some o → (∀ vs, o.data ≠ .fields vs) → hN.get? q = some o := fun q o e nf =>
    B.adv.keep q o (fun z => by rw [z] at e; obtain ⟨vs, d⟩ := nfT o e; exact nf _ d) e
  have fr : hN.FunFrames ⟨#[], hN.life⟩ (env :: outer) := by
    have none : ∀ q, (⟨#[], hN.life⟩ : Heap).get? q = none := fun q => Heap.get?_none_of_le (Nat.zero_le _)
    refine ⟨by rw [hk]; decide, ⟨L, ?_⟩, (funFrames_base (base := ⟨#[], hN.life⟩) (fun b o e => by rw [none] at e; cases e) (hff.of_keeps fun q o e nf => ⟨o, kH q o e nf, rfl⟩))⟩
    obtain ⟨oL, es, ep, eL', eD, _⟩ := B.ns
    exact ⟨oL, hf, none _, eL', fun vs => by rw [eD]; exact fun q => (nomatch q)⟩
  refine ⟨hideAll hN (T :: (env :: outer).filterMap (·.frame)), fun q o e => of_hideAll _ e, funFrames_hide fr fun env he q hq => List.mem_cons_of_mem _ (List.mem_filterMap.mpr ⟨env, he, hq⟩), hideAll_none _ (List.mem_cons_self ..), fun b o h1 h2 e => hideAll_get _ e ?_⟩
  simp only [List.mem_cons, not_or]
  exact ⟨h1, h2⟩

def litTold : { st : Stmt // stmtAt 21 = st } := ⟨_, by
  delta stmtAt prog PySem.Challenge.pw_aj5032_01
  dsimp only [List.getElem?_cons_succ, List.getElem?_cons_zero, Option.getD_some]⟩
abbrev stTold : Stmt := litTold.1
def bodTold : { b : List Stmt // fnBody stTold = b } := ⟨_, by delta stTold litTold; dsimp only [fnBody]⟩

theorem sub_ie_base : isSubtype (.type "IndexError") (.type "BaseException") = pure true := by rw [isSubtype_type]; kernel_rfl
theorem sub_te_base : isSubtype (.type "TypeError") (.type "BaseException") = pure true := by rw [isSubtype_type]; kernel_rfl
theorem sub_ie_ie : isSubtype (.type "IndexError") (.type "IndexError") = pure true := by rw [isSubtype_type]; kernel_rfl
theorem sub_te_ie : isSubtype (.type "TypeError") (.type "IndexError") = pure false := by rw [isSubtype_type]; kernel_rfl
theorem sub_te_te : isSubtype (.type "TypeError") (.type "TypeError") = pure true := by rw [isSubtype_type]; kernel_rfl
theorem meta_ie : isSubtype (.type ((Manifest.find? "IndexError").elim "type" fun x => x.metatype)) (.type "tuple") = pure false := by rw [isSubtype_type]; kernel_rfl
theorem meta_te : isSubtype (.type ((Manifest.find? "TypeError").elim "type" fun x => x.metatype)) (.type "tuple") = pure false := by rw [isSubtype_type]; kernel_rfl

theorem Rz.typ {base hN : Heap} {l : List Env} {e : Addr} {X : String} {s : Shared} (z : Rz base l e X hN s.heap) : s.TypeIs (.ref e) X := by
  obtain ⟨oe, vs, T', oT, ts, he, hcl, _⟩ := z.tr
  exact ⟨oe, he, hcl⟩

theorem Rz.hz {base hN h : Heap} {l : List Env} {e : Addr} {X : String} (z : Rz base l e X hN h) : Hz base l e X .none hN h := by
  obtain ⟨oe, vs, T', oT, ts, he, hcl, hd, h1, r⟩ := z.tr
  have hsz : 0 < vs.size := Nat.lt_of_le_of_lt (Nat.zero_le _) (Array.getElem?_eq_some_iff.mp h1).1
  exact ⟨z.stays, z.ff, ⟨vs[0], oe, vs, T', oT, ts, he, ⟨hcl, Array.getElem?_eq_getElem hsz⟩, hd, h1, r⟩, z.new, z.old⟩

theorem triples_0 {l : List Value} (h : TriplesOk l) : l[0]? ≠ some .none := by
  fun_cases TriplesOk l with
  | case1 => simp
  | case2 a t b u x rest => simp
  | case3 l h1 h2 => exact (by simpa [TriplesOk] using h)
theorem triples_3 {l : List Value} (h : TriplesOk l) : l[3]? ≠ some .none := by
  fun_cases TriplesOk l with
  | case1 => simp
  | case2 a t b u x rest => 
    have := triples_0 (l := rest) h
    simpa using this
  | case3 l h1 h2 => exact (by simpa [TriplesOk] using h)

/-- the table is as good as of old -/
theorem Rz.rebase {base hN h : Heap} {l : List Env} {e : Addr} {X : String} {ps : Array Value} (z : Rz base l e X hN h) (i : TabOk h ps) (h150 : ∃ o, base.get? 150 = some o) :
    ∃ base2 : Heap, base.StaysIn base2 ∧ Rz base2 l e X hN h ∧ TabOk base2 ps := by
  obtain ⟨oe, vs, T', oT, ts, he, hcl, hd, h1, hnT, hTe, hT, hdT, h3⟩ := z.tr
  obtain ⟨o150, h150⟩ := h150
  have e150 : (150 : Addr) ≠ e := fun q => by rw [q, z.new] at h150; cases h150
  have t150 : (150 : Addr) ≠ T' := fun q => by rw [q, hnT] at h150; cases h150
  have eT : T ≠ e := fun q => by rw [← q, i.2.2] at he; cases he; cases hcl
  have tT : T ≠ T' := fun q => by
    rw [← q, i.2.2] at hT; cases hT
    cases hdT
    obtain ⟨_, _, _, _, _, _, _, _, _, op, _, _, _, _, _, _, _, a, b, tr, _⟩ := i.1
    refine triples_3 tr ?_
    rw [Array.getElem?_toList]; exact h3
  have nf : ∀ q o vs, h.get? q = some o → o.data = .fields vs → q ∉ l.filterMap (·.frame) := fun q o vs a b m => by
    obtain ⟨_, o', a', n⟩ := z.ff.mem m
    rw [a] at a'; cases a'
    exact n _ b
  have get : ∀ q o, h.get? q = some o → q ≠ e → q ≠ T' → q ∉ l.filterMap (·.frame) → (hideAll h (e :: T' :: l.filterMap (·.frame))).get? q = some o := fun q o a n1 n2 n3 => hideAll_get _ a (by
    simp only [List.mem_cons, not_or]
    exact ⟨n1, n2, n3⟩)
  refine ⟨hideAll h (e :: T' :: l.filterMap (·.frame)), fun q o a => get q o (z.stays q o a) (fun y => by rw [y, z.new] at a; cases a) (fun y => by rw [y, hnT] at a; cases a) (fun y => by rw [(z.ff.mem y).1] at a; cases a), ⟨fun q o a => of_hideAll _ a, ?_, ?_, hideAll_none _ (List.mem_cons_self ..), z.old⟩, ?_⟩
  · exact funFrames_hide z.ff fun env he q hq => List.mem_cons_of_mem _ (List.mem_cons_of_mem _ (List.mem_filterMap.mpr ⟨env, he, hq⟩))
  · exact ⟨oe, vs, T', oT, ts, he, hcl, hd, h1, hideAll_none _ (List.mem_cons_of_mem _ (List.mem_cons_self ..)), hTe, hT, hdT, h3⟩
  · obtain ⟨⟨o, vs', file, tf, flags, tg, inF, text, tt, op, e1, d1, r2, r3, r4, r5, r6, e2, d2, r⟩, ⟨o2, vs2, a2, r7, d7, r8⟩, t2⟩ := i
    exact ⟨⟨o, vs', file, tf, flags, tg, inF, text, tt, op, get _ _ e1 e150 t150 (nf _ _ _ e1 d1), d1, r2, r3, r4, r5, r6, get _ _ e2 eT tT (nf _ _ _ e2 d2), d2, r⟩, ⟨o2, vs2, get _ _ a2 e150 t150 (nf _ _ _ a2 d7), r7, d7, r8⟩, get _ _ t2 eT tT (nf _ _ _ t2 rfl)⟩

/-- what _law_told's frame knows when its try catches -/
theorem told_back {s : Shared} {L : Addr} {m : Str → Option Value} {hN : Heap} {base' base2 : Heap} {outer : List Env} {env : Env} {ex : Addr} {X : String} {h₅ : Heap} {n tk : Nat} {psT ps' : Array Value} (B : BdH s L m hN s.gens s.drawn s.os) (hf : env.frame = some L) (icT : TabOk s.heap psT)
    (kb' : ∀ b o, b ≠ T → b ∉ (env :: outer).filterMap (·.frame) → hN.get? b = some o → base'.get? b = some o) (k2 : base'.StaysIn base2) (i2 : TabOk base2 ps') (z : Rz base2 (env :: outer) ex X hN h₅) :
    AdvC (outer.filterMap (·.frame)) s ⟨h₅, s.gens ++ Array.replicate n .finished, s.drawn, tk, s.os⟩ := by
  refine ⟨fun b o hb hfs e => ?_, fun b o hb e nf => z.old b o (B.adv.keep b o hb e) nf, ⟨n, rfl⟩, rfl, rfl, fun ps i => ⟨ps', i2.1.keeps z.stays, i2.2.keeps z.stays⟩⟩
  refine z.stays b o (k2 b o (kb' b o hb ?_ (B.adv.keep b o hb e)))
  rw [List.filterMap_cons, hf]
  simp only [List.mem_cons, not_or]
  exact ⟨fun q => (by rw [q, B.old] at e; cases e), hfs⟩

set_option maxHeartbeats 4000000 in
theorem told_enc {w : World} {A : Around} {E : Value → Shared → Prop} {s : Shared} {K : Frag} {mg mb : Str → Option Value} {Q : Value → Shared → Prop} {f x l : Addr} {a : EngA} {cm b : Array UInt8} {big : Bool} {u : Tok} {pm code pmE : Value} {vs : List Value} {ps : List Int} {base : Heap} {outer : List Env}
    (hh : A.handled = none) (hroom : A.depth + 4 < recursionLimit) (G : Gl mg mb s.heap) (N : Nm mg) (Cl : ClsOk K) (X : K.In s.heap) (e : Eng w s.heap x a cm big) (hF : Fns s.heap) (hbm : BmOk mg s.heap) (hf : FnAt s.heap f stTold "_law_told" pm code) (hE : FnAt s.heap 151 stEtb "Base64Engine.encode_transposed_bytes" pmE (.ref 150))
    (hcode : ∃ ps, TabOk s.heap ps) (hcm : cm.size = 64) (hb : b.size ≤ 64) (hl : LstAt s.heap l vs) (hi : IntsAre vs ps) (hsm : ∀ p ∈ ps, -1000 ≤ p ∧ p ≤ 1000) (hlen : ps.length ≤ 64)
    (hfr : A.frames = some outer) (hff : s.heap.FunFrames base outer) (hfo : ∀ q ∈ outer.filterMap (·.frame), 262 ≤ q)
    (hQ : allIn b ps → ∀ s' t, AdvC (outer.filterMap (·.frame)) s s' → Q (.bytes (encB cm big ((takenTo b ps).map Int.toNat)) t) s')
    (hI : ¬ allIn b ps → ∀ s' t, AdvC (outer.filterMap (·.frame)) s s' → Q (.str "IndexError" t) s') :
    wpAny (M w) A (call (.ref f) [.ref x, .bool false, .bytes b u, .ref l]) Q E s := by
  refine enter (by omega) G hf bodTold.2 (binds := [("engine", .ref x), ("lay", .bool false), ("row", .bytes b u), ("places", .ref l)]) rfl (by decide) rfl (fun h₁ L tk A' eA dA hA B => ?_)
  have fr' : A'.frames = some (callEnv (fd stTold "_law_told" pm code) L f :: outer) := by rw [eA]; exact Around.frames_deeper hfr
  have hha : A'.handled = none := by rw [hA]; exact hh
  obtain ⟨base', st', ff', bT', kb'⟩ := base_of (env := callEnv (fd stTold "_law_told" pm code) L f) B hff hcode rfl rfl
  delta bodTold
  dsimp only
  refine wpAny_execs_cons (wpAny_Try_except ?_)
  walk_at "as"
  refine rdL B (by walk_at "lk") ?_
  walk_at "as"
  rw [if_neg (by decide)]
  walk_at "as"
  refine rdL B (by walk_at "lk") ?_
  have e₁ := e.adv B.adv
  refine eng_meth Cl (kin_adv Cl X B.adv) e₁ Cl.f3 Cl.t3 e₁.m3 ?_
  dsimp only
  with_reducible refine cw_def (hE.adv B.adv) ?_
  walk_at "as"
  refine rdL B (by walk_at "lk") ?_
  walk_at "as"
  refine rdL B (by walk_at "lk") ?_
  walk_at "as"
  dsimp only [List.cons_append, List.nil_append]
  refine ⟨hE.adv B.adv, ?_⟩
  obtain ⟨ps₀, ic₀⟩ := id hcode
  refine etb_ok (outer := callEnv (fd stTold "_law_told" pm code) L f :: outer) (base := base') hha (by omega) (G.adv B.adv) N Cl (kin_adv Cl X B.adv) e₁ (hF.adv B.adv) (hbm.adv B.adv) (hE.adv B.adv) (B.adv.tab _ ic₀) hcm hb (hl.adv B.adv) hi hsm hlen ⟨fr', st', ff'⟩ bT' (fun hall s' t ad => ?_) fun hbad h₂ tk₂ ex az => ?_
  · exact hQ hall s' t (AdvC.of _ (B.adv.trans ad))
  · obtain ⟨ps₁, ic₁⟩ := B.adv.tab _ ic₀
    obtain ⟨ps₂, ic₂⟩ := az.tab _ ic₁
    have hn150 : (150 : Addr) ∉ (callEnv (fd stTold "_law_told" pm code) L f :: outer).filterMap (·.frame) := by
      rw [List.filterMap_cons, show (callEnv (fd stTold "_law_told" pm code) L f).frame = some L from rfl]
      simp only [List.mem_cons, not_or]
      exact ⟨fun q => by have := B.hi; rw [← q] at this; exact absurd this (by decide), fun q => absurd (hfo _ q) (by decide)⟩
    have h150 : ∃ o, base'.get? 150 = some o := by
      obtain ⟨⟨o, vs, r1, _⟩, _⟩ := ic₁.2
      exact ⟨o, kb' _ _ (by decide) hn150 r1⟩
    obtain ⟨base2, kb2, z2, i2⟩ := az.z.rebase ic₂ h150
    refine note_on (s := ⟨h₂, _, _, tk₂, _⟩) fr' rfl z2 fun h₃ z₃ => ?_
    refine fly_none (s := ⟨h₃, _, _, tk₂, _⟩) z₃ fun h₄ z₄ => ?_
    have low : ∀ b o, b < 262 → b ≠ T → s.heap.get? b = some o → h₄.get? b = some o := fun b o hb hT e => by
      refine z₄.stays b o (kb2 b o (kb' b o hT ?_ (B.adv.keep b o hT e)))
      rw [List.filterMap_cons, show (callEnv (fd stTold "_law_told" pm code) L f).frame = some L from rfl]
      simp only [List.mem_cons, not_or]
      exact ⟨fun q => by rw [q] at hb; exact absurd B.hi (Nat.not_le.mpr hb), fun q => absurd (hfo _ q) (Nat.not_le.mpr hb)⟩
    have G₄ := G.low low
    refine wpAny_handleBy_builtin (X := "IndexError") (T := "IndexError") sub_ie_base meta_ie sub_ie_ie ?_
    refine rdB (s := ⟨h₄, _, _, tk₂, _⟩) G₄ N.ie b_ie ⟨rfl, z₄.typ (s := ⟨h₄, _, _, tk₂, _⟩), ?_⟩
    rw [if_pos rfl]
    refine fly_none (s := ⟨h₄, _, _, tk₂, _⟩) z₄.hz fun h₅ z₅ => ?_
    walk_at "as"
    refine hI hbad _ _ ?_
    rw [push_rep]
    exact told_back B rfl ic₀ kb' kb2 i2 z₅
/-! F30 -/
set_option maxHeartbeats 4000000 in
theorem told_dec {w : World} {A : Around} {E : Value → Shared → Prop} {s : Shared} {K : Frag} {mg mb : Str → Option Value} {Q : Value → Shared → Prop} {f x l : Addr} {a : EngA} {cm b : Array UInt8} {big : Bool} {u : Tok} {pm code : Value} {vs : List Value} {ps : List Int} {base : Heap} {outer : List Env}
    (hh : A.handled = none) (hroom : A.depth + 4 < recursionLimit) (G : Gl mg mb s.heap) (N : Nm mg) (Cl : ClsOk K) (X : K.In s.heap) (e : Eng w s.heap x a cm big) (hF : Fns s.heap) (hf : FnAt s.heap f stTold "_law_told" pm code)
    (hdec : FnE s.heap 93 stDec "Base64Engine.decode_bytes") (hE : FnE s.heap 158 stDtb "Base64Engine.decode_transposed_bytes")
    (hcode : ∃ ps, TabOk s.heap ps) (hcm : cm.size = 64) (hb : b.size ≤ 64) (h1 : b.size % 4 ≠ 1) (hin : ∀ c ∈ b.toList, c.toNat ∈ bl cm) (hl : LstAt s.heap l vs) (hi : IntsAre vs ps) (hsm : ∀ p ∈ ps, -1000 ≤ p ∧ p ≤ 1000) (hlen : ps.length ≤ 64)
    (hfr : A.frames = some outer) (hff : s.heap.FunFrames base outer) (hfo : ∀ q ∈ outer.filterMap (·.frame), 262 ≤ q)
    (hQ : (∀ k, k < ps.length → k < (decB cm big b).size → inR ps.length (ps.getD k 0)) → (∀ i, i < ps.length → layF ps.length ps (decB cm big b) (min ps.length (decB cm big b).size) i ≠ none) →
      ∀ s' t, AdvC (outer.filterMap (·.frame)) s s' → Q (.bytes (byteArr ((List.range ps.length).map fun i => (layF ps.length ps (decB cm big b) (min ps.length (decB cm big b).size) i).getD 0)) t) s')
    (hI : ∀ k, k < ps.length → k < (decB cm big b).size → ¬ inR ps.length (ps.getD k 0) → ∀ s' t, AdvC (outer.filterMap (·.frame)) s s' → Q (.str "IndexError" t) s')
    (hT : (∀ k, k < ps.length → k < (decB cm big b).size → inR ps.length (ps.getD k 0)) → ∀ i, i < ps.length → layF ps.length ps (decB cm big b) (min ps.length (decB cm big b).size) i = none →
      ∀ s' t, AdvC (outer.filterMap (·.frame)) s s' → Q (.str "TypeError" t) s') :
    wpAny (M w) A (call (.ref f) [.ref x, .bool true, .bytes b u, .ref l]) Q E s := by
  refine enter (by omega) G hf bodTold.2 (binds := [("engine", .ref x), ("lay", .bool true), ("row", .bytes b u), ("places", .ref l)]) rfl (by decide) rfl (fun h₁ L tk A' eA dA hA B => ?_)
  have fr' : A'.frames = some (callEnv (fd stTold "_law_told" pm code) L f :: outer) := by rw [eA]; exact Around.frames_deeper hfr
  have hha : A'.handled = none := by rw [hA]; exact hh
  obtain ⟨base', st', ff', bT', kb'⟩ := base_of (env := callEnv (fd stTold "_law_told" pm code) L f) B hff hcode rfl rfl
  delta bodTold
  dsimp only
  refine wpAny_execs_cons (wpAny_Try_except ?_)
  walk_at "as"
  refine rdL B (by walk_at "lk") ?_
  walk_at "as"
  rw [if_pos rfl]
  walk_at "as"
  refine rdL B (by walk_at "lk") ?_
  have e₁ := e.adv B.adv
  refine eng_meth Cl (kin_adv Cl X B.adv) e₁ Cl.f4 Cl.t4 e₁.m4 ?_
  dsimp only
  obtain ⟨pmE, codE, hE⟩ := hE
  with_reducible refine cw_def (hE.adv B.adv) ?_
  walk_at "as"
  refine rdL B (by walk_at "lk") ?_
  walk_at "as"
  refine rdL B (by walk_at "lk") ?_
  walk_at "as"
  dsimp only [List.cons_append, List.nil_append]
  refine ⟨hE.adv B.adv, ?_⟩
  obtain ⟨ps₀, ic₀⟩ := id hcode
  obtain ⟨ps₁, ic₁⟩ := B.adv.tab _ ic₀
  have hn150 : (150 : Addr) ∉ (callEnv (fd stTold "_law_told" pm code) L f :: outer).filterMap (·.frame) := by
    rw [List.filterMap_cons, show (callEnv (fd stTold "_law_told" pm code) L f).frame = some L from rfl]
    simp only [List.mem_cons, not_or]
    exact ⟨fun q => by have := B.hi; rw [← q] at this; exact absurd this (by decide), fun q => absurd (hfo _ q) (by decide)⟩
  have h150 : ∃ o, base'.get? 150 = some o := by
    obtain ⟨⟨o, vs, r1, _⟩, _⟩ := ic₁.2
    exact ⟨o, kb' _ _ (by decide) hn150 r1⟩
  have lowB : ∀ b o, b < 262 → b ≠ T → s.heap.get? b = some o → base'.get? b = some o := fun b o hb hT e => by
    refine kb' b o hT ?_ (B.adv.keep b o hT e)
    rw [List.filterMap_cons, show (callEnv (fd stTold "_law_told" pm code) L f).frame = some L from rfl]
    simp only [List.mem_cons, not_or]
    exact ⟨fun q => by rw [q] at hb; exact absurd B.hi (Nat.not_le.mpr hb), fun q => absurd (hfo _ q) (Nat.not_le.mpr hb)⟩
  refine dtb_ok (outer := callEnv (fd stTold "_law_told" pm code) L f :: outer) (base := base') hha (by omega) (G.adv B.adv) N Cl (kin_adv Cl X B.adv) e₁ (hF.adv B.adv) (hdec.adv B.adv) (hE.adv B.adv) hcm hb h1 hin (hl.adv B.adv) hi hsm hlen ⟨fr', st', ff'⟩ bT' ⟨_, ic₁⟩
    (fun hall hok s' t ad => hQ hall hok s' t (AdvC.of _ (B.adv.trans ad))) (fun k hk1 hk2 hbad h₂ n tk₂ ex az => ?_) fun hall i hi1 hi2 h₂ n tk₂ ex az => ?_
  · obtain ⟨ps₂, ic₂⟩ := az.tab _ ic₁
    obtain ⟨base2, kb2, z2, i2⟩ := az.z.rebase ic₂ h150
    refine note_on (s := ⟨h₂, _, _, tk₂, _⟩) fr' rfl z2 fun h₃ z₃ => ?_
    refine fly_none (s := ⟨h₃, _, _, tk₂, _⟩) z₃ fun h₄ z₄ => ?_
    have G₄ := G.low fun b o hb hT e => z₄.stays b o (kb2 b o (lowB b o hb hT e))
    refine wpAny_handleBy_builtin (X := "IndexError") (T := "IndexError") sub_ie_base meta_ie sub_ie_ie ?_
    refine rdB (s := ⟨h₄, _, _, tk₂, _⟩) G₄ N.ie b_ie ⟨rfl, z₄.typ (s := ⟨h₄, _, _, tk₂, _⟩), ?_⟩
    rw [if_pos rfl]
    refine fly_none (s := ⟨h₄, _, _, tk₂, _⟩) z₄.hz fun h₅ z₅ => ?_
    walk_at "as"
    exact hI k hk1 hk2 hbad _ _ (told_back B rfl ic₀ kb' kb2 i2 z₅)
  · obtain ⟨ps₂, ic₂⟩ := az.tab _ ic₁
    obtain ⟨base2, kb2, z2, i2⟩ := az.z.rebase ic₂ h150
    refine note_on (s := ⟨h₂, _, _, tk₂, _⟩) fr' rfl z2 fun h₃ z₃ => ?_
    refine fly_none (s := ⟨h₃, _, _, tk₂, _⟩) z₃ fun h₄ z₄ => ?_
    have G₄ := G.low fun b o hb hT e => z₄.stays b o (kb2 b o (lowB b o hb hT e))
    refine wpAny_handleBy_builtin (X := "TypeError") (T := "IndexError") sub_ie_base meta_ie sub_te_ie ?_
    refine rdB (s := ⟨h₄, _, _, tk₂, _⟩) G₄ N.ie b_ie ⟨rfl, z₄.typ (s := ⟨h₄, _, _, tk₂, _⟩), ?_⟩
    rw [if_neg (by decide)]
    refine wpAny_handleBy_builtin (X := "TypeError") (T := "TypeError") sub_te_base meta_te sub_te_te ?_
    refine rdB (s := ⟨h₄, _, _, tk₂, _⟩) G₄ N.te b_te ⟨rfl, z₄.typ (s := ⟨h₄, _, _, tk₂, _⟩), ?_⟩
    rw [if_pos rfl]
    refine fly_none (s := ⟨h₄, _, _, tk₂, _⟩) z₄.hz fun h₅ z₅ => ?_
    walk_at "as"
    exact hT hall i hi1 hi2 _ _ (told_back B rfl ic₀ kb' kb2 i2 z₅)
/-! F31 -/
local macro_rules | `(tactic| walk_at "a") => `(tactic| with_reducible refine isTrue_or ?_)
local macro_rules | `(tactic| walk_at "a") => `(tactic| with_reducible refine isTrue_or_nil ?_)
local macro_rules | `(tactic| walk_at "a") => `(tactic| with_reducible refine PyProof.Rows.neg_int ?_)

theorem fmod_ix {n : Nat} {p : Int} (h : inR n p) : p.fmod n = (ixP n p : Int) := by
  unfold inR at h
  unfold ixP
  rw [Int.fmod_eq_emod_of_nonneg _ (Int.natCast_nonneg _)]
  split
  · rw [← Int.add_emod_right, Int.emod_eq_of_lt (by omega) (by omega)]; omega
  · rw [Int.emod_eq_of_lt (by omega) (by omega)]; omega
theorem ixP_nat {n k : Nat} : ixP n (k : Int) = k := by
  unfold ixP
  rw [if_neg (by omega)]; omega

def litTaken : { st : Stmt // stmtAt 22 = st } := ⟨_, by
  delta stmtAt prog PySem.Challenge.pw_aj5032_01
  dsimp only [List.getElem?_cons_succ, List.getElem?_cons_zero, Option.getD_some]⟩
abbrev stTaken : Stmt := litTaken.1
def bodTaken : { b : List Stmt // fnBody stTaken = b } := ⟨_, by delta stTaken litTaken; dsimp only [fnBody]⟩

/-- an iterator over a list is made -/
theorem iter_list {w : World} {A : Around} {E : Value → Shared → Prop} {s : Shared} {L : Addr} {m : Str → Option Value} {h : Heap} {g : Array GenState} {d : Drawn} {tk : Nat} {o : OsState} {l : Addr} {vs : List Value} {Q : Value → Shared → Prop}
    (B : BdH s L m h g d o) (hl : LstAt h l vs) (k : ∀ h' IT, BdH s L m h' g d o → AdvH h g d o h' g d o → RecIn s L h' IT (lIt l 0) → h.objs.size ≤ IT → Q (.ref IT) ⟨h', g, d, tk, o⟩) :
    wpAny (M w) A (pyIter (.ref l)) Q E ⟨h, g, d, tk, o⟩ := by
  refine wpAny_pyIter_list hl.is ?_
  exact k _ _ (B.step (AdvH.push _)) (AdvH.push _) ⟨Heap.get?_push_size _ rfl, B.fresh, Nat.ne_of_gt B.new, B.big⟩ (Nat.le_refl _)

structure TkI (s : Shared) (L l D IT : Addr) (b : Array UInt8) (u : Tok) (ps : List Int) (k : Nat) (h : Heap) (g : Array GenState) (d : Drawn) (o : OsState) : Prop where
  le : k ≤ ps.length
  ok : ∀ j, j < k → inR b.size (ps.getD j 0)
  fr : ∃ m, BdH s L m h g d o ∧ m "octets" = some (.bytes b u) ∧ m "out" = some (.ref D)
  it : h.IsListIter IT l k
  out : ∃ us, LstIn s L h D us ∧ IntsAre us ((ps.take k).map fun p => byteAt b (ixP b.size p))

set_option maxHeartbeats 4000000 in
theorem taken_ok {w : World} {A : Around} {E : Value → Shared → Prop} {s : Shared} {mg mb : Str → Option Value} {Q : Value → Shared → Prop} {f l : Addr} {b : Array UInt8} {u : Tok} {pm code : Value} {vs : List Value} {ps : List Int}
    (hh : A.handled = none) (hroom : A.depth + 1 < recursionLimit) (G : Gl mg mb s.heap) (N : Nm mg) (hf : FnAt s.heap f stTaken "_law_taken" pm code)
    (hb : b.size ≤ 64) (hl : LstAt s.heap l vs) (hi : IntsAre vs ps) (hsm : ∀ p ∈ ps, -1000 ≤ p ∧ p ≤ 1000) (hlen : ps.length ≤ 64)
    (hQ : allIn b ps → ∀ s' t, Adv s s' → Q (.bytes (byteArr (ps.map fun p => byteAt b (ixP b.size p))) t) s')
    (hN : ¬ allIn b ps → ∀ s', Adv s s' → Q .none s') :
    wpAny (M w) A (call (.ref f) [.bytes b u, .ref l]) Q E s := by
  refine enter (by omega) G hf bodTaken.2 (binds := [("octets", .bytes b u), ("places", .ref l)]) rfl (by decide) rfl (fun h₁ L tk A' eA dA hA B => ?_)
  have hha : A'.handled = none := by rw [hA]; exact hh
  delta bodTaken
  dsimp only
  refine wpAny_execs_cons (xAssign (new_list B fun h₁ D B a₁ l₁ z₁ => stL B fun h₂ tk₂ B₂ sb₂ => ?_))
  replace l₁ := l₁.same sb₂ l₁.ne
  walk_at "as"
  with_reducible refine rdL B₂ (by walk_at "lk") ?_
  refine iter_list B₂ (hl.adv B₂.adv) fun h₃ IT B₃ a₃ r₃ z₃ => ?_
  have ne : D ≠ IT := by
    obtain ⟨n, e⟩ := l₁.obj
    exact Nat.ne_of_lt (Nat.lt_of_lt_of_le (Heap.lt_size e) z₃)
  have nl : l ≠ IT := by
    obtain ⟨o, e, _⟩ := (hl.adv B₂.adv).is
    exact Nat.ne_of_lt (Nat.lt_of_lt_of_le (Heap.lt_size e) z₃)
  have hvz : vs.length = ps.length := ints_len hi
  refine codeAny_forLoop_any (fun n c => ∃ i, n = ps.length - i ∧ TkI s L l D IT b u ps i c.heap c.gens c.drawn c.os) ?_ ps.length ⟨0, rfl, Nat.zero_le _, fun j hj => absurd hj (Nat.not_lt_zero _), ⟨_, B₃, by walk_at "lk", by walk_at "lk"⟩, ⟨_, r₃.obj, rfl, rfl⟩, ⟨[], l₁.adv a₃, .nil⟩⟩
  rintro n ⟨h, g, d, t, o⟩ ⟨i, rfl, le, ok, ⟨m, B, m1, m2⟩, il, ⟨us, I, iu⟩⟩
  dsimp only at B il I
  have hz : us.length = i := by rw [ints_len iu]; simp; omega
  by_cases hlt : i < ps.length
  · obtain ⟨tk, hv⟩ := ints_at hi i hlt
    refine wpAny_pyNext_list_item (s := ⟨h, g, d, t, o⟩) (x := .int (ps.getD i 0) tk) il (hl.adv B.adv).is (by simpa using hv) fun h₄ it₄ sb₄ => ?_
    dsimp only
    replace B := B.mut sb₄ r₃.old r₃.ne r₃.hi
    replace I := I.same sb₄ ne
    with_reducible refine xLot (wpAny_assign_Name (stL B fun h₅ tk₅ B₅ sb₅ => ?_))
    replace I := I.same sb₅ I.ne
    have it₅ : h₅.IsListIter IT l (i + 1) := let ⟨o, e, r⟩ := it₄; ⟨o, (sb₅.2 _ r₃.ne).trans e, r⟩
    generalize hm6 : upd m "place" _ = m6 at B₅
    have n1 : m6 "octets" = some (.bytes b u) := by subst hm6; walk_at "lk"
    have n2 : m6 "out" = some (.ref D) := by subst hm6; walk_at "lk"
    have n3 : m6 "place" = some (.int (ps.getD i 0) tk) := by subst hm6; walk_at "lk"
    clear hm6 m1 m2
    have lenb : ∀ {tk : Nat} {Q : Value → Shared → Prop} {E : Value → Shared → Prop}, (∀ tk' t, Q (.int b.size t) ⟨h₅, g, d, tk', o⟩) → wpAny (M w) A' (call (.builtin "len") [.bytes b u]) Q E ⟨h₅, g, d, tk, o⟩ := fun k => len_bytes (by omega) (k _ _)
    have hpm : ps.getD i 0 ∈ ps := mem_getD hlt
    have hps := hsm _ hpm
    walk_at "as"
    with_reducible refine rdL B₅ n3 ?_
    walk_at "as"
    with_reducible refine rdB (G.adv B₅.adv) N.len b_len ?_
    walk_at "as"
    with_reducible refine rdL B₅ n1 ?_
    walk_at "as"
    dsimp only [List.nil_append]
    refine lenb fun tk₆ t₆ => ?_
    walk_at "as"
    generalize hp : ps.getD i 0 = p at n3 hps hpm
    by_cases c1 : p < -(b.size : Int)
    · rw [if_pos (by simpa using c1)]
      simp only [if_true]
      walk_at "as"
      exact hN (fun q => by have := (q p hpm).1; omega) _ B₅.adv
    · rw [if_neg (by simpa using c1)]
      walk_at "as"
      with_reducible refine rdL B₅ n3 ?_
      walk_at "as"
      with_reducible refine rdB (G.adv B₅.adv) N.len b_len ?_
      walk_at "as"
      with_reducible refine rdL B₅ n1 ?_
      walk_at "as"
      dsimp only [List.nil_append]
      refine lenb fun tk₆ t₆ => ?_
      walk_at "as"
      by_cases c2 : p ≥ (b.size : Int)
      · rw [if_pos (by simpa using c2)]
        simp only [if_true]
        walk_at "as"
        exact hN (fun q => by have := (q p hpm).2; omega) _ B₅.adv
      · rw [if_neg (by simpa using c2)]
        walk_at "as"
        rw [if_neg (by decide)]
        have hin : inR b.size p := ⟨by omega, by omega⟩
        walk_at "as"
        with_reducible refine rdL B₅ n2 ?_
        with_reducible refine get_append I ?_
        walk_at "as"
        with_reducible refine rdL B₅ n1 ?_
        walk_at "as"
        with_reducible refine rdL B₅ n3 ?_
        walk_at "as"
        with_reducible refine rdB (G.adv B₅.adv) N.len b_len ?_
        walk_at "as"
        with_reducible refine rdL B₅ n1 ?_
        walk_at "as"
        dsimp only [List.nil_append]
        refine lenb fun tk₇ t₇ => ?_
        with_reducible refine PyProof.Rows.mod_int' (by omega) ?_
        rw [fmod_ix hin]
        have lt := ixP_lt hin
        refine subscriptTail_builtin (typeIs_bytes _ _ _) FB.slot_bytes_getitem.lookup ?_
        refine get_b (by omega) (by unfold inR; omega) fun t₈ tk₈ => ?_
        rw [ixP_nat]
        walk_at "as"
        dsimp only [List.cons_append, List.nil_append]
        refine app_own B₅ I (by omega) fun h' B' I' sb' => ?_
        repeat with_reducible refine wpAny_execs_nil ?_
        refine ⟨ps.length - (i + 1), by omega, i + 1, rfl, hlt, fun j hj => ?_, ⟨m6, B', n1, n2⟩, it₅.extBut sb'.extBut (Ne.symm ne), _, I', ?_⟩
        · rcases Nat.lt_succ_iff_lt_or_eq.mp hj with h | h
          · exact ok j h
          · rw [h, hp]; exact hin
        · have : (ps.take (i + 1)).map (fun p => byteAt b (ixP b.size p)) = (ps.take i).map (fun p => byteAt b (ixP b.size p)) ++ [byteAt b (ixP b.size p)] := by
            rw [List.take_add_one, List.getElem?_eq_getElem hlt]
            have : ps[i] = p := by rw [← hp, List.getD_eq_getElem?_getD, List.getElem?_eq_getElem hlt]; rfl
            simp [this]
          rw [this]
          exact ints_snoc iu _ _
  · have ei : i = ps.length := by omega
    rw [ei] at iu ok
    refine wpAny_pyNext_list_end (s := ⟨h, g, d, t, o⟩) hha il (hl.adv B.adv).is (by simp; omega) fun h₄ ex => ?_
    have ex : Heap.ExtBut IT h h₄ := ex
    have B₄ := B.mutE ex r₃.old r₃.ne r₃.hi
    have I₄ : LstAt h₄ D us := ⟨let ⟨n, e⟩ := I.obj; ⟨_, ex _ _ ne e, rfl, n, rfl⟩, I.hi⟩
    dsimp only
    rw [List.take_length] at iu
    walk_at "as"
    with_reducible refine rdB (G.adv B₄.adv) N.bytes b_bytes ?_
    walk_at "as"
    with_reducible refine rdL B₄ m2 ?_
    walk_at "as"
    dsimp only [List.nil_append]
    refine call_bytes_ints I₄.is iu (fun z hz => ?_) (by rw [sizeLine_eq]; omega) hha fun h₅ t₅ tk₅ kp₅ => ?_
    · obtain ⟨p, _, rfl⟩ := List.mem_map.1 hz
      exact byteAt_rng _ _
    · refine hQ (fun p hp => ?_) ⟨h₅, g, d, tk₅, o⟩ t₅ (B₄.adv.trans (AdvH.ext kp₅))
      obtain ⟨j, hj, rfl⟩ := List.getElem_of_mem hp
      have := ok j hj
      rwa [List.getD_eq_getElem?_getD, List.getElem?_eq_getElem hj] at this
/-! F32 -/
/-- a state since another: as a call may move it -/
def AdvS (h : Heap) (g : Array GenState) (d : Drawn) (o : OsState) (s' : Shared) : Prop := AdvH h g d o s'.heap s'.gens s'.drawn s'.os
/-- all but the iterator (and the table) as before -/
def Kb (I : Addr) (h h' : Heap) : Prop := ∀ b o, b ≠ T → b ≠ I → h.get? b = some o → h'.get? b = some o

set_option maxHeartbeats 1000000 in
/-- a list comprehension's loop -/
theorem lc_block {w : World} {A : Around} {E : Value → Shared → Prop} {s : Shared} {L : Addr} {m : Str → Option Value} {h₂ : Heap} {g : Array GenState} {d : Drawn} {tk : Nat} {o : OsState} {elt iter : Expr} {x : Str} {px : Pos} {ifs : List Expr} {scope : Scope} {cl : List (Str × Addr)} {pos : Pos} {env : Env} {I : Addr} {fp : List Addr} {n : Nat}
    {P : Nat → Value → Prop} {St : Nat → Heap → Prop} {RR : Value → Addr → Result → Shared → Prop}
    (B : BdH s L m h₂ g d o) (W : Walks prog w A I fp [I] n P St) (hsz : n ≤ 1000) (hcell : ∀ y ∈ scope.names, y.2 ≠ .cell) (hkind : scope.kind = .function) (hx : scope.names.lookup x = some .local)
    (hst : St 0 h₂) (hfp : ∀ b ∈ fp, b < h₂.objs.size) (hfT : T ∉ fp) (hI : s.heap.get? I = none ∧ 262 ≤ I ∧ I ≠ L)
    (R : Nat → List Value → Prop) (hR0 : R 0 [])
    (turn : ∀ i v C mC h g' d' tk o' ys (E' : Value → Shared → Prop), i < n → P i v → R i ys → BdH s L m h g' d' o' → Kb I h₂ h → h.Ns C mC → mC x = some v → 262 ≤ C →
      wpAny (M w) A (forIn ifs true fun c r => if r = true then do let ok ← isTrue c (compEnvC scope cl C env) (eval c (compEnvC scope cl C env)); pure (ForInStep.yield ok) else pure (ForInStep.yield r))
        (fun ok s₃ => AdvS h g' d' o' s₃ ∧ if ok = true then wpAny (M w) A (eval elt (compEnvC scope cl C env)) (fun y s₄ => AdvS s₃.heap s₃.gens s₃.drawn s₃.os s₄ ∧ R (i + 1) (ys ++ [y])) E' s₃ else R (i + 1) ys) E' ⟨h, g', d', tk, o'⟩)
    (hRR : ∀ D C h' g' d' tk o' m' ys, BdH s L m h' g' d' o' → h'.Ns C m' → LstIn s L h' D ys → C ≠ D → C ≠ L → 262 ≤ C → s.heap.get? C = none → h₂.get? C = none → R n ys → Kb I h₂ h' → RR (.ref D) C (.ok .next) ⟨h', g', d', tk, o'⟩) :
    wpAny (M w) A (newList []) (fun acc s₃ => wpAny (M w) A (newFunctionEnv scope env.globals cl [] env.qual none .none (some env)) (fun cenv s₄ =>
      codeAny (M w) A (.compStart (.ListComp elt [⟨.Name x px, iter, ifs, 0⟩] scope pos) 0 (.ref I) acc { cenv with scope := relabel scope env }) (RR acc cenv.locals) s₄) E s₃) E ⟨h₂, g, d, tk, o⟩ := by
  refine wpAny_newObj_type (wpAny_newFunctionEnv hcell (by intro y hy; simp at hy) (fun h₁ hns₁ hsb₁ => ?_) hkind)
  dsimp only at hns₁ hsb₁ ⊢
  have lI : I < h₂.objs.size := hfp I (W.sub I (List.mem_singleton.mpr rfl))
  have B₁ := B.step (AdvH.push (g := g) (d := d) (o := o) { cls := .type "list", dict := none, data := .seq ([] : List Value).toArray })
  have lD : LstIn s L (h₂.push { cls := .type "list", dict := none, data := .seq ([] : List Value).toArray }) h₂.objs.size [] := ⟨⟨0, Heap.get?_push_size _ rfl⟩, B.fresh, Nat.ne_of_gt B.new, B.big⟩
  have p₁ : ∀ b o, h₂.get? b = some o → (h₂.push { cls := .type "list", dict := none, data := .seq ([] : List Value).toArray }).get? b = some o := fun b o e => Heap.get?_push_of_some _ e
  have z₁ : (h₂.push { cls := .type "list", dict := none, data := .seq ([] : List Value).toArray }).objs.size = h₂.objs.size + 1 := Heap.size_push ..
  generalize h₂.push { cls := .type "list", dict := none, data := .seq ([] : List Value).toArray } = H₂ at *
  have k₁ : ∀ b o, H₂.get? b = some o → h₁.get? b = some o := fun b o e => hsb₁.extBut b o (Nat.ne_of_lt (Heap.lt_size e)) (Heap.get?_push_of_some _ e)
  have B₂ := B₁.step (AdvH.ext (g := g) (d := d) (o := o) k₁)
  replace lD := lD.adv (AdvH.ext (g := g) (d := d) (o := o) k₁)
  have hC₁ : s.heap.get? H₂.objs.size = none := B₁.fresh
  have hC₂ : 262 ≤ H₂.objs.size := B₁.big
  have hC₃ : H₂.objs.size ≠ L := Nat.ne_of_gt B₁.new
  have hC₄ : h₂.get? H₂.objs.size = none := Heap.get?_none_of_le (by rw [z₁]; exact Nat.le_succ _)
  have hDC : h₂.objs.size ≠ H₂.objs.size := by rw [z₁]; exact Nat.ne_of_lt (Nat.lt_succ_self _)
  have hDI : h₂.objs.size ≠ I := Nat.ne_of_gt lI
  have hCI : H₂.objs.size ≠ I := by rw [z₁]; exact Nat.ne_of_gt (Nat.lt_succ_of_lt lI)
  have hDf : h₂.objs.size ∉ fp := fun q => Nat.lt_irrefl _ (hfp _ q)
  have hCf : H₂.objs.size ∉ fp := fun q => by have := hfp _ q; rw [z₁] at this; exact Nat.lt_irrefl _ (Nat.lt_of_succ_lt this)
  have hst₁ : St 0 h₁ := W.frame _ _ _ hst fun b _ o e => k₁ b o (p₁ b o e)
  have kb₁ : Kb I h₂ h₁ := fun b o _ _ e => k₁ b o (p₁ b o e)
  clear hsb₁ p₁ k₁ z₁ B₁
  have below : ∀ b o, h₂.get? b = some o → b ≠ h₂.objs.size ∧ b ≠ H₂.objs.size := fun b o e => ⟨Nat.ne_of_lt (Heap.lt_size e), fun q => by rw [q, hC₄] at e; cases e⟩
  generalize H₂.objs.size = C at *
  have oldD : s.heap.get? h₂.objs.size = none := B.fresh
  have hiD : 262 ≤ h₂.objs.size := B.big
  have neD : h₂.objs.size ≠ L := Nat.ne_of_gt B.new
  generalize h₂.objs.size = D at *
  have loop : codeAny (M w) A (.compLoop (.ListComp elt [⟨.Name x px, iter, ifs, 0⟩] scope pos) 0 (.ref I) (.ref D) (compEnvC scope cl C env)) (RR (.ref D) C) ⟨h₁, g, d, tk + ([] : List (Str × Value)).length, o⟩ := by
    refine codeAny_compLoop_tests (fun k c => ∃ i ys mC, k = n - i ∧ i ≤ n ∧ BdH s L m c.heap c.gens c.drawn c.os ∧ St i c.heap ∧ Kb I h₂ c.heap ∧ c.heap.Ns C mC ∧ LstIn s L c.heap D ys ∧ R i ys ∧ ys.length ≤ i) ?_ n
      ⟨0, [], _, rfl, Nat.zero_le _, B₂, hst₁, kb₁, hns₁, lD, hR0, Nat.le_refl _⟩
    rintro k ⟨h, g, d, t, o⟩ ⟨i, ys, mC, rfl, hi, B, st, kb, ns, l, r, lz⟩
    dsimp only at B st kb ns l
    by_cases hlt : i < n
    · refine W.item i _ _ _ hlt st fun v h₃ tk₃ hP st₃ k₃ => ?_
      dsimp only at k₃ ⊢
      have ns₃ : h₃.Ns C mC := ns.at' fun o e => k₃ _ o (by simpa using hCI) e
      refine wpAny_assign_Name (wpAny_storeName_local (s := ⟨h₃, g, d, tk₃, o⟩) (lookup_relabel_local hx) ns₃ (fun h₄ ns₄ sb₄ => ?_) (by simp [compEnvC, relabel, hkind]))
      dsimp only at sb₄
      have B₃ : BdH s L m h₃ g d o := B.gens (n := 0) (wr := [I]) (fun q o hq e => k₃ q o hq e) (fun q hq => by rw [List.mem_singleton.mp hq]; exact hI) (by simp)
      have B₄ : BdH s L m h₄ g d o := B₃.mut sb₄ hC₁ hC₃ hC₂
      have l₃ : LstIn s L h₃ D ys := ⟨let ⟨n, e⟩ := l.obj; ⟨n, k₃ _ _ (by simpa using hDI) e⟩, l.old, l.ne, l.hi⟩
      have l₄ := l₃.same sb₄ hDC
      have st₄ : St (i + 1) h₄ := W.frame _ _ _ st₃ fun b hb o e => (sb₄.2 b fun q => hCf (by first | exact q ▸ hb | (have q' : b = C := q; rw [← q']; exact hb))).trans e
      have kb₄ : Kb I h₂ h₄ := fun b o h1 h2 e => (sb₄.2 b (below b o e).2).trans (k₃ b o (by simpa using h2) (kb b o h1 h2 e))
      refine wpAny_mono (turn i v C _ h₄ g d _ o ys _ hlt hP r B₄ kb₄ ns₄ (if_pos rfl) hC₂) (fun ok s₅ h₅ => ?_) fun _ _ e => e
      obtain ⟨h₅, g₅, d₅, tk₅, o₅⟩ := s₅
      obtain ⟨a₅, h5⟩ := h₅
      have stA : ∀ {h h' : Heap} {g g' : Array GenState} {d d' : Drawn} {o o' : OsState}, AdvH h g d o h' g' d' o' → St (i + 1) h → St (i + 1) h' := fun a st => W.frame _ _ _ st fun b hb o e => a.keep b o (fun q => hfT (q ▸ hb)) e
      have kbA : ∀ {h h' : Heap} {g g' : Array GenState} {d d' : Drawn} {o o' : OsState}, AdvH h g d o h' g' d' o' → Kb I h₂ h → Kb I h₂ h' := fun a kb b o h1 h2 e => a.keep b o h1 (kb b o h1 h2 e)
      have B₅ := B₄.step a₅
      cases ok with
      | false =>
        rw [if_neg (by decide)] at h5 ⊢
        exact ⟨n - (i + 1), by omega, i + 1, ys, _, rfl, hlt, B₅, stA a₅ st₄, kbA a₅ kb₄, ns₄.at' fun o e => a₅.keep _ _ (ne_T hC₂) e, l₄.adv a₅, h5, Nat.le_succ_of_le lz⟩
      | true =>
        rw [if_pos rfl] at h5 ⊢
        refine wpAny_mono h5 (fun y s₆ h₆ => ?_) fun _ _ e => e
        obtain ⟨h₆, g₆, d₆, tk₆, o₆⟩ := s₆
        obtain ⟨a₆, r₆⟩ := h₆
        have B₆ := B₅.step a₆
        have l₆ := (l₄.adv a₅).adv a₆
        refine app_own B₆ l₆ (Nat.le_trans lz (Nat.le_trans hi hsz)) fun h₇ B₇ l₇ sb₇ => ?_
        have ns₇ := ns₄.at' (h' := h₇) fun o e => (sb₇.2 _ (Ne.symm hDC)).trans (a₆.keep _ _ (ne_T hC₂) (a₅.keep _ _ (ne_T hC₂) e))
        refine ⟨n - (i + 1), by omega, i + 1, ys ++ [y], _, rfl, hlt, B₇, ?_, ?_, ns₇, l₇, r₆, by simp; omega⟩
        · exact W.frame _ _ _ (stA a₆ (stA a₅ st₄)) fun b hb o e => (sb₇.2 b fun q => hDf (by first | exact q ▸ hb | (have q' : b = D := q; rw [← q']; exact hb))).trans e
        · exact fun b o h1 h2 e => (sb₇.2 b (below b o e).1).trans (kbA a₆ (kbA a₅ kb₄) b o h1 h2 e)
    · have hin : i = n := by omega
      subst hin
      refine W.done _ _ _ st fun h₃ tk₃ k₃ => ?_
      dsimp only at k₃ ⊢
      have B₃ : BdH s L m h₃ g d o := B.gens (n := 0) (wr := [I]) (fun q o hq e => k₃ q o hq e) (fun q hq => by rw [List.mem_singleton.mp hq]; exact hI) (by simp)
      have l₃ : LstIn s L h₃ D ys := ⟨let ⟨n, e⟩ := l.obj; ⟨n, k₃ _ _ (by simpa using hDI) e⟩, l.old, l.ne, l.hi⟩
      exact hRR D C h₃ g d tk₃ o mC ys B₃ (ns.at' fun o e => k₃ _ o (by simpa using hCI) e) l₃ (Ne.symm hDC) hC₃ hC₂ hC₁ hC₄ r fun b o h1 h2 e => k₃ b o (by simpa using h2) (kb b o h1 h2 e)
  exact codeAny_compStart_list loop (W.self 0 _ _ _ hst₁ loop)

theorem clauses1 (elt target iter : Expr) (ifs : List Expr) (scope : Scope) (pos : Pos) : clausesOf (.ListComp elt [⟨target, iter, ifs, 0⟩] scope pos) = ⟨target, iter, ifs, 0⟩ :: [] := rfl

/-- a list comprehension as a value: what comes behind its source's iterator -/
theorem lc_value {w : World} {A : Around} {E : Value → Shared → Prop} {s : Shared} {L : Addr} {m : Str → Option Value} {c : Shared} {elt iter : Expr} {x : Str} {px : Pos} {ifs : List Expr} {scope : Scope} {cl : List (Str × Addr)} {pos : Pos} {env : Env} {Q : Value → Shared → Prop}
    (hclos : closureFor scope env = pure cl) (hcell : ∀ y ∈ scope.names, y.2 ≠ .cell) (hkind : scope.kind = .function) (hnames : ∀ y ∈ scope.names, y.2 = .local → scope.names.lookup y.1 = some .local) (hx : scope.names.lookup x = some .local)
    (h : wpAny (M w) A (eval iter env) (fun xv s₁ => wpAny (M w) A (pyIter xv) (fun it c₂ => ∃ (I : Addr) (fp : List Addr) (n : Nat) (P : Nat → Value → Prop) (St : Nat → Heap → Prop) (R : Nat → List Value → Prop), it = .ref I ∧ BdH s L m c₂.heap c₂.gens c₂.drawn c₂.os ∧ Walks prog w A I fp [I] n P St ∧ n ≤ 1000 ∧ St 0 c₂.heap ∧ (∀ b ∈ fp, b < c₂.heap.objs.size) ∧ T ∉ fp ∧ (s.heap.get? I = none ∧ 262 ≤ I ∧ I ≠ L) ∧ R 0 [] ∧
      (∀ i v C mC h g' d' tk o' ys (E' : Value → Shared → Prop), i < n → P i v → R i ys → BdH s L m h g' d' o' → Kb I c₂.heap h → h.Ns C mC → mC x = some v → 262 ≤ C →
        wpAny (M w) A (forIn ifs true fun c r => if r = true then do let ok ← isTrue c (compEnvC scope cl C env) (eval c (compEnvC scope cl C env)); pure (ForInStep.yield ok) else pure (ForInStep.yield r))
          (fun ok s₃ => AdvS h g' d' o' s₃ ∧ if ok = true then wpAny (M w) A (eval elt (compEnvC scope cl C env)) (fun y s₄ => AdvS s₃.heap s₃.gens s₃.drawn s₃.os s₄ ∧ R (i + 1) (ys ++ [y])) E' s₃ else R (i + 1) ys) E' ⟨h, g', d', tk, o'⟩) ∧
      (∀ D h' g' d' tk o' ys, BdH s L m h' g' d' o' → LstIn s L h' D ys → R n ys → Kb I c₂.heap h' → Q (.ref D) ⟨h', g', d', tk, o'⟩)) E s₁) E c)
    (hs : ∀ x, foldedSetIterable iter env x = pure x := by intro _; rfl) : wpAny (M w) A (eval (.ListComp elt [⟨.Name x px, iter, ifs, 0⟩] scope pos) env) Q E c := by
  rw [eval_ListComp]
  refine wpAny_comprehension_free (use := none) (clauses1 ..) hs hclos hkind hnames (wpAny_mono h (fun xv s₁ h₁ => wpAny_mono h₁ (fun it c₂ h₂ => ?_) fun _ _ e => e) fun _ _ e => e)
  obtain ⟨I, fp, n, P, St, R, rfl, B, W, hsz, hst, hfp, hfT, hI, hR0, turn, hQ⟩ := h₂
  obtain ⟨h₂, g₂, d₂, tk₂, o₂⟩ := c₂
  refine lc_block (RR := fun acc C => compPost (M w) A E none Q acc C) B W hsz hcell hkind hx hst hfp hfT hI R hR0 turn ?_
  intro D C h' g' d' tk o' m' ys B' ns' l' hCD hCL hC hC0 hC2 r kb
  exact ⟨m', ns', fun h'' sb => hQ D h'' g' d' tk o' ys (B'.mut sb hC0 hCL hC) (l'.same sb (Ne.symm hCD)) r fun b o h1 h2 e => (sb.2 b fun q => by rw [q] at e; rw [hC2] at e; cases e).trans (kb b o h1 h2 e)⟩

/-- a list comprehension, its value stored in a local -/
theorem lc_assign {w : World} {A : Around} {E : Value → Shared → Prop} {s : Shared} {L : Addr} {m : Str → Option Value} {c : Shared} {elt iter : Expr} {x y : Str} {px py : Pos} {ifs : List Expr} {scope : Scope} {cl : List (Str × Addr)} {pos spos : Pos} {env : Env} {Q : Flow → Shared → Prop}
    (hsw : swapsWith (.ListComp elt [⟨.Name x px, iter, ifs, 0⟩] scope pos) (some (.Name y py)) spos.line env = pure true)
    (hclos : closureFor scope env = pure cl) (hcell : ∀ y ∈ scope.names, y.2 ≠ .cell) (hkind : scope.kind = .function) (hnames : ∀ y ∈ scope.names, y.2 = .local → scope.names.lookup y.1 = some .local) (hx : scope.names.lookup x = some .local)
    (h : wpAny (M w) A (eval iter env) (fun xv s₁ => wpAny (M w) A (pyIter xv) (fun it c₂ => ∃ (I : Addr) (fp : List Addr) (n : Nat) (P : Nat → Value → Prop) (St : Nat → Heap → Prop) (R : Nat → List Value → Prop), it = .ref I ∧ BdH s L m c₂.heap c₂.gens c₂.drawn c₂.os ∧ Walks prog w A I fp [I] n P St ∧ n ≤ 1000 ∧ St 0 c₂.heap ∧ (∀ b ∈ fp, b < c₂.heap.objs.size) ∧ T ∉ fp ∧ (s.heap.get? I = none ∧ 262 ≤ I ∧ I ≠ L) ∧ R 0 [] ∧
      (∀ i v C mC h g' d' tk o' ys (E' : Value → Shared → Prop), i < n → P i v → R i ys → BdH s L m h g' d' o' → Kb I c₂.heap h → h.Ns C mC → mC x = some v → 262 ≤ C →
        wpAny (M w) A (forIn ifs true fun c r => if r = true then do let ok ← isTrue c (compEnvC scope cl C env) (eval c (compEnvC scope cl C env)); pure (ForInStep.yield ok) else pure (ForInStep.yield r))
          (fun ok s₃ => AdvS h g' d' o' s₃ ∧ if ok = true then wpAny (M w) A (eval elt (compEnvC scope cl C env)) (fun y s₄ => AdvS s₃.heap s₃.gens s₃.drawn s₃.os s₄ ∧ R (i + 1) (ys ++ [y])) E' s₃ else R (i + 1) ys) E' ⟨h, g', d', tk, o'⟩) ∧
      (∀ D h' g' d' tk o' ys, BdH s L (upd m y (.ref D)) h' g' d' o' → LstIn s L h' D ys → R n ys → (∀ b o, b ≠ T → b ≠ I → b ≠ L → c₂.heap.get? b = some o → h'.get? b = some o) → Q .next ⟨h', g', d', tk, o'⟩)) E s₁) E c)
    (hL : env.locals = L := by kernel_rfl) (hk : env.scope.kind = .function := by kernel_rfl) (hl : env.kindOf y = some .local := by kernel_rfl)
    (hs : ∀ x, foldedSetIterable iter env x = pure x := by intro _; rfl) : wpAny (M w) A (exec (.Assign [.Name y py] (.ListComp elt [⟨.Name x px, iter, ifs, 0⟩] scope pos) spos) env) Q E c := by
  rw [exec_Assign_Name_used _ _ _ _ hsw]
  refine wpAny_bind (wpAny_standAt (wpAny_bind ?_))
  show wpAny _ A (do let _ ← comprehension (.ListComp elt [⟨.Name x px, iter, ifs, 0⟩] scope pos) scope env _ (newList []) false (eval iter env) (some (assign (.Name y py) env))) _ _ c
  refine wpAny_bind (wpAny_mono (wpAny_comprehension_free (use := some (assign (.Name y py) env)) (Q := fun _ s' => Q .next s') (clauses1 ..) hs hclos hkind hnames
    (wpAny_mono h (fun xv s₁ h₁ => wpAny_mono h₁ (fun it c₂ h₂ => ?_) fun _ _ e => e) fun _ _ e => e)) (fun _ s' hq => wpAny_pure (wpAny_pure hq)) fun _ _ e => e)
  obtain ⟨I, fp, n, P, St, R, rfl, B, W, hsz, hst, hfp, hfT, hI, hR0, turn, hQ⟩ := h₂
  obtain ⟨h₂, g₂, d₂, tk₂, o₂⟩ := c₂
  refine lc_block (RR := fun acc C => compPost (M w) A E (some (assign (.Name y py) env)) (fun _ s' => Q .next s') acc C) B W hsz hcell hkind hx hst hfp hfT hI R hR0 turn ?_
  intro D C h' g' d' tk o' m' ys B' ns' l' hCD hCL hC hC0 hC2 r kb
  show wpAny _ A (assign (.Name y py) env (.ref D)) _ _ _
  refine wpAny_assign_Name (stL B' (fun h₃ tk₃ B₃ sb₃ => ?_) hL hk hl)
  refine ⟨m', ns'.sameBut sb₃ hCL, fun h'' sb => hQ D h'' g' d' tk₃ o' ys (B₃.mut sb hC0 hCL hC) ((l'.same sb₃ l'.ne).same sb (Ne.symm hCD)) r fun b o h1 h2 h3 e => (sb.2 b fun q => by rw [q] at e; rw [hC2] at e; cases e).trans ((sb₃.2 b h3).trans (kb b o h1 h2 e))⟩
/-! F33 -/
def litLaid : { st : Stmt // stmtAt 23 = st } := ⟨_, by
  delta stmtAt prog PySem.Challenge.pw_aj5032_01
  dsimp only [List.getElem?_cons_succ, List.getElem?_cons_zero, Option.getD_some]⟩
abbrev stLaid : Stmt := litLaid.1
def bodLaid : { b : List Stmt // fnBody stLaid = b } := ⟨_, by delta stLaid litLaid; dsimp only [fnBody]⟩

/-- a cell of the call's own -/
structure CellIn (s : Shared) (L : Addr) (h : Heap) (a : Addr) (v : Option Value) : Prop where
  is : h.IsCell a v
  old : s.heap.get? a = none
  ne : a ≠ L
  hi : 262 ≤ a
theorem CellIn.keep {s : Shared} {L : Addr} {h h' : Heap} {a : Addr} {v : Option Value} (x : CellIn s L h a v) (k : ∀ o, h.get? a = some o → h'.get? a = some o) : CellIn s L h' a v :=
  ⟨let ⟨o, e, r⟩ := x.is; ⟨o, k o e, r⟩, x.old, x.ne, x.hi⟩
theorem CellIn.lt {s : Shared} {L : Addr} {h : Heap} {a : Addr} {v : Option Value} (x : CellIn s L h a v) : a < h.objs.size := let ⟨_, e, _⟩ := x.is; Heap.lt_size e
theorem BdH.cell {s : Shared} {L : Addr} {m : Str → Option Value} {h : Heap} {g : Array GenState} {d : Drawn} {o : OsState} {c : Addr} {v v' : Option Value} {h' : Heap} (B : BdH s L m h g d o) (x : CellIn s L h c v) (sb : Heap.SameBut c h h') (i : h'.IsCell c v') : BdH s L m h' g d o ∧ CellIn s L h' c v' :=
  ⟨B.mut sb x.old x.ne x.hi, i, x.old, x.ne, x.hi⟩

/-- a cell is stored into -/
theorem stC {w : World} {A : Around} {E : Value → Shared → Prop} {s : Shared} {env : Env} {L : Addr} {m : Str → Option Value} {x : Str} {v : Value} {v₀ : Option Value} {Q : Unit → Shared → Prop} {h : Heap} {g : Array GenState} {d : Drawn} {tk : Nat} {o : OsState} {c : Addr} (B : BdH s L m h g d o) (X : CellIn s L h c v₀)
    (k : ∀ h', BdH s L m h' g d o → CellIn s L h' c (some v) → Heap.SameBut c h h' → Q () ⟨h', g, d, tk, o⟩)
    (hcl : env.cells.lookup x = some c := by kernel_rfl) (hk : env.scope.kind = .function := by kernel_rfl) (hl : env.kindOf x = some .cell := by kernel_rfl) : wpAny (M w) A (storeName env x v) Q E ⟨h, g, d, tk, o⟩ :=
  wpAny_storeName_cell (s := ⟨h, g, d, tk, o⟩) hk hl hcl X.is fun h' i sb => k h' (B.cell X sb i).1 (B.cell X sb i).2 sb

theorem get_l {w : World} {A : Around} {E : Value → Shared → Prop} {s : Shared} {value slice : Expr} {l : Addr} {vs : List Value} {ps : List Int} {k : Nat} {z : Int} {u : Tok} {Q : Value → Shared → Prop} (hl : LstAt s.heap l vs) (hi : IntsAre vs ps) (hk : k < ps.length) (hz : z = (k : Int)) (hfit : k < 1000)
    (h : ∀ t, Q (.int (ps.getD k 0) t) s) (hs : subscripted slice false (.ref l) (.int z u) = operate [.ref l, .int z u] (getItem (.ref l) (.int z u)) := by with_unfolding_all rfl) : wpAny (M w) A (subscriptTail value slice (.ref l) (.int z u)) Q E s := by
  subst hz
  obtain ⟨t, e⟩ := ints_at hi k hk
  refine tail_any (T := "list") (id := "list.__getitem__") (let ⟨o, ho, hc, _⟩ := hl.is; ⟨o, ho, hc⟩) slot_list_getitem.lookup ?_ hs
  exact wpAny_getItem_list hl.is (by omega) (by omega) (by rw [Int.toNat_natCast]; simpa using e) (h t)

/-- what a list holds for a place -/
def foundAt (n : Nat) (ps : List Int) (b : Array UInt8) (i k : Nat) : List Int := ((List.range k).filter fun j => decide (ixP n (ps.getD j 0) = i)).map (byteAt b)
theorem found_succ {n : Nat} {ps : List Int} {b : Array UInt8} {i k : Nat} : foundAt n ps b i (k + 1) = if ixP n (ps.getD k 0) = i then foundAt n ps b i k ++ [byteAt b k] else foundAt n ps b i k := by
  unfold foundAt
  rw [List.range_succ, List.filter_append]
  by_cases h : ixP n (ps.getD k 0) = i
  · rw [if_pos h, List.filter_cons_of_pos (by simpa using h), List.filter_nil, List.map_append]; rfl
  · rw [if_neg h, List.filter_cons_of_neg (by simpa using h), List.filter_nil, List.append_nil]
theorem found_lay {n : Nat} {ps : List Int} {b : Array UInt8} {i : Nat} : ∀ {k : Nat}, (foundAt n ps b i k).getLast? = layF n ps b k i
  | 0 => rfl
  | k + 1 => by
    rw [found_succ]
    unfold layF
    by_cases h : ixP n (ps.getD k 0) = i
    · rw [if_pos h, if_pos h.symm]; simp
    · rw [if_neg h, if_neg (Ne.symm h)]; exact found_lay
theorem found_len {n : Nat} {ps : List Int} {b : Array UInt8} {i k : Nat} : (foundAt n ps b i k).length ≤ k := by
  unfold foundAt
  rw [List.length_map]
  exact Nat.le_trans (List.length_filter_le _ _) (by simp)

structure Ld (s : Shared) (L : Addr) (b : Array UInt8) (u : Tok) (l : Addr) (n : Nat) (h : Heap) : Prop where
  o : CellIn s L h (L + 1) (some (.bytes b u))
  p : CellIn s L h (L + 2) (some (.ref l))
  z : ∃ t, CellIn s L h (L + 3) (some (.int n t))
theorem Ld.keep {s : Shared} {L : Addr} {b : Array UInt8} {u : Tok} {l : Addr} {n : Nat} {h h' : Heap} (x : Ld s L b u l n h) (k : ∀ q o, (q = L + 1 ∨ q = L + 2 ∨ q = L + 3) → h.get? q = some o → h'.get? q = some o) : Ld s L b u l n h' :=
  ⟨x.o.keep fun o e => k _ o (.inl rfl) e, x.p.keep fun o e => k _ o (.inr (.inl rfl)) e, let ⟨t, z⟩ := x.z; ⟨t, z.keep fun o e => k _ o (.inr (.inr rfl)) e⟩⟩
theorem Ld.sb {s : Shared} {L : Addr} {b : Array UInt8} {u : Tok} {l : Addr} {n : Nat} {h h' : Heap} {a : Addr} (x : Ld s L b u l n h) (sb : Heap.SameBut a h h') (h1 : L + 1 ≠ a) (h2 : L + 2 ≠ a) (h3 : L + 3 ≠ a) : Ld s L b u l n h' :=
  x.keep fun q o hq e => (sb.2 _ (by rcases hq with rfl | rfl | rfl <;> assumption)).trans e
theorem Ld.adv {s : Shared} {L : Addr} {b : Array UInt8} {u : Tok} {l : Addr} {n : Nat} {h h' : Heap} {g g' : Array GenState} {d d' : Drawn} {o o' : OsState} (x : Ld s L b u l n h) (a : AdvH h g d o h' g' d' o') : Ld s L b u l n h' :=
  x.keep fun q o hq e => a.keep q o (by rcases hq with rfl | rfl | rfl; exact ne_T x.o.hi; exact ne_T x.p.hi; obtain ⟨t, z⟩ := x.z; exact ne_T z.hi) e
theorem Ld.lt {s : Shared} {L : Addr} {b : Array UInt8} {u : Tok} {l : Addr} {n : Nat} {h : Heap} (x : Ld s L b u l n h) : L + 1 < h.objs.size ∧ L + 2 < h.objs.size ∧ L + 3 < h.objs.size := ⟨x.o.lt, x.p.lt, let ⟨_, z⟩ := x.z; z.lt⟩

set_option maxHeartbeats 4000000 in
theorem laid_ok {w : World} {A : Around} {E : Value → Shared → Prop} {s : Shared} {mg mb : Str → Option Value} {Q : Value → Shared → Prop} {f l : Addr} {b : Array UInt8} {u : Tok} {pm code : Value} {vs : List Value} {ps : List Int}
    (hh : A.handled = none) (hroom : A.depth + 1 < recursionLimit) (G : Gl mg mb s.heap) (N : Nm mg) (hf : FnAt s.heap f stLaid "_law_laid" pm code)
    (hb : b.size ≤ 64) (hl : LstAt s.heap l vs) (hi : IntsAre vs ps) (hsm : ∀ p ∈ ps, -1000 ≤ p ∧ p ≤ 1000) (hlen : ps.length ≤ 64)
    (hQ : (∀ k, k < ps.length → k < b.size → inR ps.length (ps.getD k 0)) → (∀ i, i < ps.length → layF ps.length ps b (min ps.length b.size) i ≠ none) →
      ∀ s' t, Adv s s' → Q (.bytes (byteArr ((List.range ps.length).map fun i => (layF ps.length ps b (min ps.length b.size) i).getD 0)) t) s')
    (hI : ∀ k, k < ps.length → k < b.size → ¬ inR ps.length (ps.getD k 0) → ∀ s' t, Adv s s' → Q (.str "IndexError" t) s')
    (hT : (∀ k, k < ps.length → k < b.size → inR ps.length (ps.getD k 0)) → ∀ i, i < ps.length → layF ps.length ps b (min ps.length b.size) i = none → ∀ s' t, Adv s s' → Q (.str "TypeError" t) s') :
    wpAny (M w) A (call (.ref f) [.bytes b u, .ref l]) Q E s := by
  refine enterC (by omega) G hf bodLaid.2 (binds := [("octets", .bytes b u), ("places", .ref l)]) rfl ?_ (fun s₁ L A' eL eA dA hA IC B eg ed eo => ?_)
  · intro y hy
    simp only [List.mem_cons, List.not_mem_nil, or_false] at hy
    rcases hy with rfl | rfl
    · exact .inr ⟨by dsimp only; decide, by kernel_rfl⟩
    · exact .inr ⟨by dsimp only; decide, by kernel_rfl⟩
  obtain ⟨h₁, g₁, d₁, tk, o₁⟩ := s₁
  dsimp only at eg ed eo B
  subst eg ed eo
  have hha : A'.handled = none := by rw [hA]; exact hh
  have cellAt : ∀ j : Nat, 0 < j → ∀ v, h₁.IsCell (L + j) v → CellIn s L h₁ (L + j) v := fun j hj v i => ⟨i, Heap.get?_none_of_le (by rw [← eL]; exact Nat.le_add_right ..), by show (L + j : Nat) ≠ L; omega, Nat.le_trans B.hi (Nat.le_add_right ..)⟩
  have c1 : CellIn s L h₁ (L + 1) (some (.bytes b u)) := cellAt 1 (by decide) _ (IC.cell "octets" _ (by kernel_rfl))
  have c2 : CellIn s L h₁ (L + 2) (some (.ref l)) := cellAt 2 (by decide) _ (IC.cell "places" _ (by kernel_rfl))
  have c3 : CellIn s L h₁ (L + 3) none := cellAt 3 (by decide) _ (IC.cell "size" _ (by kernel_rfl))
  have c4 : CellIn s L h₁ (L + 4) none := cellAt 4 (by decide) _ (IC.cell "place" _ (by kernel_rfl))
  clear cellAt IC
  have hvz : vs.toArray.size = ps.length := by simpa using ints_len hi
  delta bodLaid
  dsimp only
  walk_at "as"
  with_reducible refine rdB (G.adv B.adv) N.len b_len ?_
  walk_at "as"
  with_reducible refine rdC c2.is ?_
  walk_at "as"
  dsimp only [List.nil_append]
  refine call_len_list (hl.adv B.adv).is (by rw [hvz]; omega) ?_
  rw [hvz]
  refine stC B c3 fun h₂ B₂ c3 sb₂ => ?_
  have X : Ld s L b u l ps.length h₂ := ⟨c1.keep fun o e => (sb₂.2 _ (by show (L + 1 : Nat) ≠ L + 3; omega)).trans e, c2.keep fun o e => (sb₂.2 _ (by show (L + 2 : Nat) ≠ L + 3; omega)).trans e, _, c3⟩
  replace c4 := c4.keep fun o e => (sb₂.2 _ (by show (L + 4 : Nat) ≠ L + 3; omega)).trans e
  clear c1 c2 sb₂
  walk_at "as"
  with_reducible refine rdB (G.adv B₂.adv) N.min b_min ?_
  obtain ⟨tz, c3⟩ := X.z
  walk_at "as"
  with_reducible refine rdC c3.is ?_
  walk_at "as"
  with_reducible refine rdB (G.adv B₂.adv) N.len b_len ?_
  walk_at "as"
  with_reducible refine rdC X.o.is ?_
  walk_at "as"
  dsimp only [List.nil_append]
  refine len_bytes (by omega) ?_
  walk_at "as"
  dsimp only [List.cons_append, List.nil_append]
  refine min_two_ints hha fun h₃ tk₃ kp₃ => ?_
  dsimp only at kp₃ ⊢
  have emin : ∀ {t1 t2 : Tok}, (if (b.size : Int) < (ps.length : Int) then Value.int b.size t1 else .int ps.length t2) = .int ((min ps.length b.size : Nat) : Int) (if (b.size : Int) < (ps.length : Int) then t1 else t2) := fun {t1 t2} => by
    by_cases q : (b.size : Int) < (ps.length : Int)
    · rw [if_pos q, if_pos q, Nat.min_eq_right (by omega)]
    · rw [if_neg q, if_neg q, Nat.min_eq_left (by omega)]
  rw [emin]
  generalize (if (b.size : Int) < (ps.length : Int) then _ else _ : Tok) = tmany
  have B₃ := B₂.step (AdvH.ext (g := s.gens) (d := s.drawn) (o := s.os) kp₃)
  have X₃ := X.adv (AdvH.ext (g := s.gens) (d := s.drawn) (o := s.os) kp₃)
  have P₃ := c4.keep (kp₃ _)
  have neX : ∀ j : Nat, L + j ≠ L ∨ j = 0 := fun j => by by_cases q : j = 0; exact .inr q; exact .inl (by show (L + j : Nat) ≠ L; omega)
  refine stL B₃ fun h₄ tk₄ B₄ sb₄ => ?_
  have X₄ := X₃.sb sb₄ X₃.o.ne X₃.p.ne (let ⟨_, z⟩ := X₃.z; z.ne)
  have P₄ := P₃.keep fun o e => (sb₄.2 _ P₃.ne).trans e
  clear c3 c4 B X P₃ X₃ B₃ B₂ neX sb₄
  walk_at "as"
  with_reducible refine rdB (G.adv B₄.adv) N.range b_range ?_
  walk_at "as"
  with_reducible refine rdL B₄ (by walk_at "lk") ?_
  walk_at "as"
  dsimp only [List.nil_append]
  refine iter_range B₄ (by omega) fun h₅ IT tk₅ B₅ a₅ r₅ z₅ => ?_
  have X₅ := X₄.adv a₅
  have P₅ := P₄.keep (a₅.keep _ · (ne_T P₄.hi))
  have hIT : L + 1 ≠ IT ∧ L + 2 ≠ IT ∧ L + 3 ≠ IT ∧ L + 4 ≠ IT := by
    have := X₄.lt
    exact ⟨Nat.ne_of_lt (Nat.lt_of_lt_of_le this.1 z₅), Nat.ne_of_lt (Nat.lt_of_lt_of_le this.2.1 z₅), Nat.ne_of_lt (Nat.lt_of_lt_of_le this.2.2 z₅), Nat.ne_of_lt (Nat.lt_of_lt_of_le P₄.lt z₅)⟩
  refine codeAny_forLoop_any (fun n c => ∃ i m, n = min ps.length b.size - i ∧ i ≤ min ps.length b.size ∧ (∀ j, j < i → inR ps.length (ps.getD j 0)) ∧ BdH s L m c.heap c.gens c.drawn c.os ∧ m "many" = some (.int ((min ps.length b.size : Nat) : Int) tmany) ∧ Ld s L b u l ps.length c.heap ∧ CellIn s L c.heap (L + 4) none ∧ RecIn s L c.heap IT (rIt i ((min ps.length b.size : Nat) - (i : Int)))) ?_ (min ps.length b.size)
    ⟨0, _, rfl, Nat.zero_le _, fun j hj => absurd hj (Nat.not_lt_zero _), B₅, by walk_at "lk", X₅, P₅, by simpa using r₅⟩
  rintro n ⟨h, g, d, t, o⟩ ⟨i, m, rfl, le, ok, B, m1, X, P, r⟩
  dsimp only at B X P r
  by_cases hlt : i < min ps.length b.size
  · refine wpAny_pyNext_range_item (s := ⟨h, g, d, t, o⟩) (x := i) (left := ((min ps.length b.size : Nat) : Int) - i) (step := 1) r.obj (by omega) fun h₄ r₄ sb₄ => ?_
    dsimp only
    replace B := B.mut sb₄ r.old r.ne r.hi
    replace X := X.sb sb₄ hIT.1 hIT.2.1 hIT.2.2.1
    replace P := P.keep fun o e => (sb₄.2 _ hIT.2.2.2).trans e
    have r₄ : RecIn s L h₄ IT (rIt (i + 1 : Nat) ((min ps.length b.size : Nat) - ((i + 1 : Nat) : Int))) := ⟨by rw [show ((i + 1 : Nat) : Int) = (i : Int) + 1 by omega, show ((min ps.length b.size : Nat) : Int) - ((i : Int) + 1) = ((min ps.length b.size : Nat) : Int) - i - 1 by omega]; exact r₄, r.old, r.ne, r.hi⟩
    with_reducible refine xLot (wpAny_assign_Name (stL B fun h₅ tk₅ B₅ sb₅ => ?_))
    have r₅ := r₄.same sb₅ r₄.ne
    have X₅ := X.sb sb₅ X.o.ne X.p.ne (let ⟨_, z⟩ := X.z; z.ne)
    have P₅ := P.keep fun o e => (sb₅.2 _ P.ne).trans e
    generalize hm6 : upd m "k" _ = m6 at B₅
    have n1 : m6 "many" = some (.int ((min ps.length b.size : Nat) : Int) tmany) := by subst hm6; walk_at "lk"
    have n2 : m6 "k" = some (.int i t) := by subst hm6; walk_at "lk"
    clear hm6 m1
    obtain ⟨tz, c3⟩ := X₅.z
    have hil : i < ps.length := by omega
    have hib : i < b.size := by omega
    have hpm : ps.getD i 0 ∈ ps := mem_getD hil
    have hps := hsm _ hpm
    walk_at "as"
    with_reducible refine rdC X₅.p.is ?_
    with_reducible refine rdL B₅ n2 ?_
    refine get_l (hl.adv B₅.adv) hi hil rfl (by omega) fun t₆ => ?_
    walk_at "as"
    with_reducible refine rdC c3.is ?_
    walk_at "as"
    by_cases k1 : ps.getD i 0 < -(ps.length : Int)
    · rw [if_pos (by simpa using k1)]
      simp only [if_true]
      walk_at "as"
      exact hI i hil hib (fun q => by have := q.1; omega) ⟨h₅, g, d, _, o⟩ _ B₅.adv
    · rw [if_neg (by simpa using k1)]
      walk_at "as"
      with_reducible refine rdC X₅.p.is ?_
      with_reducible refine rdL B₅ n2 ?_
      refine get_l (hl.adv B₅.adv) hi hil rfl (by omega) fun t₇ => ?_
      walk_at "as"
      with_reducible refine rdC c3.is ?_
      walk_at "as"
      by_cases k2 : ps.getD i 0 ≥ (ps.length : Int)
      · rw [if_pos (by simpa using k2)]
        simp only [if_true]
        walk_at "as"
        exact hI i hil hib (fun q => by have := q.2; omega) ⟨h₅, g, d, _, o⟩ _ B₅.adv
      · rw [if_neg (by simpa using k2)]
        walk_at "as"
        rw [if_neg (by decide)]
        walk_at "as"
        refine ⟨min ps.length b.size - (i + 1), by omega, i + 1, m6, rfl, hlt, fun j hj => ?_, B₅, n1, X₅, P₅, r₅⟩
        rcases Nat.lt_succ_iff_lt_or_eq.mp hj with h | h
        · exact ok j h
        · rw [h]; exact ⟨by omega, by omega⟩
  · have hok : ∀ k, k < ps.length → k < b.size → inR ps.length (ps.getD k 0) := fun k h1 h2 => ok k (by omega)
    refine wpAny_pyNext_range_end (s := ⟨h, g, d, t, o⟩) (x := i) (left := ((min ps.length b.size : Nat) : Int) - i) (step := 1) hha r.obj (by omega) fun h₄ ex => ?_
    have ex : Heap.ExtBut IT h h₄ := ex
    dsimp only
    have B₆ := B.mutE ex r.old r.ne r.hi
    have X₆ := X.keep fun q o hq e => ex q o (by rcases hq with rfl | rfl | rfl; exact hIT.1; exact hIT.2.1; exact hIT.2.2.1) e
    have P₆ := P.keep (ex _ · hIT.2.2.2)
    clear B X P r ex hIT a₅ r₅ z₅ X₅ P₅ B₅ X₄ P₄ B₄ ok
    refine wpAny_execs_nil ?_
    dsimp only
    refine wpAny_execs_cons (xAssign (new_list B₆ fun h₇ D B₇ a₇ l₇ z₇ => stL B₇ fun h₈ tk₈ B₈ sb₈ => ?_))
    have l₈ := l₇.same sb₈ l₇.ne
    have X₇ := X₆.adv a₇
    have P₇ := P₆.keep (a₇.keep _ · (ne_T P₆.hi))
    have X₈ := X₇.sb sb₈ X₇.o.ne X₇.p.ne (let ⟨_, z⟩ := X₇.z; z.ne)
    have P₈ := P₇.keep fun o e => (sb₈.2 _ P₇.ne).trans e
    have hD : L + 1 ≠ D ∧ L + 2 ≠ D ∧ L + 3 ≠ D ∧ L + 4 ≠ D := by
      have := X₆.lt
      exact ⟨Nat.ne_of_lt (Nat.lt_of_lt_of_le this.1 z₇), Nat.ne_of_lt (Nat.lt_of_lt_of_le this.2.1 z₇), Nat.ne_of_lt (Nat.lt_of_lt_of_le this.2.2 z₇), Nat.ne_of_lt (Nat.lt_of_lt_of_le P₆.lt z₇)⟩
    generalize hm8 : upd m "out" _ = m8 at B₈
    have o1 : m8 "many" = some (.int ((min ps.length b.size : Nat) : Int) tmany) := by subst hm8; walk_at "lk"
    have o2 : m8 "out" = some (.ref D) := by subst hm8; walk_at "lk"
    clear hm8 m1 X₆ P₆ X₇ P₇ a₇ l₇ B₇ sb₈ z₇ B₆
    walk_at "as"
    with_reducible refine rdB (G.adv B₈.adv) N.range b_range ?_
    walk_at "as"
    obtain ⟨tz, c3⟩ := X₈.z
    with_reducible refine rdC c3.is ?_
    walk_at "as"
    dsimp only [List.nil_append]
    refine iter_range B₈ (by omega) fun h₅ IT tk₅ B₅ a₅ r₅ z₅ => ?_
    have X₅ := X₈.adv a₅
    have P₅ := P₈.keep (a₅.keep _ · (ne_T P₈.hi))
    have l₅ := l₈.adv a₅
    have hIT : L + 1 ≠ IT ∧ L + 2 ≠ IT ∧ L + 3 ≠ IT ∧ L + 4 ≠ IT := by
      have := X₈.lt
      exact ⟨Nat.ne_of_lt (Nat.lt_of_lt_of_le this.1 z₅), Nat.ne_of_lt (Nat.lt_of_lt_of_le this.2.1 z₅), Nat.ne_of_lt (Nat.lt_of_lt_of_le this.2.2 z₅), Nat.ne_of_lt (Nat.lt_of_lt_of_le P₈.lt z₅)⟩
    have hDI : D ≠ IT := by
      obtain ⟨n, e⟩ := l₈.obj
      exact Nat.ne_of_lt (Nat.lt_of_lt_of_le (Heap.lt_size e) z₅)
    clear X₈ P₈ l₈ a₅ z₅ B₈ c3 tz
    refine codeAny_forLoop_any (fun n c => ∃ i m v us, n = ps.length - i ∧ i ≤ ps.length ∧ (∀ j, j < i → layF ps.length ps b (min ps.length b.size) j ≠ none) ∧ BdH s L m c.heap c.gens c.drawn c.os ∧ m "many" = some (.int ((min ps.length b.size : Nat) : Int) tmany) ∧ m "out" = some (.ref D) ∧ Ld s L b u l ps.length c.heap ∧ CellIn s L c.heap (L + 4) v ∧ RecIn s L c.heap IT (rIt i ((ps.length : Int) - (i : Int))) ∧
        LstIn s L c.heap D us ∧ IntsAre us ((List.range i).map fun j => (layF ps.length ps b (min ps.length b.size) j).getD 0)) ?_ ps.length
      ⟨0, _, _, [], rfl, Nat.zero_le _, fun j hj => absurd hj (Nat.not_lt_zero _), B₅, o1, o2, X₅, P₅, by simpa using r₅, l₅, .nil⟩
    clear B₅ X₅ P₅ r₅ l₅ o1 o2
    rintro n ⟨h, g, d, t, o⟩ ⟨i, m, v, us, rfl, le, ok, B, m1, m2, X, P, r, I, iu⟩
    dsimp only at B X P r I
    have hz : us.length = i := by rw [ints_len iu]; simp
    by_cases hlt : i < ps.length
    · refine wpAny_pyNext_range_item (s := ⟨h, g, d, t, o⟩) (x := i) (left := (ps.length : Int) - i) (step := 1) r.obj (by omega) fun h₄ r₄ sb₄ => ?_
      dsimp only
      replace B := B.mut sb₄ r.old r.ne r.hi
      replace X := X.sb sb₄ hIT.1 hIT.2.1 hIT.2.2.1
      replace P := P.keep fun o e => (sb₄.2 _ hIT.2.2.2).trans e
      replace I := I.same sb₄ hDI
      have r₄ : RecIn s L h₄ IT (rIt (i + 1 : Nat) ((ps.length : Int) - ((i + 1 : Nat) : Int))) := ⟨by rw [show ((i + 1 : Nat) : Int) = (i : Int) + 1 by omega, show (ps.length : Int) - ((i : Int) + 1) = (ps.length : Int) - i - 1 by omega]; exact r₄, r.old, r.ne, r.hi⟩
      with_reducible refine xLot (wpAny_assign_Name (stC B P fun h₅ B₅ P₅ sb₅ => ?_))
      have r₅ := r₄.same sb₅ (Ne.symm hIT.2.2.2)
      have X₅ := X.sb sb₅ (by show (L + 1 : Nat) ≠ L + 4; omega) (by show (L + 2 : Nat) ≠ L + 4; omega) (by show (L + 3 : Nat) ≠ L + 4; omega)
      have I₅ := I.same sb₅ (Ne.symm hD.2.2.2)
      clear X P r r₄ I B sb₄ sb₅
      refine wpAny_execs_cons ?_
      refine lc_assign (cl := [("size", L + 3), ("places", L + 2), ("place", L + 4), ("octets", L + 1)]) (s := s) (L := L) (m := m) rfl (by kernel_rfl) (by decide) rfl (by decide) rfl ?_
      walk_at "as"
      with_reducible refine rdB (G.adv B₅.adv) N.range b_range ?_
      walk_at "as"
      with_reducible refine rdL B₅ m1 ?_
      walk_at "as"
      dsimp only [List.nil_append]
      refine iter_range B₅ (by omega) fun h₆ I6 tk₆ B₆ a₆ r₆ z₆ => ?_
      have X₆ := X₅.adv a₆
      have P₆ := P₅.keep (a₆.keep _ · (ne_T P₅.hi))
      have I₆ := I₅.adv a₆
      have r6 := r₅.adv a₆
      have h6 : L + 1 ≠ I6 ∧ L + 2 ≠ I6 ∧ L + 3 ≠ I6 ∧ L + 4 ≠ I6 ∧ D ≠ I6 ∧ IT ≠ I6 := by
        have := X₅.lt
        obtain ⟨n, e⟩ := I₅.obj
        exact ⟨Nat.ne_of_lt (Nat.lt_of_lt_of_le this.1 z₆), Nat.ne_of_lt (Nat.lt_of_lt_of_le this.2.1 z₆), Nat.ne_of_lt (Nat.lt_of_lt_of_le this.2.2 z₆), Nat.ne_of_lt (Nat.lt_of_lt_of_le P₅.lt z₆), Nat.ne_of_lt (Nat.lt_of_lt_of_le (Heap.lt_size e) z₆), Nat.ne_of_lt (Nat.lt_of_lt_of_le (Heap.lt_size r₅.obj) z₆)⟩
      clear X₅ P₅ I₅ r₅ B₅ a₆ z₆
      refine ⟨I6, [I6], min ps.length b.size, _, _, fun k ys => IntsAre ys (foundAt ps.length ps b i k), rfl, B₆, PyProof.Rows.LCg.range_walks hha 0 (min ps.length b.size), by omega, ?_, fun q hq => by rw [List.mem_singleton.mp hq]; exact Heap.lt_size r₆.obj, by
        rw [List.mem_singleton]; exact Ne.symm (ne_T r₆.hi), ⟨r₆.old, r₆.hi, r₆.ne⟩, .nil, ?_, ?_⟩
      · have := r₆.obj
        show IsRangeIter _ _ _ _ _
        simpa [rIt, IsRangeIter] using this
      · intro k v C mC h g' d' tk o' ys E' hk hP hR B kb ns hv hC
        obtain ⟨tk', rfl⟩ := hP
        have X := X₆.keep fun q o hq e => kb q o (by rcases hq with rfl | rfl | rfl; exact ne_T X₆.o.hi; exact ne_T X₆.p.hi; obtain ⟨t, z⟩ := X₆.z; exact ne_T z.hi) (by rcases hq with rfl | rfl | rfl; exact h6.1; exact h6.2.1; exact h6.2.2.1) e
        have P := P₆.keep (kb _ · (ne_T P₆.hi) h6.2.2.2.1)
        obtain ⟨tz, c3⟩ := X.z
        have hkl : k < ps.length := by omega
        have hkb : k < b.size := by omega
        have hin := hok k hkl hkb
        refine wpAny_tests_one ?_
        walk_at "as"
        with_reducible refine rdC X.p.is ?_
        with_reducible refine rdN ns hv ?_
        refine get_l (hl.adv B.adv) hi hkl (by omega) (by omega) fun t₇ => ?_
        with_reducible refine rdC c3.is ?_
        with_reducible refine PyProof.Rows.mod_int' (by omega) ?_
        with_reducible refine rdC P.is ?_
        walk_at "as"
        rw [fmod_ix hin]
        refine ⟨Adv.refl ⟨h, g', d', 0, o'⟩, ?_⟩
        by_cases q : ixP ps.length (ps.getD k 0) = i
        · rw [if_pos (by rw [beq_iff_eq]; omega)]
          walk_at "as"
          with_reducible refine rdC X.o.is ?_
          with_reducible refine rdN ns hv ?_
          refine subscriptTail_builtin (typeIs_bytes _ _ _) FB.slot_bytes_getitem.lookup ?_
          refine get_b (by omega) (by unfold inR; omega) fun t₈ tk₈ => ?_
          rw [show (0 + (k : Int)) = (k : Int) by omega, ixP_nat]
          refine ⟨Adv.refl ⟨h, g', d', 0, o'⟩, ?_⟩
          show IntsAre _ _
          rw [found_succ, if_pos q]
          exact ints_snoc hR _ _
        · rw [if_neg (by rw [beq_iff_eq]; omega)]
          show IntsAre _ _
          rw [found_succ, if_neg q]
          exact hR
      · intro D2 h₇ g₇ d₇ tk₇ o₇ ys B₇ l₇ hR kb
        have X := X₆.keep fun q o hq e => kb q o (by rcases hq with rfl | rfl | rfl; exact ne_T X₆.o.hi; exact ne_T X₆.p.hi; obtain ⟨t, z⟩ := X₆.z; exact ne_T z.hi) (by rcases hq with rfl | rfl | rfl; exact h6.1; exact h6.2.1; exact h6.2.2.1) (by rcases hq with rfl | rfl | rfl; exact X₆.o.ne; exact X₆.p.ne; obtain ⟨t, z⟩ := X₆.z; exact z.ne) e
        have P := P₆.keep (kb _ · (ne_T P₆.hi) h6.2.2.2.1 P₆.ne)
        have r₇ : RecIn s L h₇ IT _ := ⟨kb _ _ (ne_T r6.hi) h6.2.2.2.2.2 r6.ne r6.obj, r6.old, r6.ne, r6.hi⟩
        have I₇ : LstIn s L h₇ D us := ⟨let ⟨n, e⟩ := I₆.obj; ⟨n, kb _ _ (ne_T I₆.hi) h6.2.2.2.2.1 I₆.ne e⟩, I₆.old, I₆.ne, I₆.hi⟩
        have hyl : ys.length ≤ 1000 := by
          rw [ints_len hR]
          exact Nat.le_trans found_len (by omega)
        generalize hm7 : upd m "found" _ = m7 at B₇
        have n1 : m7 "many" = some (.int ((min ps.length b.size : Nat) : Int) tmany) := by subst hm7; walk_at "lk"
        have n2 : m7 "out" = some (.ref D) := by subst hm7; walk_at "lk"
        have n3 : m7 "found" = some (.ref D2) := by subst hm7; walk_at "lk"
        clear hm7 m1 m2 X₆ P₆ I₆ r6 B₆ r₆
        walk_at "as"
        with_reducible refine rdL B₇ n3 ?_
        refine wpAny_truthy_list l₇.lst.is (by simp; omega) ?_
        have hlay := found_lay (n := ps.length) (ps := ps) (b := b) (i := i) (k := min ps.length b.size)
        have hyf := ints_len hR
        by_cases he : ys = []
        · subst he
          rw [if_pos (by decide)]
          walk_at "as"
          have h0 : foundAt ps.length ps b i (min ps.length b.size) = [] := List.eq_nil_of_length_eq_zero (by rw [← hyf]; rfl)
          rw [h0] at hlay
          exact hT hok i hlt hlay.symm ⟨h₇, g₇, d₇, _, o₇⟩ _ B₇.adv
        · have hne : ys.length ≠ 0 := fun q => he (List.eq_nil_of_length_eq_zero q)
          rw [if_neg (by simpa using he)]
          have hj : ys.length - 1 < (foundAt ps.length ps b i (min ps.length b.size)).length := by omega
          obtain ⟨t₈, hx⟩ := ints_at hR _ hj
          have hz' : layF ps.length ps b (min ps.length b.size) i = some ((foundAt ps.length ps b i (min ps.length b.size)).getD (ys.length - 1) 0) := by
            rw [← hlay, List.getLast?_eq_getElem?, ← hyf, List.getD_eq_getElem?_getD, List.getElem?_eq_getElem hj]
            rfl
          generalize (foundAt ps.length ps b i (min ps.length b.size)).getD (ys.length - 1) 0 = z at hx hz'
          walk_at "as"
          with_reducible refine rdL B₇ n2 ?_
          with_reducible refine get_append I₇ ?_
          walk_at "as"
          with_reducible refine rdL B₇ n3 ?_
          walk_at "as"
          refine tail_any (T := "list") (id := "list.__getitem__") (let ⟨o, ho, hc, _⟩ := l₇.lst.is; ⟨o, ho, hc⟩) slot_list_getitem.lookup ?_ (by with_unfolding_all rfl)
          refine wpAny_getItem_list_neg l₇.lst.is (by decide) (by simp; omega) (by decide) (x := .int z t₈) ?_ ?_
          · rw [show ((-1 : Int) + (ys.toArray.size : Int)).toNat = ys.length - 1 by simp; omega]
            simpa using hx
          walk_at "as"
          dsimp only [List.cons_append, List.nil_append]
          refine app_own B₇ I₇ (by omega) fun h' B' I' sb' => ?_
          repeat with_reducible refine wpAny_execs_nil ?_
          refine ⟨ps.length - (i + 1), by omega, i + 1, m7, _, us ++ [.int z t₈], rfl, hlt, fun j hj => ?_, B', n1, n2, X.sb sb' hD.1 hD.2.1 hD.2.2.1, P.keep fun o e => (sb'.2 _ hD.2.2.2).trans e, r₇.same sb' (Ne.symm hDI), I', ?_⟩
          · rcases Nat.lt_succ_iff_lt_or_eq.mp hj with h | h
            · exact ok j h
            · rw [h, hz']; exact fun q => (nomatch q)
          · rw [List.range_succ, List.map_append, List.map_cons, List.map_nil, hz']
            exact ints_snoc iu _ _
    · have ei : i = ps.length := by omega
      rw [ei] at iu ok
      refine wpAny_pyNext_range_end (s := ⟨h, g, d, t, o⟩) (x := i) (left := (ps.length : Int) - i) (step := 1) hha r.obj (by omega) fun h₄ ex => ?_
      have ex : Heap.ExtBut IT h h₄ := ex
      have B₄ := B.mutE ex r.old r.ne r.hi
      have I₄ : LstAt h₄ D us := ⟨let ⟨n, e⟩ := I.obj; ⟨_, ex _ _ hDI e, rfl, n, rfl⟩, I.hi⟩
      dsimp only
      walk_at "as"
      with_reducible refine rdB (G.adv B₄.adv) N.bytes b_bytes ?_
      walk_at "as"
      with_reducible refine rdL B₄ m2 ?_
      walk_at "as"
      dsimp only [List.nil_append]
      refine call_bytes_ints I₄.is iu (fun z hz => ?_) (by rw [sizeLine_eq]; omega) hha fun h₅ t₅ tk₅ kp₅ => ?_
      · obtain ⟨j, hj, rfl⟩ := List.mem_map.1 hz
        cases hz : layF ps.length ps b (min ps.length b.size) j with
        | none => exact ⟨Int.le_refl _, by decide⟩
        | some z => exact layF_rng hz
      · exact hQ hok (fun j hj => ok j hj) ⟨h₅, g, d, tk₅, o⟩ t₅ (B₄.adv.trans (AdvH.ext kp₅))
/-! P2 -/
structure CmOk (cm : Array UInt8) : Prop where
  size : cm.size = 64
  nodup : (bl cm).Nodup

theorem byteAt_bl (b : Array UInt8) (j : Nat) : byteAt b j = (((bl b).getD j 0 : Nat) : Int) := by rw [byteAt_fOf]; rfl
theorem u8_of (c : UInt8) : ((c.toNat : Int)).toNat.toUInt8 = c := by
  apply UInt8.toNat_inj.mp
  have := c.toNat_lt
  simp only [Int.toNat_natCast, Nat.toUInt8, UInt8.toNat_ofNat']
  omega
theorem byteArr_bl (b : Array UInt8) : byteArr (zs (bl b)) = b := by
  unfold byteArr zs bl
  rw [List.map_map, List.map_map]
  have : (List.map (((fun n : Int => n.toNat.toUInt8) ∘ (fun n : Nat => (n : Int))) ∘ UInt8.toNat) b.toList) = b.toList := by
    rw [List.map_congr_left (g := id) (fun c _ => by simpa using u8_of c), List.map_id]
  rw [this]

theorem byteAt_arr {l : List Int} (h : ∀ z ∈ l, 0 ≤ z ∧ z < 256) {j : Nat} (hj : j < l.length) : byteAt (byteArr l) j = l.getD j 0 := by
  rw [byteAt_bl, bl_byteArr h, List.getD_eq_getElem?_getD, List.getD_eq_getElem?_getD, List.getElem?_map, List.getElem?_eq_getElem hj]
  have := h _ (List.getElem_mem hj)
  show ((l[j].toNat : Nat) : Int) = l[j]
  omega

theorem enc_toList {cm : Array UInt8} {big : Bool} {l : List Nat} (hc : CmOk cm) (h : ∀ x ∈ l, x < 256) : (encB cm big l).toList.map (ixOf cm) = encN big l := by
  unfold encB byteArr
  simp only [List.map_map]
  rw [List.map_congr_left (g := id) (fun z hz => ?_), List.map_id]
  have hz64 := enc_lt big l h z hz
  have hzl : z < (bl cm).length := by rw [bl_len, hc.size]; exact hz64
  show (bl cm).idxOf ((byteAt cm z).toNat.toUInt8).toNat = z
  have e : ((byteAt cm z).toNat.toUInt8).toNat = (bl cm)[z] := by
    rw [byteAt_bl, List.getD_eq_getElem?_getD, List.getElem?_eq_getElem hzl]
    have := bl_lt cm _ (List.getElem_mem hzl)
    simp only [Option.getD_some, Int.toNat_natCast, Nat.toUInt8, UInt8.toNat_ofNat']
    omega
  rw [e]
  exact hc.nodup.idxOf_getElem z hzl
theorem dec_encB {cm : Array UInt8} {big : Bool} {b : Array UInt8} (hc : CmOk cm) : decB cm big (encB cm big (bl b)) = b := by
  unfold decB
  rw [enc_toList hc (bl_lt b), dec_enc big _ (bl_lt b), byteArr_bl]
theorem enc_size {cm : Array UInt8} {big : Bool} {l : List Nat} : (encB cm big l).size = l.length / 3 * 4 + (if l.length % 3 = 0 then 0 else l.length % 3 + 1) := by
  unfold encB
  rw [byteArr_size, List.length_map, enc_len]
theorem enc_in {cm : Array UInt8} {big : Bool} {l : List Nat} (hc : CmOk cm) (h : ∀ x ∈ l, x < 256) : ∀ c ∈ (encB cm big l).toList, c.toNat ∈ bl cm := by
  intro c hcm
  have h1 : ixOf cm c ∈ (encB cm big l).toList.map (ixOf cm) := List.mem_map.2 ⟨c, hcm, rfl⟩
  rw [enc_toList hc h] at h1
  have := enc_lt big l h _ h1
  unfold ixOf at this
  apply List.idxOf_lt_length_iff.mp
  rw [bl_len, hc.size]
  exact this

theorem taken_all {b : Array UInt8} {ps : List Int} (h : allIn b ps) : takenTo b ps = ps.map fun p => byteAt b (ixP b.size p) := by
  unfold takenTo
  congr 1
  induction ps with
  | nil => rfl
  | cons p r ih =>
    rw [List.takeWhile_cons_of_pos (by simpa using h p List.mem_cons_self), ih fun q hq => h q (List.mem_cons_of_mem _ hq)]

def tkOf (b : Array UInt8) (ps : List Int) : Array UInt8 := byteArr (ps.map fun p => byteAt b (ixP b.size p))
theorem tk_rng {b : Array UInt8} {ps : List Int} : ∀ z ∈ ps.map (fun p => byteAt b (ixP b.size p)), 0 ≤ z ∧ z < 256 := by
  intro z hz
  obtain ⟨p, _, rfl⟩ := List.mem_map.1 hz
  exact byteAt_rng _ _
theorem bl_tk {b : Array UInt8} {ps : List Int} (h : allIn b ps) : bl (tkOf b ps) = (takenTo b ps).map Int.toNat := by
  rw [taken_all h]
  exact bl_byteArr tk_rng
theorem tk_size {b : Array UInt8} {ps : List Int} : (tkOf b ps).size = ps.length := by unfold tkOf; rw [byteArr_size, List.length_map]

/-- the second order -/
def againOf (first : Int) (n k : Nat) : List Int := (List.range k).map fun j : Nat => ((j : Int) * j + first).fmod n
theorem again_in {first : Int} {n k : Nat} (hk : k ≤ n) : ∀ p ∈ againOf first n k, 0 ≤ p ∧ p < n := by
  intro p hp
  obtain ⟨j, hj, rfl⟩ := List.mem_map.1 hp
  have : j < k := List.mem_range.mp hj
  rw [Int.fmod_eq_emod_of_nonneg _ (Int.natCast_nonneg _)]
  exact ⟨Int.emod_nonneg _ (by omega), Int.emod_lt_of_pos _ (by omega)⟩
def ps2Of (ps as : List Int) : List Int := as.map fun a => ps.getD a.toNat 0
theorem again_law {b : Array UInt8} {ps : List Int} {first : Int} (h : allIn b ps) :
    allIn (tkOf b ps) (againOf first ps.length ps.length) ∧ allIn b (ps2Of ps (againOf first ps.length ps.length)) ∧ takenTo (tkOf b ps) (againOf first ps.length ps.length) = takenTo b (ps2Of ps (againOf first ps.length ps.length)) := by
  have h0 := again_in (first := first) (n := ps.length) (k := ps.length) (Nat.le_refl _)
  have h1 : allIn (tkOf b ps) (againOf first ps.length ps.length) := fun p hp => by
    have := h0 p hp
    unfold inR
    rw [tk_size]
    omega
  have h2 : allIn b (ps2Of ps (againOf first ps.length ps.length)) := fun q hq => by
    obtain ⟨p, hp, rfl⟩ := List.mem_map.1 hq
    have := h0 p hp
    exact h _ (mem_getD (by omega))
  refine ⟨h1, h2, ?_⟩
  rw [taken_all h1, taken_all h2]
  unfold ps2Of
  rw [List.map_map]
  apply List.map_congr_left
  intro p hp
  have hp0 := h0 p hp
  have hj : p.toNat < ps.length := by omega
  have e : ixP (tkOf b ps).size p = p.toNat := by unfold ixP; rw [if_neg (by omega)]
  rw [e]
  unfold tkOf
  rw [byteAt_arr tk_rng (by simpa using hj)]
  simp [List.getD_eq_getElem?_getD, hj]

theorem placeOf_small {ns : List Int} {way : Int} {start : Nat} {among : Nat} {k : Nat} (ha : among ≤ 9) : -1000 ≤ placeOf ns way start among k ∧ placeOf ns way start among k ≤ 1000 := by
  have e : ∀ (x m : Int), 0 < m → 0 ≤ x.fmod m ∧ x.fmod m < m := fun x m hm => by
    rw [Int.fmod_eq_emod_of_nonneg _ (by omega)]
    exact ⟨Int.emod_nonneg _ (by omega), Int.emod_lt_of_pos _ hm⟩
  unfold placeOf
  split
  · have := e ((k : Int) + cellAt ns start) (max (among : Int) 1) (by omega)
    omega
  · split
    · split
      · have := e (cellAt ns (start + k)) (2 * among) (by omega)
        omega
      · omega
    · split
      · have := e ((k : Int) + cellAt ns start) (max (among : Int) 1) (by omega)
        omega
      · have := e (cellAt ns (start + k)) (2 * among + 2) (by omega)
        omega
theorem places_small {ns : List Int} {way : Int} {start many : Nat} {among : Nat} (ha : among ≤ 9) : ∀ p ∈ placesOf ns way start many among, -1000 ≤ p ∧ p ≤ 1000 := by
  intro p hp
  obtain ⟨k, _, rfl⟩ := List.mem_map.1 hp
  exact placeOf_small ha
theorem places_len {ns : List Int} {way : Int} {start many : Nat} {among : Int} : (placesOf ns way start many among).length = many := by simp [placesOf]

def octOf (ns : List Int) (k : Nat) : List Int := (List.range k).map fun j => (cellAt ns (3 + j)).fmod 256
theorem oct_rng {ns : List Int} {k : Nat} : ∀ z ∈ octOf ns k, 0 ≤ z ∧ z < 256 := by
  intro z hz
  obtain ⟨j, _, rfl⟩ := List.mem_map.1 hz
  rw [Int.fmod_eq_emod_of_nonneg _ (by decide)]
  omega
theorem oct_len {ns : List Int} {k : Nat} : (octOf ns k).length = k := by simp [octOf]
/-! F34 -/
def litLaw : { st : Stmt // stmtAt 24 = st } := ⟨_, by
  delta stmtAt prog PySem.Challenge.pw_aj5032_01
  dsimp only [List.getElem?_cons_succ, List.getElem?_cons_zero, Option.getD_some]⟩
abbrev stLaw : Stmt := litLaw.1
def bodLaw : { b : List Stmt // fnBody stLaw = b } := ⟨_, by delta stLaw litLaw; dsimp only [fnBody]⟩

/-- the law's four cells -/
structure C4 (s : Shared) (L : Addr) (v1 v2 v3 v4 : Option Value) (h : Heap) : Prop where
  a : CellIn s L h (L + 1) v1
  b : CellIn s L h (L + 2) v2
  c : CellIn s L h (L + 3) v3
  d : CellIn s L h (L + 4) v4
theorem C4.keep {s : Shared} {L : Addr} {v1 v2 v3 v4 : Option Value} {h h' : Heap} (x : C4 s L v1 v2 v3 v4 h) (k : ∀ q o, q ≠ L → q ≤ L + 4 → q ≠ T → h.get? q = some o → h'.get? q = some o) : C4 s L v1 v2 v3 v4 h' :=
  ⟨x.a.keep fun o e => k _ o x.a.ne (Nat.add_le_add_left (by decide) L) (ne_T x.a.hi) e, x.b.keep fun o e => k _ o x.b.ne (Nat.add_le_add_left (by decide) L) (ne_T x.b.hi) e, x.c.keep fun o e => k _ o x.c.ne (Nat.add_le_add_left (by decide) L) (ne_T x.c.hi) e, x.d.keep fun o e => k _ o x.d.ne (Nat.add_le_add_left (by decide) L) (ne_T x.d.hi) e⟩
theorem C4.adv {s : Shared} {L : Addr} {v1 v2 v3 v4 : Option Value} {h h' : Heap} {g g' : Array GenState} {d d' : Drawn} {o o' : OsState} (x : C4 s L v1 v2 v3 v4 h) (a : AdvH h g d o h' g' d' o') : C4 s L v1 v2 v3 v4 h' := x.keep fun q o _ _ hT e => a.keep q o hT e
theorem C4.sL {s : Shared} {L : Addr} {v1 v2 v3 v4 : Option Value} {h h' : Heap} (x : C4 s L v1 v2 v3 v4 h) (sb : Heap.SameBut L h h') : C4 s L v1 v2 v3 v4 h' := x.keep fun q _ h1 _ _ e => (sb.2 q h1).trans e
theorem C4.lt {s : Shared} {L : Addr} {v1 v2 v3 v4 : Option Value} {h : Heap} (x : C4 s L v1 v2 v3 v4 h) : L + 4 < h.objs.size := x.d.lt
theorem C4.kb {s : Shared} {L I : Addr} {v1 v2 v3 v4 : Option Value} {h h' : Heap} (x : C4 s L v1 v2 v3 v4 h) (hI : L + 4 < I) (k : Kb I h h') : C4 s L v1 v2 v3 v4 h' := x.keep fun q o _ h2 hT e => k q o hT (Nat.ne_of_lt (Nat.lt_of_le_of_lt h2 hI)) e

theorem AdvC.bd {s c c' : Shared} {L : Addr} {m : Str → Option Value} {fs : List Addr} (B : BdH s L m c.heap c.gens c.drawn c.os) (a : AdvC fs c c') (hfs : ∀ q ∈ fs, q = L) : BdH s L m c'.heap c'.gens c'.drawn c'.os := by
  refine ⟨⟨fun b o hT e => a.keep b o hT (fun q => ?_) (B.adv.keep b o hT e), ?_, a.drawn.trans B.adv.drawn, a.os.trans B.adv.os, fun ps i => let ⟨_, j⟩ := B.adv.tab ps i; a.tab _ j⟩, ?_, B.old, B.hi, B.top⟩
  · rw [hfs b q, B.old] at e; cases e
  · obtain ⟨k, hk⟩ := B.adv.gens
    obtain ⟨l, hl⟩ := a.gens
    exact ⟨k + l, by rw [hl, hk, Array.append_assoc, Array.replicate_append_replicate]⟩
  · obtain ⟨o, es, ep, e, hd, r⟩ := B.ns
    obtain ⟨sl, e'⟩ := a.slots L o (ne_T B.hi) e fun vs q => by rw [hd] at q; cases q
    exact ⟨_, es, ep, e', hd, r⟩
theorem C4.advC {s c c' : Shared} {L : Addr} {v1 v2 v3 v4 : Option Value} {fs : List Addr} (x : C4 s L v1 v2 v3 v4 c.heap) (a : AdvC fs c c') (hfs : ∀ q ∈ fs, q = L) : C4 s L v1 v2 v3 v4 c'.heap := x.keep fun q o h1 _ hT e => a.keep q o hT (fun z => h1 (hfs q z)) e

structure LawNm (mg : Str → Option Value) (fc fp ft fo fl x1 x2 x3 : Addr) : Prop where
  cell : mg "_law_cell" = some (.ref fc)
  places : mg "_law_places" = some (.ref fp)
  taken : mg "_law_taken" = some (.ref ft)
  told : mg "_law_told" = some (.ref fo)
  laid : mg "_law_laid" = some (.ref fl)
  h64 : mg "h64" = some (.ref x1)
  h64big : mg "h64big" = some (.ref x2)
  bcrypt64 : mg "bcrypt64" = some (.ref x3)
structure LawFn (h : Heap) (fc fp ft fo fl : Addr) : Prop where
  cell : FnE h fc stCell "_law_cell"
  places : FnE h fp stPlaces "_law_places"
  taken : FnE h ft stTaken "_law_taken"
  told : FnE h fo stTold "_law_told"
  laid : FnE h fl stLaid "_law_laid"
theorem LawFn.adv {h h' : Heap} {g g' : Array GenState} {d d' : Drawn} {o o' : OsState} {fc fp ft fo fl : Addr} (F : LawFn h fc fp ft fo fl) (k : AdvH h g d o h' g' d' o') : LawFn h' fc fp ft fo fl := ⟨F.cell.adv k, F.places.adv k, F.taken.adv k, F.told.adv k, F.laid.adv k⟩
structure MethFn (h : Heap) : Prop where
  dec : FnE h 93 stDec "Base64Engine.decode_bytes"
  etb : ∃ pm, FnAt h 151 stEtb "Base64Engine.encode_transposed_bytes" pm (.ref 150)
  dtb : FnE h 158 stDtb "Base64Engine.decode_transposed_bytes"
theorem MethFn.adv {h h' : Heap} {g g' : Array GenState} {d d' : Drawn} {o o' : OsState} (F : MethFn h) (k : AdvH h g d o h' g' d' o') : MethFn h' := ⟨F.dec.adv k, let ⟨pm, f⟩ := F.etb; ⟨pm, f.adv k⟩, F.dtb.adv k⟩
def EngE (w : World) (h : Heap) (x : Addr) : Prop := ∃ a cm big, Eng w h x a cm big ∧ CmOk cm
theorem EngE.adv {w : World} {h h' : Heap} {g g' : Array GenState} {d d' : Drawn} {o o' : OsState} {x : Addr} (e : EngE w h x) (k : AdvH h g d o h' g' d' o') : EngE w h' x := let ⟨a, cm, big, e, c⟩ := e; ⟨a, cm, big, e.adv k, c⟩

theorem ps2_snoc {ps as : List Int} {k : Nat} (h : k < as.length) : ps2Of ps (as.take (k + 1)) = ps2Of ps (as.take k) ++ [ps.getD (as.getD k 0).toNat 0] := by
  have eg : as.getD k 0 = as[k] := by rw [List.getD_eq_getElem?_getD, List.getElem?_eq_getElem h]; rfl
  unfold ps2Of
  rw [eg, List.take_add_one, List.map_append, List.getElem?_eq_getElem h]
  rfl

set_option maxHeartbeats 4000000 in
theorem law_ok {w : World} {A : Around} {E : Value → Shared → Prop} {s : Shared} {K : Frag} {mg mb : Str → Option Value} {Q : Value → Shared → Prop} {fw fc fp ft fo fl x1 x2 x3 l : Addr} {pm code : Value} {vs : List Value} {ns : List Int}
    (hh : A.handled = none) (hfr : A.frames = some []) (hroom : A.depth + 6 < recursionLimit) (G : Gl mg mb s.heap) (N : Nm mg) (Cl : ClsOk K) (X : K.In s.heap) (hF : Fns s.heap) (hbm : BmOk mg s.heap) (hcode : ∃ ps, TabOk s.heap ps) (hM : MethFn s.heap)
    (hN : LawNm mg fc fp ft fo fl x1 x2 x3) (hL : LawFn s.heap fc fp ft fo fl) (e1 : EngE w s.heap x1) (e2 : EngE w s.heap x2) (e3 : EngE w s.heap x3) (hl : LstAt s.heap l vs) (hi : IntsAre vs ns) (hfit : ns.length ≤ 63)
    (hlaw : FnAt s.heap fw stLaw "law" pm code) (hQ : ∀ s', Adv s s' → Q (.bool true) s') : wpAny (M w) A (call (.ref fw) [.ref l]) Q E s := by
  refine enterC (by omega) G hlaw bodLaw.2 (binds := [("script", .ref l)]) rfl ?_ (fun s₁ L A' eL eA dA hA IC B eg ed eo => ?_)
  · intro y hy
    simp only [List.mem_cons, List.not_mem_nil, or_false] at hy
    rw [hy]
    exact .inr ⟨by dsimp only; decide, by kernel_rfl⟩
  obtain ⟨h₁, g₁, d₁, tk, o₁⟩ := s₁
  dsimp only at eg ed eo B
  subst eg ed eo
  have hha : A'.handled = none := by rw [hA]; exact hh
  have fr' : A'.frames = some [callEnvC (fd stLaw "law" pm code) L fw] := by rw [eA]; exact Around.frames_deeper hfr
  have cellAt : ∀ j : Nat, 0 < j → ∀ v, h₁.IsCell (L + j) v → CellIn s L h₁ (L + j) v := fun j hj v i => ⟨i, Heap.get?_none_of_le (by rw [← eL]; exact Nat.le_add_right ..), by show (L + j : Nat) ≠ L; omega, Nat.le_trans B.hi (Nat.le_add_right ..)⟩
  have C : C4 s L (some (.ref l)) none none none h₁ := ⟨cellAt 1 (by decide) _ (IC.cell "script" _ (by kernel_rfl)), cellAt 2 (by decide) _ (IC.cell "first" _ (by kernel_rfl)), cellAt 3 (by decide) _ (IC.cell "many" _ (by kernel_rfl)), cellAt 4 (by decide) _ (IC.cell "places" _ (by kernel_rfl))⟩
  clear cellAt IC
  have n12 : (L + 1 : Nat) ≠ L + 2 ∧ (L + 3 : Nat) ≠ L + 2 ∧ (L + 4 : Nat) ≠ L + 2 := by omega
  have n13 : (L + 1 : Nat) ≠ L + 3 ∧ (L + 2 : Nat) ≠ L + 3 ∧ (L + 4 : Nat) ≠ L + 3 := by omega
  have n14 : (L + 1 : Nat) ≠ L + 4 ∧ (L + 2 : Nat) ≠ L + 4 ∧ (L + 3 : Nat) ≠ L + 4 := by omega
  obtain ⟨pmc, cdc, hcell⟩ := hL.cell
  have cell : ∀ {m h g d t o k z tk} {Q : Value → Shared → Prop} {E : Value → Shared → Prop} {A₂ : Around}, BdH s L m h g d o → A₂.depth < recursionLimit → k < 1000 → z = ((k : Nat) : Int) →
      (∀ h' g' d' tk' o' t', AdvH h g d o h' g' d' o' → BdH s L m h' g' d' o' → Q (.int (cellAt ns k) t') ⟨h', g', d', tk', o'⟩) →
      wpAny (M w) A₂ (call (.ref fc) [.ref l, .int z tk]) Q E ⟨h, g, d, t, o⟩ := fun B hr hk ez k' =>
    cell_ok (s := ⟨_, _, _, _, _⟩) hr (G.adv B.adv) (hcell.adv B.adv) (hl.adv B.adv) hi N.len hfit hk ez fun s' t' a => k' s'.heap s'.gens s'.drawn s'.toks s'.os t' a (B.step a)
  have hda : A'.depth + 5 < recursionLimit := by omega
  delta bodLaw
  dsimp only
  -- first
  walk_at "as"
  with_reducible refine rdG (G.adv B.adv) hN.cell (cw_def (hcell.adv B.adv) ?_)
  walk_at "as"
  with_reducible refine rdC C.a.is ?_
  walk_at "as"
  dsimp only [List.nil_append]
  refine ⟨hcell.adv B.adv, ?_⟩
  refine cell (k := 0) B (by omega) (by decide) rfl fun h₂ g₂ d₂ tk₂ o₂ t₂ a₂ B₂ => ?_
  replace C := C.adv a₂
  refine stC B₂ C.b fun h₃ B₃ c₃ sb₃ => ?_
  replace C : C4 s L (some (.ref l)) (some (.int (cellAt ns 0) t₂)) none none h₃ := ⟨C.a.keep fun o e => (sb₃.2 _ n12.1).trans e, c₃, C.c.keep fun o e => (sb₃.2 _ n12.2.1).trans e, C.d.keep fun o e => (sb₃.2 _ n12.2.2).trans e⟩
  clear B₂ a₂ c₃ sb₃
  generalize hfirst : cellAt ns 0 = first at C
  -- engine
  refine wpAny_execs_cons (xAssign ?_)
  refine wpAny_mono (Q := fun v s' => ∃ x tk', v = .ref x ∧ s' = ⟨h₃, g₂, d₂, tk', o₂⟩ ∧ EngE w s.heap x) ?gen (fun v s' hv => ?rest) (fun _ _ x => x)
  case gen =>
    walk_at "as"
    with_reducible refine rdC C.b.is ?_
    walk_at "as"
    with_reducible refine PyProof.Rows.mod_int' (by decide) ?_
    walk_at "as"
    by_cases q1 : first.fmod 3 = 0
    · rw [if_pos (by rw [beq_iff_eq]; exact q1)]
      with_reducible refine rdG (G.adv B₃.adv) hN.h64 ?_
      exact ⟨_, _, rfl, rfl, e1⟩
    · rw [if_neg (by rw [beq_iff_eq]; exact q1)]
      walk_at "as"
      with_reducible refine rdC C.b.is ?_
      walk_at "as"
      with_reducible refine PyProof.Rows.mod_int' (by decide) ?_
      walk_at "as"
      by_cases q2 : first.fmod 3 = 1
      · rw [if_pos (by rw [beq_iff_eq]; exact q2)]
        with_reducible refine rdG (G.adv B₃.adv) hN.h64big ?_
        exact ⟨_, _, rfl, rfl, e2⟩
      · rw [if_neg (by rw [beq_iff_eq]; exact q2)]
        with_reducible refine rdG (G.adv B₃.adv) hN.bcrypt64 ?_
        exact ⟨_, _, rfl, rfl, e3⟩
  case rest =>
    obtain ⟨x, tk₃, rfl, rfl, ae, cm, big, e, hc⟩ := hv
    clear e1 e2 e3
    refine stL B₃ fun h₄ tk₄ B₄ sb₄ => ?_
    replace C := C.sL sb₄
    clear sb₄ B₃
    -- way
    walk_at "as"
    with_reducible refine rdC C.b.is ?_
    walk_at "as"
    refine PyProof.Rows.floordiv_int (by decide) ?_
    walk_at "as"
    with_reducible refine PyProof.Rows.mod_int' (by decide) ?_
    generalize (first.fdiv 3).fmod 4 = way
    refine stL B₄ fun h₅ tk₅ B₅ sb₅ => ?_
    replace C := C.sL sb₅
    clear sb₅ B₄
    -- many
    walk_at "as"
    with_reducible refine rdG (G.adv B₅.adv) hN.cell (cw_def (hcell.adv B₅.adv) ?_)
    walk_at "as"
    with_reducible refine rdC C.a.is ?_
    walk_at "as"
    dsimp only [List.nil_append]
    refine ⟨hcell.adv B₅.adv, ?_⟩
    refine cell (k := 1) B₅ (by omega) (by decide) rfl fun h₆ g₆ d₆ tk₆ o₆ t₆ a₆ B₆ => ?_
    replace C := C.adv a₆
    walk_at "as"
    with_reducible refine PyProof.Rows.mod_int' (by decide) ?_
    obtain ⟨many, hmany, hm9⟩ : ∃ many : Nat, (cellAt ns 1).fmod 10 = (many : Int) ∧ many ≤ 9 := by
      have h1 := Int.emod_nonneg (cellAt ns 1) (b := 10) (by decide)
      have h2 := Int.emod_lt_of_pos (cellAt ns 1) (b := 10) (by decide)
      refine ⟨((cellAt ns 1).fmod 10).toNat, ?_, ?_⟩ <;> rw [Int.fmod_eq_emod_of_nonneg _ (by decide)] <;> omega
    rw [hmany]
    refine stC B₆ C.c fun h₇ B₇ c₇ sb₇ => ?_
    replace C : C4 s L _ _ (some (.int many _)) none h₇ := ⟨C.a.keep fun o e => (sb₇.2 _ n13.1).trans e, C.b.keep fun o e => (sb₇.2 _ n13.2.1).trans e, c₇, C.d.keep fun o e => (sb₇.2 _ n13.2.2).trans e⟩
    clear B₆ a₆ c₇ sb₇ B₅
    -- octets
    refine wpAny_execs_cons (xAssign ?_)
    walk_at "as"
    with_reducible refine rdB (G.adv B₇.adv) N.bytes b_bytes ?_
    refine xCwT (xItem ?_)
    dsimp only
    generalize hm7 : upd _ "way" _ = m7 at B₇
    have w1 : m7 "engine" = some (.ref x) := by subst hm7; walk_at "lk"
    obtain ⟨tw, w2⟩ : ∃ t, m7 "way" = some (.int way t) := ⟨_, by subst hm7; walk_at "lk"⟩
    clear hm7
    refine lc_value (cl := [("script", L + 1)]) (s := s) (L := L) (m := m7) rfl (by decide) rfl (by decide) rfl ?_
    walk_at "as"
    with_reducible refine rdB (G.adv B₇.adv) N.range b_range ?_
    walk_at "as"
    with_reducible refine rdG (G.adv B₇.adv) hN.cell (cw_def (hcell.adv B₇.adv) ?_)
    walk_at "as"
    with_reducible refine rdC C.a.is ?_
    walk_at "as"
    dsimp only [List.nil_append]
    refine ⟨hcell.adv B₇.adv, ?_⟩
    refine cell (k := 2) B₇ (by omega) (by decide) rfl fun h₈ g₈ d₈ tk₈ o₈ t₈ a₈ B₈ => ?_
    replace C := C.adv a₈
    walk_at "as"
    with_reducible refine PyProof.Rows.mod_int' (by decide) ?_
    obtain ⟨no, hno, hno9⟩ : ∃ no : Nat, (cellAt ns 2).fmod 10 = (no : Int) ∧ no ≤ 9 := by
      have h1 := Int.emod_nonneg (cellAt ns 2) (b := 10) (by decide)
      have h2 := Int.emod_lt_of_pos (cellAt ns 2) (b := 10) (by decide)
      refine ⟨((cellAt ns 2).fmod 10).toNat, ?_, ?_⟩ <;> rw [Int.fmod_eq_emod_of_nonneg _ (by decide)] <;> omega
    rw [hno]
    walk_at "as"
    dsimp only [List.nil_append]
    refine iter_range B₈ (by omega) fun h₉ I9 tk₉ B₉ a₉ r₉ z₉ => ?_
    have hI9 : L + 4 < I9 := Nat.lt_of_lt_of_le C.lt z₉
    replace C := C.adv a₉
    clear a₈ B₈ a₉ z₉ B₇
    refine ⟨I9, [I9], no, _, _, fun k ys => IntsAre ys (octOf ns k), rfl, B₉, PyProof.Rows.LCg.range_walks hha 0 no, by omega, ?_, fun q hq => by rw [List.mem_singleton.mp hq]; exact Heap.lt_size r₉.obj, by
        rw [List.mem_singleton]; exact Ne.symm (ne_T r₉.hi), ⟨r₉.old, r₉.hi, r₉.ne⟩, .nil, ?_, ?_⟩
    · have := r₉.obj
      show IsRangeIter _ _ _ _ _
      simpa [rIt, IsRangeIter] using this
    · intro k v Cf mC h g' d' tk o' ys E' hk hP hR B kb ns' hv hC
      obtain ⟨tk', rfl⟩ := hP
      replace C := C.kb hI9 kb
      refine wpAny_tests_nil ⟨Adv.refl ⟨h, g', d', 0, o'⟩, ?_⟩
      rw [if_pos rfl]
      walk_at "as"
      with_reducible refine rdG (G.adv B.adv) hN.cell (cw_def (hcell.adv B.adv) ?_)
      walk_at "as"
      with_reducible refine rdC C.a.is ?_
      walk_at "as"
      with_reducible refine rdN ns' hv ?_
      walk_at "as"
      dsimp only [List.nil_append]
      refine ⟨hcell.adv B.adv, ?_⟩
      refine cell (k := 3 + k) B (by omega) (by omega) (by omega) fun h₂ g₂ d₂ tk₂ o₂ t₂ a₂ B₂ => ?_
      walk_at "as"
      with_reducible refine PyProof.Rows.mod_int' (by decide) ?_
      refine ⟨a₂, ?_⟩
      show IntsAre _ _
      have : octOf ns (k + 1) = octOf ns k ++ [(cellAt ns (3 + k)).fmod 256] := by simp [octOf, List.range_succ]
      rw [this]
      exact ints_snoc hR _ _
    intro D2 h g d tk o ys B lD hR kb
    replace C := C.kb hI9 kb
    clear kb r₉ hI9 B₉
    walk_at "as"
    refine call_bytes_ints lD.lst.is hR oct_rng (by rw [ints_len hR, oct_len, sizeLine_eq]; omega) hha fun h₂ tb tk₂ kp₂ => ?_
    have B₂ := B.step (AdvH.ext (g := g) (d := d) (o := o) kp₂)
    replace C := C.adv (AdvH.ext (g := g) (d := d) (o := o) kp₂)
    have hbz : (byteArr (octOf ns no)).size = no := by rw [byteArr_size, oct_len]
    generalize byteArr (octOf ns no) = b at hbz
    clear kp₂ hR lD B
    refine stL B₂ fun h₃ tk₃ B₃ sb₃ => ?_
    replace C := C.sL sb₃
    clear sb₃ B₂
    generalize hm8 : upd m7 "octets" _ = m8 at B₃
    have v1 : m8 "engine" = some (.ref x) := by subst hm8; walk_at "lk"
    have v2 : m8 "way" = some (.int way tw) := by subst hm8; walk_at "lk"
    have v3 : m8 "octets" = some (.bytes b tb) := by subst hm8; walk_at "lk"
    clear hm8 w1 w2
    have hb9 : b.size ≤ 9 := by omega
    have lenb : ∀ {h g d o} {tk : Nat} {Q : Value → Shared → Prop} {E : Value → Shared → Prop}, (∀ tk' t, Q (.int b.size t) ⟨h, g, d, tk', o⟩) → wpAny (M w) A' (call (.builtin "len") [.bytes b tb]) Q E ⟨h, g, d, tk, o⟩ := fun k => len_bytes (by omega) (k _ _)
    -- places
    obtain ⟨pmp, cdp, hplaces⟩ := hL.places
    walk_at "as"
    with_reducible refine rdG (G.adv B₃.adv) hN.places (cw_def (hplaces.adv B₃.adv) ?_)
    walk_at "as"
    with_reducible refine rdC C.a.is ?_
    walk_at "as"
    with_reducible refine rdL B₃ v2 ?_
    walk_at "as"
    with_reducible refine rdC C.c.is ?_
    walk_at "as"
    with_reducible refine rdB (G.adv B₃.adv) N.len b_len ?_
    walk_at "as"
    with_reducible refine rdL B₃ v3 ?_
    walk_at "as"
    dsimp only [List.nil_append]
    refine lenb fun tk₄ t₄ => ?_
    walk_at "as"
    dsimp only [List.nil_append]
    refine ⟨hplaces.adv B₃.adv, ?_⟩
    refine places_ok (start := 12) hha (by omega) (G.adv B₃.adv) (hplaces.adv B₃.adv) (hcell.adv B₃.adv) hN.cell (hl.adv B₃.adv) hi N.len N.range N.max hfit (by decide) hm9 hb9 fun s' pl us a₅ l₅ i₅ => ?_
    obtain ⟨h₅, g₅, d₅, tk₅, o₅⟩ := s'
    dsimp only at a₅ l₅
    have B₅ := B₃.step a₅
    replace C := C.adv a₅
    clear a₅ B₃
    refine stC B₅ C.d fun h₆ B₆ c₆ sb₆ => ?_
    have hpl4 : pl ≠ L + 4 := fun q => by
      obtain ⟨o, e, hcl, ⟨nn, hd⟩⟩ := l₅.is
      obtain ⟨o', e', hd'⟩ := C.d.is
      rw [q] at e; rw [e] at e'; cases e'
      rw [hd] at hd'; cases hd'
    have hplL : pl ≠ L := fun q => by
      obtain ⟨o, e, hcl, ⟨nn, hd⟩⟩ := l₅.is
      obtain ⟨o', es, ep, e', hd', _⟩ := B₅.ns
      rw [q] at e; rw [e] at e'; cases e'
      rw [hd] at hd'; cases hd'
    have l₆ : LstAt h₆ pl us := l₅.same sb₆ hpl4
    replace C : C4 s L _ _ _ (some (.ref pl)) h₆ := ⟨C.a.keep fun o e => (sb₆.2 _ n14.1).trans e, C.b.keep fun o e => (sb₆.2 _ n14.2.1).trans e, C.c.keep fun o e => (sb₆.2 _ n14.2.2).trans e, c₆⟩
    clear B₅ c₆ sb₆ l₅
    have hps1000 := places_small (ns := ns) (way := way) (start := 12) (many := many) hb9
    have hpsl : (placesOf ns way 12 many b.size).length = many := places_len
    generalize placesOf ns way 12 many b.size = ps at i₅ hps1000 hpsl
    -- taken
    obtain ⟨pmt, cdt, htaken⟩ := hL.taken
    walk_at "as"
    with_reducible refine rdG (G.adv B₆.adv) hN.taken (cw_def (htaken.adv B₆.adv) ?_)
    walk_at "as"
    with_reducible refine rdL B₆ v3 ?_
    walk_at "as"
    with_reducible refine rdC C.d.is ?_
    walk_at "as"
    dsimp only [List.nil_append]
    refine ⟨htaken.adv B₆.adv, ?_⟩
    obtain ⟨vt, hvt⟩ : ∃ vt : Value → Prop, vt = fun v => (allIn b ps ∧ ∃ t, v = .bytes (tkOf b ps) t) ∨ (¬ allIn b ps ∧ v = .none) := ⟨_, rfl⟩
    refine wpAny_mono (Q := fun v s' => AdvH h₆ g₅ d₅ o₅ s'.heap s'.gens s'.drawn s'.os ∧ vt v) (taken_ok hha (by omega) (G.adv B₆.adv) N (htaken.adv B₆.adv) (by omega) l₆ i₅ hps1000 (by omega) (fun ha s' t a => ⟨a, by rw [hvt]; exact .inl ⟨ha, t, rfl⟩⟩) fun ha s' a => ⟨a, by rw [hvt]; exact .inr ⟨ha, rfl⟩⟩) (fun vtk s' hv => ?_) fun _ _ e => e
    obtain ⟨h₇, g₇, d₇, tk₇, o₇⟩ := s'
    obtain ⟨a₇, hv⟩ := hv
    dsimp only at a₇
    have B₇ := B₆.step a₇
    replace C := C.adv a₇
    have l₇ := l₆.adv a₇
    clear a₇ B₆ l₆
    refine stL B₇ fun h₈ tk₈ B₈ sb₈ => ?_
    replace C := C.sL sb₈
    have l₈ := l₇.same sb₈ hplL
    clear sb₈ B₇ l₇
    generalize hm9 : upd m8 "taken" vtk = m9 at B₈
    have u1 : m9 "engine" = some (.ref x) := by subst hm9; walk_at "lk"
    have u2 : m9 "way" = some (.int way tw) := by subst hm9; walk_at "lk"
    have u3 : m9 "octets" = some (.bytes b tb) := by subst hm9; walk_at "lk"
    have u4 : m9 "taken" = some vtk := by subst hm9; walk_at "lk"
    clear hm9 v1 v2 v3
    -- told
    obtain ⟨pmo, cdo, htold⟩ := hL.told
    obtain ⟨pmE, hetb⟩ := hM.etb
    walk_at "as"
    with_reducible refine rdG (G.adv B₈.adv) hN.told (cw_def (htold.adv B₈.adv) ?_)
    walk_at "as"
    with_reducible refine rdL B₈ u1 ?_
    walk_at "as"
    with_reducible refine rdL B₈ u3 ?_
    walk_at "as"
    with_reducible refine rdC C.d.is ?_
    walk_at "as"
    dsimp only [List.nil_append]
    refine ⟨htold.adv B₈.adv, ?_⟩
    have hfo : ∀ q ∈ ([callEnvC (fd stLaw "law" pm code) L fw] : List Env).filterMap (·.frame), q = L := fun q hq => by
      rw [List.filterMap_cons, show (callEnvC (fd stLaw "law" pm code) L fw).frame = some L from rfl] at hq
      simpa using hq
    have hff : ∀ {m h g d o}, BdH s L m h g d o → h.FunFrames ⟨#[], h.life⟩ [callEnvC (fd stLaw "law" pm code) L fw] := fun {m h g d o} B =>
      ⟨by rw [show (callEnvC (fd stLaw "law" pm code) L fw).scope.kind = ScopeKind.function from rfl]; decide, ⟨L, let ⟨oL, es, ep, eL', eD, _⟩ := B.ns; ⟨oL, rfl, Heap.get?_none_of_le (Nat.zero_le _), eL', fun vs => by rw [eD]; exact fun q => (nomatch q)⟩⟩, trivial⟩
    obtain ⟨psT, icT⟩ := hcode
    have hl9 : (tkOf b ps).size = many := by rw [tk_size, hpsl]
    obtain ⟨vo, hvo⟩ : ∃ vo : Value → Prop, vo = fun v => (allIn b ps ∧ ∃ t, v = .bytes (encB cm big (bl (tkOf b ps))) t) ∨ (¬ allIn b ps ∧ ∃ t, v = .str "IndexError" t) := ⟨_, rfl⟩
    refine wpAny_mono (Q := fun v s' => AdvC (([callEnvC (fd stLaw "law" pm code) L fw] : List Env).filterMap (·.frame)) ⟨h₈, g₇, d₇, tk₈, o₇⟩ s' ∧ vo v)
      (told_enc (outer := [callEnvC (fd stLaw "law" pm code) L fw]) hha (by omega) (G.adv B₈.adv) N Cl (kin_adv Cl X B₈.adv) (e.adv B₈.adv) (hF.adv B₈.adv) (hbm.adv B₈.adv) (htold.adv B₈.adv) (hetb.adv B₈.adv) (B₈.adv.tab _ icT) hc.size (by omega) l₈ i₅ hps1000 (by omega) fr' (hff B₈)
        (fun q hq => by rw [hfo q hq]; exact B₈.hi) (fun ha s' t a => ⟨a, by rw [hvo]; exact .inl ⟨ha, t, by rw [bl_tk ha]⟩⟩) fun ha s' t a => ⟨a, by rw [hvo]; exact .inr ⟨ha, t, rfl⟩⟩) (fun vto s' hv2 => ?_) fun _ _ e => e
    obtain ⟨h₉, g₉, d₉, tk₉, o₉⟩ := s'
    obtain ⟨a₉, hv2⟩ := hv2
    have B₉ := AdvC.bd (c := ⟨h₈, g₇, d₇, tk₈, o₇⟩) B₈ a₉ hfo
    have C₉ := C4.advC (c := ⟨h₈, g₇, d₇, tk₈, o₇⟩) C a₉ hfo
    have l₉ : LstAt h₉ pl us := ⟨let ⟨o, e, r⟩ := l₈.is; ⟨o, a₉.keep _ _ (ne_T l₈.hi) (fun q => hplL (hfo _ q)) e, r⟩, l₈.hi⟩
    dsimp only at B₉ C₉
    clear a₉ B₈ C l₈
    refine stL B₉ fun h₂ tk₂ B₂ sb₂ => ?_
    have C := C₉.sL sb₂
    have l₂ := l₉.same sb₂ hplL
    clear sb₂ B₉ C₉ l₉
    generalize hm2 : upd m9 "told" vto = m2 at B₂
    have p1 : m2 "engine" = some (.ref x) := by subst hm2; walk_at "lk"
    have p2 : m2 "way" = some (.int way tw) := by subst hm2; walk_at "lk"
    have p3 : m2 "octets" = some (.bytes b tb) := by subst hm2; walk_at "lk"
    have p4 : m2 "taken" = some vtk := by subst hm2; walk_at "lk"
    have p5 : m2 "told" = some vto := by subst hm2; walk_at "lk"
    clear hm2 u1 u2 u3 u4
    obtain ⟨pmN, cdN, hEn⟩ := hF.enc
    obtain ⟨pmD, cdD, hDe⟩ := hM.dec
    -- the first test
    refine wpAny_execs_cons (wpAny_mono (Q := fun f s' => f = .next ∧ BdH s L m2 s'.heap s'.gens s'.drawn s'.os ∧ C4 s L (some (.ref l)) (some (.int first t₂)) (some (.int many (tk₆ + 1))) (some (.ref pl)) s'.heap ∧ LstAt s'.heap pl us) ?blk1 (fun f s' hf => ?rest1) fun _ _ e => e)
    case blk1 =>
      walk_at "as"
      refine rdL B₂ p5 ?_
      rw [hvt] at hv
      rw [hvo] at hv2
      rcases hv with ⟨ha, ta, rfl⟩ | ⟨hna, rfl⟩
      · obtain ⟨ta2, rfl⟩ : ∃ t, vto = .bytes (encB cm big (bl (tkOf b ps))) t := by
          rcases hv2 with ⟨_, h⟩ | ⟨h, _⟩
          · exact h
          · exact absurd ha h
        walk_at "as"
        refine rdL B₂ p4 ?_
        walk_at "as"
        refine is_none_ne (fun q => by cases q) ?_
        walk_at "as"
        rw [if_neg (by decide)]
        walk_at "as"
        refine rdL B₂ p1 ?_
        have e₂ := e.adv B₂.adv
        refine eng_meth Cl (kin_adv Cl X B₂.adv) e₂ Cl.f1 Cl.t1 e₂.m1 ?_
        dsimp only
        with_reducible refine cw_def (hEn.adv B₂.adv) ?_
        walk_at "as"
        refine rdL B₂ p4 ?_
        walk_at "as"
        dsimp only [List.cons_append, List.nil_append]
        refine ⟨hEn.adv B₂.adv, ?_⟩
        refine enc_ok hha (by omega) (G.adv B₂.adv) N Cl (kin_adv Cl X B₂.adv) e₂ (hF.adv B₂.adv) hc.size (by omega) fun s' t a => ?_
        have B₃ := B₂.step a
        refine ne_bytes ?_
        walk_at "as"
        rw [if_neg (by simp)]
        walk_at "as"
        exact ⟨rfl, B₃, C.adv a, l₂.adv a⟩
      · obtain ⟨ta2, rfl⟩ : ∃ t, vto = .str "IndexError" t := by
          rcases hv2 with ⟨h, _⟩ | ⟨_, h⟩
          · exact absurd h hna
          · exact h
        walk_at "as"
        refine rdL B₂ p4 ?_
        walk_at "as"
        refine wpAny_is_self rfl ?_
        walk_at "as"
        rw [if_pos rfl]
        walk_at "as"
        refine PyProof.Rows.ne_str ?_
        walk_at "as"
        rw [if_neg (by decide)]
        walk_at "as"
        exact ⟨rfl, B₂, C, l₂⟩
    case rest1 =>
      obtain ⟨rfl, B, C, lp⟩ := hf
      dsimp only
      obtain ⟨h, g, d, tk, o⟩ := s'
      dsimp only at B C lp
      clear B₂ l₂
      -- the second block
      refine wpAny_execs_cons (wpAny_mono (Q := fun f s' => f = .next ∧ ∃ m, BdH s L m s'.heap s'.gens s'.drawn s'.os ∧ m "engine" = some (.ref x) ∧ m "way" = some (.int way tw) ∧ m "octets" = some (.bytes b tb) ∧ C4 s L (some (.ref l)) (some (.int first t₂)) (some (.int many (tk₆ + 1))) (some (.ref pl)) s'.heap) ?blk2 (fun f s' hf => ?rest2) fun _ _ e => e)
      case blk2 =>
        rw [hvt] at hv
        rw [hvo] at hv2
        walk_at "as"
        refine rdL B p4 ?_
        walk_at "as"
        rcases hv with ⟨ha, ta, rfl⟩ | ⟨hna, rfl⟩
        · obtain ⟨ta2, rfl⟩ : ∃ t, vto = .bytes (encB cm big (bl (tkOf b ps))) t := by
            rcases hv2 with ⟨_, h⟩ | ⟨h, _⟩
            · exact h
            · exact absurd ha h
          refine isnot_none_ne (fun q => by cases q) ?_
          walk_at "as"
          rw [if_pos rfl]
          refine wpAny_execs_cons ?_
          refine lc_assign (cl := [("many", L + 3), ("first", L + 2)]) (s := s) (L := L) (m := m2) rfl (by kernel_rfl) (by decide) rfl (by decide) rfl ?_
          walk_at "as"
          with_reducible refine rdB (G.adv B.adv) N.range b_range ?_
          walk_at "as"
          with_reducible refine rdC C.c.is ?_
          walk_at "as"
          dsimp only [List.nil_append]
          refine iter_range B (by omega) fun h₃ I3 tk₃ B₃ a₃ r₃ z₃ => ?_
          have hI3 : L + 4 < I3 := Nat.lt_of_lt_of_le C.lt z₃
          have hp3 : pl ≠ I3 := by
            obtain ⟨o, e, _⟩ := lp.is
            exact Nat.ne_of_lt (Nat.lt_of_lt_of_le (Heap.lt_size e) z₃)
          replace C := C.adv a₃
          replace lp := lp.adv a₃
          clear B a₃ z₃
          refine ⟨I3, [I3], many, _, _, fun k ys => IntsAre ys (againOf first many k), rfl, B₃, PyProof.Rows.LCg.range_walks hha 0 many, by omega, ?_, fun q hq => by rw [List.mem_singleton.mp hq]; exact Heap.lt_size r₃.obj, by
            rw [List.mem_singleton]; exact Ne.symm (ne_T r₃.hi), ⟨r₃.old, r₃.hi, r₃.ne⟩, .nil, ?_, ?_⟩
          · have := r₃.obj
            show IsRangeIter _ _ _ _ _
            simpa [rIt, IsRangeIter] using this
          · intro k v Cf mC h g' d' tk o' ys E' hk hP hR B kb ns' hv hC
            obtain ⟨tk', rfl⟩ := hP
            replace C := C.kb hI3 kb
            refine wpAny_tests_nil ⟨Adv.refl ⟨h, g', d', 0, o'⟩, ?_⟩
            rw [if_pos rfl]
            walk_at "as"
            with_reducible refine rdN ns' hv ?_
            with_reducible refine rdN ns' hv ?_
            with_reducible refine PyProof.Rows.mul_int ?_ (PySem.IntMulOk.of_right (PySem.intBits_le_64 (by omega) (by omega)))
            with_reducible refine rdC C.b.is ?_
            walk_at "as"
            with_reducible refine rdC C.c.is ?_
            with_reducible refine PyProof.Rows.mod_int' (by omega) ?_
            refine ⟨Adv.refl ⟨h, g', d', 0, o'⟩, ?_⟩
            show IntsAre _ _
            have : againOf first many (k + 1) = againOf first many k ++ [((k : Int) * k + first).fmod many] := by simp [againOf, List.range_succ]
            rw [this, show (0 + (k : Int)) = (k : Int) by omega]
            exact ints_snoc hR _ _
          intro D3 h₄ g₄ d₄ tk₄ o₄ ys B₄ lD hR kb
          have C₄ := C.keep (h' := h₄) fun q o h1 h2 hT e => kb q o hT (Nat.ne_of_lt (Nat.lt_of_le_of_lt h2 hI3)) h1 e
          have lp₄ : LstAt h₄ pl us := ⟨let ⟨o, e, r⟩ := lp.is; ⟨o, kb _ _ (ne_T lp.hi) hp3 hplL e, r⟩, lp.hi⟩
          clear kb r₃ B₃ C lp
          generalize hm4 : upd m2 "again" _ = m4 at B₄
          have r1 : m4 "engine" = some (.ref x) := by subst hm4; walk_at "lk"
          have r2 : m4 "way" = some (.int way tw) := by subst hm4; walk_at "lk"
          have r3 : m4 "octets" = some (.bytes b tb) := by subst hm4; walk_at "lk"
          have r4 : m4 "taken" = some (.bytes (tkOf b ps) ta) := by subst hm4; walk_at "lk"
          have r5 : m4 "told" = some (.bytes (encB cm big (bl (tkOf b ps))) ta2) := by subst hm4; walk_at "lk"
          have r6 : m4 "again" = some (.ref D3) := by subst hm4; walk_at "lk"
          clear hm4 p1 p2 p3 p4 p5
          have hsz : (encB cm big (bl (tkOf b ps))).size ≤ 64 ∧ (encB cm big (bl (tkOf b ps))).size % 4 ≠ 1 := by rw [enc_size, bl_len, hl9]; split <;> omega
          have dcd : ∀ {m h g d t o u} {Q : Value → Shared → Prop} {E : Value → Shared → Prop}, BdH s L m h g d o → (∀ h' g' d' tk' o' t', AdvH h g d o h' g' d' o' → Q (.bytes (tkOf b ps) t') ⟨h', g', d', tk', o'⟩) →
              wpAny (M w) A' (call (.ref 93) [.ref x, .bytes (encB cm big (bl (tkOf b ps))) u]) Q E ⟨h, g, d, t, o⟩ := fun {m h g d t o u Q E} B k =>
            dec_ok (s := ⟨h, g, d, t, o⟩) hha (by omega) (G.adv B.adv) N Cl (kin_adv Cl X B.adv) (e.adv B.adv) (hF.adv B.adv) (hM.dec.adv B.adv) hc.size hsz.1 hsz.2 (enc_in hc (bl_lt _)) fun s' t' a => by
              rw [dec_encB hc]
              exact k s'.heap s'.gens s'.drawn s'.toks s'.os t' a
          have etb : ∀ {m h g d t o u} {b' : Array UInt8} {q : Addr} {us' : List Value} {ps' : List Int} {Q : Value → Shared → Prop} {E : Value → Shared → Prop}, BdH s L m h g d o → b'.size ≤ 64 → LstAt h q us' → IntsAre us' ps' → (∀ p ∈ ps', -1000 ≤ p ∧ p ≤ 1000) → ps'.length ≤ 64 → allIn b' ps' →
              (∀ h' g' d' tk' o' t', AdvH h g d o h' g' d' o' → Q (.bytes (encB cm big ((takenTo b' ps').map Int.toNat)) t') ⟨h', g', d', tk', o'⟩) → wpAny (M w) A' (call (.ref 151) [.ref x, .bytes b' u, .ref q]) Q E ⟨h, g, d, t, o⟩ := fun {m h g d t o u b' q us' ps' Q E} B hb' hq hi' hsm' hlen' ha' k =>
            etb_ok (s := ⟨h, g, d, t, o⟩) (base := ⟨#[], h.life⟩) (outer := [callEnvC (fd stLaw "law" pm code) L fw]) hha (by omega) (G.adv B.adv) N Cl (kin_adv Cl X B.adv) (e.adv B.adv) (hF.adv B.adv) (hbm.adv B.adv) (hetb.adv B.adv) (B.adv.tab _ icT) hc.size hb' hq hi' hsm' hlen'
              ⟨fr', fun b o e => (by rw [Heap.get?_none_of_le (Nat.zero_le _)] at e; cases e), hff B⟩ (Heap.get?_none_of_le (Nat.zero_le _)) (fun _ s' t' a => k s'.heap s'.gens s'.drawn s'.toks s'.os t' a) fun hbad => absurd ha' hbad
          obtain ⟨al1, al2, al3⟩ := again_law (first := first) ha
          rw [hpsl] at al1 al2 al3
          have hag := again_in (first := first) (n := many) (k := many) (Nat.le_refl _)
          have hagl : (againOf first many many).length = many := by simp [againOf]
          have lD₄ := lD.lst
          have hD3i := hR
          have hD34 : D3 < h₄.objs.size := let ⟨_, e⟩ := lD.obj; Heap.lt_size e
          clear lD hR
          -- decode_bytes(told) != taken
          walk_at "as"
          refine rdL B₄ r1 ?_
          have e₄ := e.adv B₄.adv
          refine eng_meth Cl (kin_adv Cl X B₄.adv) e₄ Cl.f2 Cl.t2 e₄.m2 ?_
          dsimp only
          with_reducible refine cw_def (hDe.adv B₄.adv) ?_
          walk_at "as"
          refine rdL B₄ r5 ?_
          walk_at "as"
          dsimp only [List.cons_append, List.nil_append]
          refine ⟨hDe.adv B₄.adv, ?_⟩
          refine dcd B₄ fun h₅ g₅ d₅ tk₅ o₅ t₅ a₅ => ?_
          have B₅ := B₄.step a₅
          have C₅ := C₄.adv a₅
          have lp₅ := lp₄.adv a₅
          have lD₅ := lD₄.adv a₅
          refine rdL B₅ r4 ?_
          refine ne_bytes ?_
          walk_at "as"
          rw [if_neg (by simp)]
          clear B₄ C₄ lp₄ lD₄ a₅ e₄
          walk_at "as"
          -- the two orders
          refine rdL B₅ r1 ?_
          have e₅ := e.adv B₅.adv
          refine eng_meth Cl (kin_adv Cl X B₅.adv) e₅ Cl.f3 Cl.t3 e₅.m3 ?_
          dsimp only
          with_reducible refine cw_def (hetb.adv B₅.adv) ?_
          walk_at "as"
          refine rdL B₅ r1 ?_
          refine eng_meth Cl (kin_adv Cl X B₅.adv) e₅ Cl.f2 Cl.t2 e₅.m2 ?_
          dsimp only
          with_reducible refine cw_def (hDe.adv B₅.adv) ?_
          walk_at "as"
          refine rdL B₅ r5 ?_
          walk_at "as"
          dsimp only [List.cons_append, List.nil_append]
          refine ⟨hDe.adv B₅.adv, ?_⟩
          refine dcd B₅ fun h₆ g₆ d₆ tk₆' o₆ t₆' a₆ => ?_
          have B₆ := B₅.step a₆
          have C₆ := C₅.adv a₆
          have lp₆ := lp₅.adv a₆
          have lD₆ := lD₅.adv a₆
          clear B₅ C₅ lp₅ lD₅ a₆ e₅
          walk_at "as"
          refine rdL B₆ r6 ?_
          walk_at "as"
          dsimp only [List.cons_append, List.nil_append]
          refine ⟨hetb.adv B₆.adv, ?_⟩
          refine etb B₆ (by omega) lD₆ hD3i (fun p hp => by have := hag p hp; omega) (by omega) al1 fun h₇ g₇ d₇ tk₇ o₇ t₇ a₇ => ?_
          have B₇ := B₆.step a₇
          have C₇ := C₆.adv a₇
          have lp₇ := lp₆.adv a₇
          have lD₇ := lD₆.adv a₇
          clear B₆ C₆ lp₆ lD₆ a₇
          walk_at "as"
          refine rdL B₇ r1 ?_
          have e₇ := e.adv B₇.adv
          refine eng_meth Cl (kin_adv Cl X B₇.adv) e₇ Cl.f3 Cl.t3 e₇.m3 ?_
          dsimp only
          with_reducible refine cw_def (hetb.adv B₇.adv) ?_
          walk_at "as"
          refine rdL B₇ r3 ?_
          refine xItem ?_
          refine lc_value (cl := [("places", L + 4)]) (s := s) (L := L) (m := m4) rfl (by decide) rfl (by decide) rfl ?_
          refine rdL B₇ r6 ?_
          refine iter_list B₇ lD₇ fun h₈ I8 B₈ a₈ r₈ z₈ => ?_
          have hI8 : L + 4 < I8 := Nat.lt_of_lt_of_le C₇.lt z₈
          have hp8 : pl ≠ I8 := by
            obtain ⟨o, e, _⟩ := lp₇.is
            exact Nat.ne_of_lt (Nat.lt_of_lt_of_le (Heap.lt_size e) z₈)
          have hd8 : D3 ≠ I8 := by
            obtain ⟨o, e, _⟩ := lD₇.is
            exact Nat.ne_of_lt (Nat.lt_of_lt_of_le (Heap.lt_size e) z₈)
          have C₈ := C₇.adv a₈
          have lp₈ := lp₇.adv a₈
          have lD₈ := lD₇.adv a₈
          clear B₇ C₇ lp₇ lD₇ a₈ z₈ e₇
          have hyz : ys.toArray.size = many := by simpa [hagl] using ints_len hD3i
          refine ⟨I8, [I8, D3], ys.toArray.size, _, _, fun k zs => IntsAre zs (ps2Of ps ((againOf first many many).take k)), rfl, B₈, Walks.list hha I8 D3 hd8 ys.toArray, by omega, ⟨⟨_, r₈.obj, rfl, rfl⟩, lD₈.is⟩, fun q hq => ?_, ?_, ⟨r₈.old, r₈.hi, r₈.ne⟩, .nil, ?_, ?_⟩
          · simp only [List.mem_cons, List.not_mem_nil, or_false] at hq
            rcases hq with rfl | rfl
            · exact Heap.lt_size r₈.obj
            · obtain ⟨o, e, _⟩ := lD₈.is
              exact Heap.lt_size e
          · simp only [List.mem_cons, List.not_mem_nil, or_false, not_or]
            exact ⟨Ne.symm (ne_T r₈.hi), Ne.symm (ne_T lD₈.hi)⟩
          · intro k v Cf mC h g' d' tk o' zs E' hk hP hR B kb ns' hv hC
            have hkm : k < (againOf first many many).length := by omega
            obtain ⟨tk', hvk⟩ := ints_at hD3i k hkm
            obtain rfl : v = .int ((againOf first many many).getD k 0) tk' := by
              have hP' : ys[k]? = some v := by simpa using hP
              rw [hvk] at hP'
              exact (Option.some.inj hP').symm
            have hrange := hag _ (mem_getD hkm)
            have C₉ := C₈.kb hI8 kb
            have lp₉ : LstAt h pl us := ⟨let ⟨o, e, r⟩ := lp₈.is; ⟨o, kb _ _ (ne_T lp₈.hi) hp8 e, r⟩, lp₈.hi⟩
            refine wpAny_tests_nil ⟨Adv.refl ⟨h, g', d', 0, o'⟩, ?_⟩
            rw [if_pos rfl]
            walk_at "as"
            with_reducible refine rdC C₉.d.is ?_
            with_reducible refine rdN ns' hv ?_
            refine get_l (k := ((againOf first many many).getD k 0).toNat) lp₉ i₅ (by omega) (by omega) (by omega) fun t₉ => ?_
            refine ⟨Adv.refl ⟨h, g', d', 0, o'⟩, ?_⟩
            show IntsAre _ _
            have : ps2Of ps ((againOf first many many).take (k + 1)) = ps2Of ps ((againOf first many many).take k) ++ [ps.getD ((againOf first many many).getD k 0).toNat 0] := by
              exact ps2_snoc hkm
            rw [this]
            exact ints_snoc hR _ _
          intro D9 h₉ g₉ d₉ tk₉ o₉ zs B₉ l₉ hR kb
          have C₉ := C₈.kb hI8 kb
          rw [hyz, List.take_of_length_le (by omega)] at hR
          clear kb C₈ lp₈ lD₈ B₈ r₈
          walk_at "as"
          dsimp only [List.cons_append, List.nil_append]
          refine ⟨hetb.adv B₉.adv, ?_⟩
          refine etb B₉ (by omega) l₉.lst hR (fun p hp => ?_) (by simp [ps2Of]; omega) al2 fun h₂ g₂ d₂ tk₂ o₂ t₂' a₂ => ?_
          · obtain ⟨q, hq, rfl⟩ := List.mem_map.1 hp
            have := hag q hq
            exact hps1000 _ (mem_getD (by omega))
          have B₂ := B₉.step a₂
          have C₂ := C₉.adv a₂
          rw [al3]
          refine ne_bytes ?_
          walk_at "as"
          rw [if_neg (by simp)]
          walk_at "as"
          exact ⟨rfl, m4, B₂, r1, r2, r3, C₂⟩
        · refine wpAny_isNot_self rfl ?_
          walk_at "as"
          rw [if_neg (by decide)]
          walk_at "as"
          exact ⟨rfl, m2, B, p1, p2, p3, C⟩
      case rest2 =>
        obtain ⟨rfl, m, B, q1, q2, q3, C⟩ := hf
        dsimp only
        obtain ⟨h, g, d, tk, o⟩ := s'
        dsimp only at B C
        clear hv hv2 hvt hvo vt vo p1 p2 p3 p4 p5 i₅ hps1000 hpsl hl9
        -- lain
        walk_at "as"
        with_reducible refine rdG (G.adv B.adv) hN.places (cw_def (hplaces.adv B.adv) ?_)
        walk_at "as"
        with_reducible refine rdC C.a.is ?_
        walk_at "as"
        with_reducible refine rdL B q2 ?_
        walk_at "as"
        with_reducible refine rdC C.c.is ?_
        walk_at "as"
        with_reducible refine rdC C.c.is ?_
        walk_at "as"
        dsimp only [List.nil_append]
        refine ⟨hplaces.adv B.adv, ?_⟩
        refine places_ok (start := 21) (among := many) hha (by omega) (G.adv B.adv) (hplaces.adv B.adv) (hcell.adv B.adv) hN.cell (hl.adv B.adv) hi N.len N.range N.max hfit (by decide) hm9 hm9 fun s' ll us a₃ l₃ i₃ => ?_
        obtain ⟨h₃, g₃, d₃, tk₃, o₃⟩ := s'
        dsimp only at a₃ l₃
        have B₃ := B.step a₃
        have C₃ := C.adv a₃
        clear a₃ B C
        have hllL : ll ≠ L := fun q => by
          obtain ⟨o, e, hcl, ⟨nn, hd⟩⟩ := l₃.is
          obtain ⟨o', es, ep, e', hd', _⟩ := B₃.ns
          rw [q] at e; rw [e] at e'; cases e'
          rw [hd] at hd'; cases hd'
        refine stL B₃ fun h₄ tk₄ B₄ sb₄ => ?_
        have C₄ := C₃.sL sb₄
        have l₄ := l₃.same sb₄ hllL
        clear sb₄ B₃ C₃ l₃
        generalize hm4 : upd m "lain" _ = m4 at B₄
        have r1 : m4 "engine" = some (.ref x) := by subst hm4; walk_at "lk"
        have r3 : m4 "octets" = some (.bytes b tb) := by subst hm4; walk_at "lk"
        have r4 : m4 "lain" = some (.ref ll) := by subst hm4; walk_at "lk"
        clear hm4 q1 q2 q3
        have hps1000 := places_small (ns := ns) (way := way) (start := 21) (many := many) hm9
        have hpsl : (placesOf ns way 21 many many).length = many := places_len
        generalize placesOf ns way 21 many many = ps at i₃ hps1000 hpsl
        -- told
        walk_at "as"
        with_reducible refine rdG (G.adv B₄.adv) hN.told (cw_def (htold.adv B₄.adv) ?_)
        walk_at "as"
        with_reducible refine rdL B₄ r1 ?_
        walk_at "as"
        refine rdL B₄ r1 ?_
        have e₄ := e.adv B₄.adv
        refine eng_meth Cl (kin_adv Cl X B₄.adv) e₄ Cl.f1 Cl.t1 e₄.m1 ?_
        dsimp only
        with_reducible refine cw_def (hEn.adv B₄.adv) ?_
        walk_at "as"
        refine rdL B₄ r3 ?_
        walk_at "as"
        dsimp only [List.cons_append, List.nil_append]
        refine ⟨hEn.adv B₄.adv, ?_⟩
        refine enc_ok hha (by omega) (G.adv B₄.adv) N Cl (kin_adv Cl X B₄.adv) e₄ (hF.adv B₄.adv) hc.size (by omega) fun s' t₅ a₅ => ?_
        obtain ⟨h₅, g₅, d₅, tk₅, o₅⟩ := s'
        have B₅ := B₄.step a₅
        have C₅ := C₄.adv a₅
        have l₅ := l₄.adv a₅
        dsimp only at B₅ C₅ l₅
        clear a₅ B₄ C₄ l₄ e₄
        walk_at "as"
        with_reducible refine rdL B₅ r4 ?_
        walk_at "as"
        dsimp only [List.cons_append, List.nil_append]
        refine ⟨htold.adv B₅.adv, ?_⟩
        have hsz : (encB cm big (bl b)).size ≤ 64 ∧ (encB cm big (bl b)).size % 4 ≠ 1 := by rw [enc_size, bl_len]; split <;> omega
        have hdec := dec_encB (big := big) (b := b) hc
        obtain ⟨vo, hvo⟩ : ∃ vo : Value → Prop, vo = fun v => ((∀ k, k < ps.length → k < b.size → inR ps.length (ps.getD k 0)) ∧ (∀ i, i < ps.length → layF ps.length ps b (min ps.length b.size) i ≠ none) ∧ ∃ t, v = .bytes (byteArr ((List.range ps.length).map fun i => (layF ps.length ps b (min ps.length b.size) i).getD 0)) t) ∨
            ((∃ k, k < ps.length ∧ k < b.size ∧ ¬ inR ps.length (ps.getD k 0)) ∧ ∃ t, v = .str "IndexError" t) ∨
            ((∀ k, k < ps.length → k < b.size → inR ps.length (ps.getD k 0)) ∧ (∃ i, i < ps.length ∧ layF ps.length ps b (min ps.length b.size) i = none) ∧ ∃ t, v = .str "TypeError" t) := ⟨_, rfl⟩
        refine wpAny_mono (Q := fun v s' => AdvC (([callEnvC (fd stLaw "law" pm code) L fw] : List Env).filterMap (·.frame)) ⟨h₅, g₅, d₅, _, o₅⟩ s' ∧ vo v)
          (told_dec (outer := [callEnvC (fd stLaw "law" pm code) L fw]) hha (by omega) (G.adv B₅.adv) N Cl (kin_adv Cl X B₅.adv) (e.adv B₅.adv) (hF.adv B₅.adv) (htold.adv B₅.adv) (hM.dec.adv B₅.adv) (hM.dtb.adv B₅.adv) (B₅.adv.tab _ icT) hc.size hsz.1 hsz.2 (enc_in hc (bl_lt _)) l₅ i₃ hps1000 (by omega) fr' (hff B₅)
            (fun q hq => by rw [hfo q hq]; exact B₅.hi) (fun h1 h2 s' t a => ⟨a, ?_⟩) (fun k h1 h2 h3 s' t a => ⟨a, ?_⟩) fun h1 i h2 h3 s' t a => ⟨a, ?_⟩) (fun vto s' hv2 => ?_) fun _ _ e => e
        · rw [hdec] at h1 h2 ⊢
          rw [hvo]
          exact .inl ⟨h1, h2, t, rfl⟩
        · rw [hdec] at h2
          rw [hvo]
          exact .inr (.inl ⟨⟨k, h1, h2, h3⟩, t, rfl⟩)
        · rw [hdec] at h1 h3
          rw [hvo]
          exact .inr (.inr ⟨h1, ⟨i, h2, h3⟩, t, rfl⟩)
        obtain ⟨h₉, g₉, d₉, tk₉, o₉⟩ := s'
        obtain ⟨a₉, hv2⟩ := hv2
        have B₉ := AdvC.bd (c := ⟨h₅, g₅, d₅, _, o₅⟩) B₅ a₉ hfo
        have l₉ : LstAt h₉ ll us := ⟨let ⟨o, e, r⟩ := l₅.is; ⟨o, a₉.keep _ _ (ne_T l₅.hi) (fun q => hllL (hfo _ q)) e, r⟩, l₅.hi⟩
        dsimp only at B₉
        clear a₉ B₅ C₅ l₅
        -- laid
        obtain ⟨pml, cdl, hlaid⟩ := hL.laid
        walk_at "as"
        with_reducible refine rdG (G.adv B₉.adv) hN.laid (cw_def (hlaid.adv B₉.adv) ?_)
        walk_at "as"
        with_reducible refine rdL B₉ r3 ?_
        walk_at "as"
        with_reducible refine rdL B₉ r4 ?_
        walk_at "as"
        dsimp only [List.nil_append]
        refine ⟨hlaid.adv B₉.adv, ?_⟩
        refine laid_ok hha (by omega) (G.adv B₉.adv) N (hlaid.adv B₉.adv) (by omega) l₉ i₃ hps1000 (by omega) (fun h1 h2 s' t a => ?_) (fun k h1 h2 h3 s' t a => ?_) fun h1 i h2 h3 s' t a => ?_
        · rw [hvo] at hv2
          rcases hv2 with ⟨_, _, t', rfl⟩ | ⟨⟨k, k1, k2, k3⟩, _⟩ | ⟨_, ⟨i, k1, k2⟩, _⟩
          · refine eq_bytes ?_
            rw [show ((byteArr ((List.range ps.length).map fun i => (layF ps.length ps b (min ps.length b.size) i).getD 0)).toList == (byteArr ((List.range ps.length).map fun i => (layF ps.length ps b (min ps.length b.size) i).getD 0)).toList) = true by simp]
            exact hQ _ (B₉.adv.trans a)
          · exact absurd (h1 k k1 k2) k3
          · exact absurd k2 (h2 i k1)
        · rw [hvo] at hv2
          rcases hv2 with ⟨k1, _⟩ | ⟨_, t', rfl⟩ | ⟨k1, _⟩
          · exact absurd (k1 k h1 h2) h3
          · refine PyProof.Rows.eq_str ?_
            rw [show ((Str.ofString "IndexError") == (Str.ofString "IndexError")) = true by decide]
            exact hQ _ (B₉.adv.trans a)
          · exact absurd (k1 k h1 h2) h3
        · rw [hvo] at hv2
          rcases hv2 with ⟨_, k2, _⟩ | ⟨⟨k, k1, k2, k3⟩, _⟩ | ⟨_, _, t', rfl⟩
          · exact absurd h3 (k2 i h2)
          · exact absurd (h1 k k1 k2) k3
          · refine PyProof.Rows.eq_str ?_
            rw [show ((Str.ofString "TypeError") == (Str.ofString "TypeError")) = true by decide]
            exact hQ _ (B₉.adv.trans a)
/-! B1 -/
/-- the machine, alone, comes from one state to another -/
def Goes (p : Program) (w : World) (s : Shared) (t : Thread) (s' : Shared) (t' : Thread) : Prop := ∃ n, schedN (denote table) p w n (.single s t) = .running (.single s' t')
theorem Goes.refl (p : Program) (w : World) (s : Shared) (t : Thread) : Goes p w s t s t := ⟨0, rfl⟩
theorem Goes.step {p : Program} {w : World} {s s₂ s' : Shared} {t t₂ t' : Thread} (hc : t.calm = true) (hr : s.asleep) (hs : step (denote table) p w s t = .go s₂ t₂) (h : Goes p w s₂ t₂ s' t') : Goes p w s t s' t' := by
  obtain ⟨m, hm⟩ := h
  have e : sstep (denote table) p w (.single s t) = .go (.single s₂ t₂) := by
    rcases sstep_single (denote table) p w s t hc hr with e | e
    · rw [e, hs]; rfl
    · rw [hs] at e; cases e
  exact ⟨m + 1, by simp only [schedN, e]; exact hm⟩
theorem sched_add {den : Code → Sem Fin} {p : Program} {w : World} : ∀ {n m : Nat} {c c' : Config}, schedN den p w n c = .running c' → schedN den p w (n + m) c = schedN den p w m c'
  | 0, m, c, c', h => by
    obtain rfl : c = c' := by simpa [schedN] using h
    rw [Nat.zero_add]
  | n + 1, m, c, c', h => by
    rw [show n + 1 + m = (n + m) + 1 by omega]
    simp only [schedN] at h ⊢
    cases e : sstep den p w c with
    | go c₂ => rw [e] at h; exact sched_add h
    | halt o s => rw [e] at h; cases h
theorem Goes.trans {p : Program} {w : World} {s s₂ s' : Shared} {t t₂ t' : Thread} (a : Goes p w s t s₂ t₂) (b : Goes p w s₂ t₂ s' t') : Goes p w s t s' t' := by
  obtain ⟨n, hn⟩ := a
  obtain ⟨m, hm⟩ := b
  exact ⟨n + m, (sched_add hn).trans hm⟩

/-- what a piece of the top leaves as it was -/
structure KeptB (n₀ : Nat) (ann : Option Value) (s s' : Shared) : Prop where
  life : s'.heap.life = s.heap.life
  os : s'.os = s.os
  fr : ∀ b o, b < n₀ → b ≠ mainNs → b ≠ cStatics → ann ≠ some (.ref b) → s.heap.get? b = some o → s'.heap.get? b = some o
theorem KeptB.refl {n₀ : Nat} {ann : Option Value} (s : Shared) : KeptB n₀ ann s s := ⟨rfl, rfl, fun _ _ _ _ _ _ e => e⟩
theorem KeptB.trans {n₀ : Nat} {ann : Option Value} {s s' s'' : Shared} (a : KeptB n₀ ann s s') (b : KeptB n₀ ann s' s'') : KeptB n₀ ann s s'' :=
  ⟨b.life.trans a.life, b.os.trans a.os, fun q o h1 h2 h3 h4 e => b.fr q o h1 h2 h3 h4 (a.fr q o h1 h2 h3 h4 e)⟩
theorem kept_step {p : Program} {w : World} {n₀ : Nat} {ann : Option Value} {s s' : Shared} {t t' : Thread} (hk : stepOk n₀ ann t = true) (hs : step (denote table) p w s t = .go s' t') : t.calm = true ∧ KeptB n₀ ann s s' := by
  obtain ⟨hc, hk⟩ := Bool.and_eq_true_iff.mp hk
  refine ⟨hc, step_life (denote table) p w s s' t t' hs, step_os_same hs (by revert hk; cases t.cur <;> simp), fun b o h1 h2 h3 h4 h5 => ?_⟩
  rw [step_heap (denote table) p w s s' t t' hs]
  revert hk
  cases t.cur <;> intro hk <;> try exact h5
  case update a _ f _ =>
    have : b ≠ a := by
      rintro rfl
      simp only [Bool.or_eq_true, Nat.ble_eq, beq_iff_eq] at hk
      rcases hk with ((q | q) | q) | q
      · exact absurd h1 (Nat.not_lt.mpr q)
      · exact h2 q
      · exact h3 q
      · exact h4 q
    exact (Heap.get?_update_ne _ _ _ _ this).trans h5
  case alloc x _ => exact Heap.get?_push_of_some x h5

theorem topGo_goes {p : Program} {w : World} {n₀ : Nat} {ann : Option Value} : ∀ (n : Nat) {s s' : Shared} {t t' : Thread}, s.asleep → topGo table p w n₀ ann n s t = some (s', t') → Goes p w s t s' t' ∧ KeptB n₀ ann s s'
  | 0, s, s', t, t', _, h => by
    obtain ⟨rfl, rfl⟩ : s = s' ∧ t = t' := by simpa [topGo] using h
    exact ⟨.refl .., .refl _⟩
  | n + 1, s, s', t, t', hr, h => by
    unfold topGo at h
    cases ht : through t with
    | true => rw [ht] at h; cases h
    | false =>
      rw [ht] at h
      cases hk : stepOk n₀ ann t with
      | false => rw [hk] at h; cases h
      | true =>
        rw [hk] at h
        cases hs : step (denote table) p w s t with
        | halt o s₂ => rw [hs] at h; cases h
        | go s₂ t₂ =>
          rw [hs] at h
          obtain ⟨hc, k⟩ := kept_step hk hs
          obtain ⟨g, k'⟩ := topGo_goes n (Shared.asleep_of_life k.life hr) h
          exact ⟨g.step hc hr hs, k.trans k'⟩

section
variable {α : Type} {p : Program} {w : World} {n₀ : Nat} {ann : Option Value} {B : List Frame} {K' : α → Sem Fin} {H' : Value → Sem Fin} {gd : Bool → Bool} {lv : List Value → List Value} {res : α → Flow}
theorem seg_goes (hB : splitAtGen B = none) : ∀ (n : Nat) (s : Shared) (t t' : Thread) (f : Flow) (s' : Shared) (c' : Code) (p' : Pos), s.asleep → Rel2 (fun a => .pure (.done (res a))) K' deadEnd H' gd lv B t t' →
    segRun table p w n₀ ann B.length n s t = some (f, s', c', p') → ∃ a, res a = f ∧ Goes p w s t' s' ⟨K' a, c', p', B⟩ ∧ KeptB n₀ ann s s'
  | 0, _, _, _, _, _, _, _, _, _, h => by simp [segRun] at h
  | n + 1, s, ⟨cur, code, pos, st⟩, ⟨cur', code', pos', st'⟩, f, s', c', p', hr, R, h => by
    obtain ⟨e1, e2, R⟩ := R
    dsimp only at e1 e2 R
    subst e1 e2
    unfold segRun at h
    cases he : endAt B.length ⟨cur, code, pos, st⟩ with
    | some g =>
      rw [he] at h
      obtain ⟨rfl, rfl, rfl, rfl⟩ : g = f ∧ s = s' ∧ code = c' ∧ pos = p' := by simpa using h
      rcases R with ⟨rfl, rfl, x, rfl, rfl⟩ | ⟨rfl, F⟩
      · have hx : ∃ a, x = .pure a ∧ res a = g := by
          cases x with
          | pure a => simp only [endAt, Sem.wrap, beq_self_eq_true, Option.some.injEq] at he; exact ⟨a, rfl, he⟩
          | _ => simp [endAt, Sem.wrap] at he
        obtain ⟨a, rfl, rfl⟩ := hx
        exact ⟨a, rfl, .refl .., .refl _⟩
      · have l := F.longer.1
        have : ((st.length == B.length) = false) := beq_eq_false_iff_ne.mpr (Nat.ne_of_gt l)
        simp only [endAt, this] at he
        cases he
    | none =>
      rw [he] at h
      cases hk : stepOk n₀ ann ⟨cur, code, pos, st⟩ with
      | false => rw [hk] at h; cases h
      | true =>
        rw [hk] at h
        cases hs : step (denote table) p w s ⟨cur, code, pos, st⟩ with
        | halt o s₂ => rw [hs] at h; cases h
        | go s₂ t₂ =>
          rw [hs] at h
          have key : stepOk n₀ ann ⟨cur', code, pos, st'⟩ = true ∧ ∃ t₂', step (denote table) p w s ⟨cur', code, pos, st'⟩ = .go s₂ t₂' ∧ Rel2 (fun a => .pure (.done (res a))) K' deadEnd H' gd lv B t₂ t₂' := by
            rcases R with ⟨rfl, rfl, x, rfl, rfl⟩ | ⟨rfl, F⟩
            · have hp : ∀ a, x ≠ .pure a := by
                rintro a rfl
                simp [endAt, Sem.wrap] at he
              have hr : ∀ e, x ≠ .raise e := by
                rintro e rfl
                obtain ⟨heap, gens, drawn, toks, os⟩ := s
                simp only [Sem.wrap, step] at hs
                cases hs
              exact ⟨(okOuter (K' := K') (H' := H') hp hr hk).1, step_outer hB hp hs⟩
            · exact ⟨(okInner hB F hk).1, step_inner hB F hs⟩
          obtain ⟨k1, t₂', k3, R'⟩ := key
          obtain ⟨hc, k⟩ := kept_step k1 k3
          obtain ⟨a, ha, g, k'⟩ := seg_goes hB n s₂ t₂ t₂' f s' c' p' (Shared.asleep_of_life k.life hr) R' h
          exact ⟨a, ha, g.step hc hr k3, k.trans k'⟩
end

/-- a halt with an answer comes of a thread that is through -/
theorem halted_through {p : Program} {w : World} : ∀ {n : Nat} {s s' : Shared} {t : Thread} {v : Flow}, s.asleep → (∀ k s₁ t₁, runN (denote table) p w k s t = .running s₁ t₁ → t₁.calm = true) → runN (denote table) p w n s t = .halted (.done v) s' → ∃ t', Goes p w s t s' t' ∧ through t' = true ∧ s'.heap.life = s.heap.life
  | 0, _, _, _, _, _, _, h => by cases h
  | n + 1, s, s', t, v, hr, hcal, h => by
    have hc : t.calm = true := hcal 0 s t rfl
    simp only [runN] at h
    cases hs : step (denote table) p w s t with
    | go s₂ t₂ =>
      rw [hs] at h
      obtain ⟨t', g, ht, hl⟩ := halted_through (Shared.asleep_of_life (step_life (denote table) p w s s₂ t t₂ hs) hr) (fun k s₁ t₁ hk => hcal (k + 1) s₁ t₁ (by simp only [runN, hs]; exact hk)) h
      exact ⟨t', g.step hc hr hs, ht, hl.trans (step_life (denote table) p w s s₂ t t₂ hs)⟩
    | halt o s₂ =>
      rw [hs] at h
      injection h with h1 h2
      subst h1 h2
      obtain rfl := step_halt_same _ _ _ _ _ _ _ hs
      refine ⟨t, .refl .., ?_, rfl⟩
      obtain ⟨heap, gens, drawn, toks, os⟩ := s₂
      obtain ⟨cur, code, pos, stack⟩ := t
      cases cur <;> simp only [step, finish] at hs <;> (repeat' split at hs) <;> simp_all [through]
/-! B2 -/
theorem wp_wrap (M : Model) (Γ : Ctx) {α β : Type} (m : Sem α) (K : α → Sem β) (H : Value → Sem β) (gd : Bool → Bool) (lv : List Value → List Value) (Q : β → Pos → Shared → Prop) (E : Value → Pos → Shared → Prop) (p : Pos) (s : Shared)
    (h : Sem.wp M Γ m (fun a p' s' => Sem.wp M Γ (K a) Q E p' s') (fun e p' s' => Sem.wp M Γ (H e) Q E p' s') p s) : Sem.wp M Γ (m.wrap K H gd lv) Q E p s := by
  induction m generalizing p s with
  | pure a => simpa only [Sem.wrap, Sem.wp] using h
  | raise e => simpa only [Sem.wrap, Sem.wp] using h
  | load a q k ih => simp only [Sem.wrap, Sem.wp] at h ⊢; obtain ⟨o, e, h⟩ := h; exact ⟨o, e, ih _ _ _ h⟩
  | update a q f k ih => simp only [Sem.wrap, Sem.wp] at h ⊢; exact ⟨h.1, ih _ _ _ h.2⟩
  | choose src n k ih => simp only [Sem.wrap, Sem.wp] at h ⊢; exact ⟨h.1, ih _ _ _ h.2⟩
  | genState g k ih => simp only [Sem.wrap, Sem.wp] at h ⊢; obtain ⟨o, e, h⟩ := h; exact ⟨o, e, ih _ _ _ h⟩
  | call c hd g l k ih => simp only [Sem.wrap, Sem.wp] at h ⊢; exact wpCode_mono (fun r s' h => ih _ _ _ h) h
  | resume g r l k ih => simp only [Sem.wrap, Sem.wp] at h ⊢; obtain ⟨res, s', a, h⟩ := h; exact ⟨res, s', a, ih _ _ _ h⟩
  | rule t k ih => simp only [Sem.wrap, Sem.wp] at h ⊢; exact ih _ _ _ h
  | «at» q k ih => simp only [Sem.wrap, Sem.wp] at h ⊢; exact ih _ _ _ h
  | alloc o k ih => simp only [Sem.wrap, Sem.wp] at h ⊢; exact ih _ _ _ h
  | loadIfAlive a k ih => simp only [Sem.wrap, Sem.wp] at h ⊢; exact ih _ _ _ h
  | point l k ih => simp only [Sem.wrap, Sem.wp] at h ⊢; exact ih _ _ _ h
  | fresh k ih => simp only [Sem.wrap, Sem.wp] at h ⊢; exact ih _ _ _ h
  | ask k ih => simp only [Sem.wrap, Sem.wp] at h ⊢; exact ih _ _ _ h
  | os q l k ih => simp only [Sem.wrap, Sem.wp] at h ⊢; exact ih _ _ _ h
  | handled o k ih => simp only [Sem.wrap, Sem.wp] at h ⊢; exact ih _ _ _ h
  | newGen c k ih => simp only [Sem.wrap, Sem.wp] at h ⊢; exact ih _ _ _ h
  | stack k ih => simp only [Sem.wrap, Sem.wp] at h ⊢; exact ih _ _ _ h
  | thread k ih => simp only [Sem.wrap, Sem.wp] at h ⊢; exact ih _ _ _ h
  | _ => simp only [Sem.wp] at h

theorem rest_through {p : Program} {w : World} {A : Around} {s : Shared} {rest : List Stmt} {env : Env} {c : Code} {pos q : Pos} {P : Shared → Prop} (hr : s.asleep) (hin : (Ctx.of c [topFrame q]).In A)
    (h : wpAny (model p w) A (execs rest env) (fun f s' => f = .next ∧ P s' ∧ s'.NoSusp) (fun _ _ => False) s) : ∃ s' t', Goes p w s (restOf rest env c pos [topFrame q]) s' t' ∧ through t' = true ∧ P s' ∧ s'.heap.life = s.heap.life := by
  have h1 : Sem.wp (model p w) (Ctx.of c [topFrame q]) ((execs rest env).wrap doneF (leaveH env) id id) (Sem.finPost (model p w) (Ctx.of c [topFrame q]) fun r s' => r = .ok .next ∧ P s' ∧ s'.NoSusp) (fun e _ s' => (Except.error e : Result) = .ok .next ∧ P s' ∧ s'.NoSusp) pos s := by
    refine wp_wrap _ _ _ _ _ _ _ _ _ _ _ (Sem.wp_mono _ _ _ (fun f p' s' hf => ?_) (fun _ _ _ x => x.elim) _ _ (h _ pos hin))
    obtain ⟨rfl, hP⟩ := hf
    rw [Sem.wp_pure]
    exact ⟨rfl, hP⟩
  obtain ⟨n, r, s', c', p', hn, rfl, hP, hS⟩ := wp_runN h1
  have h2 := runN_snoc hn
  rw [show ([topFrame q] : List Frame) = .ret topAfter none false [] (.builtin "claim.caller" {}) q [] :: [] from rfl, step_leaf_ret] at h2
  have h3 := runN_snoc h2
  rw [show topAfter (.ok .next) = leafOf (.ok (.ret .none)) from rfl, step_leaf_nil] at h3
  simp only [finish, hS.noCleanup, Bool.false_eq_true, if_false] at h3
  obtain ⟨s'', hn', hf, hc⟩ := runNI_real _ _ _ h3 (outcomeOf_ends _)
  obtain rfl := Shared.eq_of_forget_eq' hf hS
  obtain ⟨t', g, ht, hl⟩ := halted_through hr hc hn'
  exact ⟨_, t', g, ht, hP, hl⟩
/-! B3 -/
abbrev row : OpenRow := PySem.Challenge.rw_aj5032_01.row

/-- what the law needs of the state that the top leaves -/
structure TopOk (w : World) (h : Heap) (K : Frag) (mg mb : Str → Option Value) (fw fc fp ft fo fl x1 x2 x3 : Addr) : Prop where
  G : Gl mg mb h
  N : Nm mg
  C : ClsOk K
  X : K.In h
  F : Fns h
  bm : BmOk mg h
  tab : TabOk h #[]
  M : MethFn h
  nm : LawNm mg fc fp ft fo fl x1 x2 x3
  fn : LawFn h fc fp ft fo fl
  e1 : EngE w h x1
  e2 : EngE w h x2
  e3 : EngE w h x3
  law : mg "law" = some (.ref fw)
  lawF : FnE h fw stLaw "law"
theorem TopOk.keeps {w : World} {h h' : Heap} {K : Frag} {mg mb : Str → Option Value} {fw fc fp ft fo fl x1 x2 x3 : Addr} (T : TopOk w h K mg mb fw fc fp ft fo fl x1 x2 x3) (k : ∀ b o, h.get? b = some o → h'.get? b = some o) (d : Drawn) (o : OsState) : TopOk w h' K mg mb fw fc fp ft fo fl x1 x2 x3 := by
  have a : AdvH h #[] d o h' #[] d o := AdvH.ext k
  exact ⟨T.G.adv a, T.N, T.C, kin_adv T.C T.X a, T.F.adv a, T.bm.adv a, TabOk.keeps T.tab k, T.M.adv a, T.nm, T.fn.adv a, T.e1.adv a, T.e2.adv a, T.e3.adv a, T.law, T.lawF.adv a⟩

theorem args_law {P : Params} {h : Heap} {cl : Str → Option Addr} {args : List WData} {vals : List Value} {as : List Addr} (hpre : row.toRowW.claim.pre args = true) (hlay : WData.layableAll args = true) (hrd : ReadsAllW row.toRowW.records cl h vals args as) (hwl : WellAll P h vals args) (hlo : ∀ a ∈ as, (a == sysModules) = false) :
    ∃ a us ns, vals = [.ref a] ∧ h.IsList a us ∧ IntsAre us.toList ns ∧ ns.length ≤ 63 ∧ a ∈ as := by
  wrow_args hpre hlay hrd hwl hlo
  refine ⟨_, _, _, rfl, by assumption, by simpa using by assumption, by omega, ?_⟩
  rename_i r0 _ _ _ _
  cases r0
  simp

theorem law_post (args : List WData) : row.toRowW.claim.post args (.bool true) args = true := by wrow_post
theorem law_raises (args : List WData) (cls : ExcName) : row.toRowW.claim.raises args cls = false := rfl

set_option maxHeartbeats 1000000 in
theorem law_call {w : World} {s₁ : Shared} {K : Frag} {mg mb : Str → Option Value} {fw fc fp ft fo fl x1 x2 x3 : Addr} (TT : TopOk w s₁.heap K mg mb fw fc fp ft fo fl x1 x2 x3) (hz : s₁.asleep) (hgens : ∀ g ∈ s₁.gens, match g with | .finished => True | _ => False) {free : Addr → Prop} {gens : Prop} {kept : Heap → Prop} (hk : ∀ h', kept h') :
    row.toRowW.claim.CallFrom (callStub row.name) w free gens kept s₁ := by
  intro args hpre hlay ord hord
  obtain ⟨⟨vs, s₂⟩, hlaid⟩ := Option.isSome_iff_exists.mp (layAllW_isSome (R := row.toRowW.records) (cl := classAt s₁.heap) (P := w.params) (ord := ord) (fun _ hc => (nomatch hc)) args row.toRowW.args s₁ (pre_splitW hpre).1)
  have keeps := layAllW_keeps _ _ _ hlaid
  have hal := layAllW_rest _ _ _ hlaid
  obtain ⟨as, hrd, hin, hold⟩ := reads_layAllW hord _ _ _ hlaid hlay s₂.heap (fun _ _ e => e)
  have h262 : 262 ≤ s₁.heap.objs.size := let ⟨_, e⟩ := TT.G.top; Heap.lt_size e
  obtain ⟨l, us, ns, rfl, hl, hi, hns, hla⟩ := args_law (P := w.params) hpre hlay hrd (well_layAllW hord args s₁ _ hlaid _ fun _ _ e => e) (fun a ha => beq_eq_false_iff_ne.mpr fun e => by
    have := (hin.2.2 a ha).1
    subst e
    exact absurd (Nat.lt_of_lt_of_le (by decide) h262) (Nat.not_lt.mpr this))
  have hl262 : 262 ≤ l := Nat.le_trans h262 (hin.2.2 l hla).1
  have T₂ := TT.keeps keeps s₂.drawn s₂.os
  have hz₂ : s₂.asleep := Shared.asleep_of_life hal.2.2.2 hz
  have hg₂ : s₂.gens = s₁.gens := hal.1
  obtain ⟨pm, code, hlf⟩ := T₂.lawF
  have hw : wpAny (model prog w) callerA (callStub row.name [.ref l]).cur (fun fin s' => ∃ f, fin = .done f ∧ ((f = .ret (.bool true) ∧ Adv s₂ s') ∧ s'.NoSusp)) (fun e s' => False ∧ s'.NoSusp) s₂ := by
    refine wpAny_bind (wpAny_nsGet T₂.G.g ?_)
    rw [show mg row.name = some (.ref fw) from TT.law]
    refine wpAny_bind (law_ok (w := w) (vs := us.toList) (ns := ns) rfl rfl (by decide +kernel) T₂.G T₂.N T₂.C T₂.X T₂.F T₂.bm ⟨_, T₂.tab⟩ T₂.M T₂.nm T₂.fn T₂.e1 T₂.e2 T₂.e3 ⟨by simpa using hl, hl262⟩ hi hns hlf fun s' a => ?_)
    refine wpAny_pure ⟨_, rfl, ⟨rfl, a⟩, fun g hg => ?_⟩
    obtain ⟨k, hk⟩ := a.gens
    rw [hk, hg₂] at hg
    rcases Array.mem_append.mp hg with hg | hg
    · have := hgens g hg
      cases g <;> first | rfl | exact this.elim
    · rw [(Array.mem_replicate.mp hg).2]; rfl
  obtain ⟨n, r, s', hrun, hsched, hR⟩ := thread_ends_both (prog := prog) (w := w) (R := fun r s' => r = .ok (.ret (.bool true)) ∧ Adv s₂ s') hz₂ (wpAny_mono hw (fun fin s' h => by
    obtain ⟨f, rfl, ⟨rfl, a⟩, b⟩ := h
    exact ⟨_, rfl, ⟨rfl, a⟩, b⟩) fun e s' h => h.1.elim)
  obtain ⟨rfl, a⟩ := hR
  have oldT : ∀ o, s₂.heap.get? T = some o → asItWas s₂.heap s'.heap A5.T o := fun o e => by
    have t := T₂.tab
    obtain ⟨ps', t'⟩ := a.tab _ t
    rw [t.2.2] at e
    cases e
    exact .inr (.inl ⟨t.2.isCodeTable, rfl, #[], ps', rfl, by rw [t'.2.2]; simp⟩)
  have old : ∀ b o, s₂.heap.get? b = some o → asItWas s₂.heap s'.heap b o := fun b o e => by
    by_cases hb : b = A5.T
    · subst hb; exact oldT o e
    · exact .inl (a.keep b o hb e)
  have oldK : ∀ b o, s₂.heap.get? b = some o → o.cls ≠ .none → s'.heap.get? b = some o := fun b o e hc => by
    by_cases hb : b = A5.T
    · subst hb
      rw [T₂.tab.2.2] at e
      cases e
      exact absurd rfl hc
    · exact a.keep b o hb e
  refine ⟨_, s₂, hlaid, n, _, s', hsched, .inl ⟨.bool true, rfl, fun cls => law_raises _ cls, ⟨.bool true, args, [], as, .bool true, hrd.keepsK oldK, law_post args, fun _ => ⟨.nil, fun a h => (nomatch h), fun a h => (nomatch h)⟩, fun _ _ => ?_⟩, (fun i h => (nomatch h)), fun b o e _ _ _ => old b o e, fun i h => (nomatch h)⟩, fun _ i x hx => ?_, hk _, ?_, ?_⟩
  · exact ident_freeW rfl rfl rfl _ _
  · obtain ⟨k, hk⟩ := a.gens
    rw [hk, hg₂]
    rw [← hx]
    have hi := (Array.getElem?_eq_some_iff.mp hx).1
    exact Array.getElem?_append_left hi
  · exact congrArg Life.seen ((runN_life _ _ _ hrun).trans hal.2.2.2)
  · exact Shared.rest_eq (a.os.trans hal.2.2.1)
/-! F35 -/
section
variable {w : World} {A : Around} {E : Value → Shared → Prop} {s : Shared} {b : Array UInt8} {t : Tok}

theorem nextB_item {it : Addr} {i : Nat} {c : UInt8} {Q : Value → Shared → Prop} (hit : KBw.IsBytesIter s.heap it b t i) (hx : b[i]? = some c)
    (hQ : ∀ h', KBw.IsBytesIter h' it b t (i + 1) → Heap.SameBut it s.heap h' → Q (.int (c.toNat : Int) s.toks) { s with heap := h', toks := s.toks + 1 }) : wpAny (M w) A (Builtin.SmallTypes.nextOf (.ref it)) Q E s := by
  obtain ⟨o, ho, hc, hd⟩ := id hit
  unfold Builtin.SmallTypes.nextOf
  refine wpAny_bind (wpAny_callSpecial?_slot (name := PySem.Str.ofString "__next__") (KBw.iter_typeIs hit) KBw.slot_next
    (wpAny_call_entry KBw.slot_next (KBw.iter_typeIs hit) KBw.entry_next ?_ (KBw.args_next _)))
  show wpAny _ _ (field (.ref it) 0 >>= _) _ _ s
  refine wpAny_bind (wpAny_field ho hd (x := .bytes b t) rfl ?_)
  show wpAny _ _ (if (Value.bytes b t == Value.none) = true then _ else _) _ _ s
  rw [if_neg (show ¬ ((Value.bytes b t == Value.none) = true) from Bool.false_ne_true)]
  show wpAny _ _ (field (.ref it) 1 >>= _) _ _ s
  refine wpAny_bind (wpAny_field ho hd (x := .int i 0) rfl ?_)
  refine wpAny_bind (wpAny_of_eq (a := b) rfl ?_)
  simp only [Int.toNat_natCast, hx]
  refine wpAny_bind (wpAny_setField ho hd (by simp) (wpAny_bind (wpAny_mkInt (wpAny_pure ⟨_, rfl, wpAny_pure (hQ _ ?_ (Heap.SameBut.update ..))⟩))))
  exact ⟨_, Heap.get?_update_self _ ho (Obj.isFreed_of_fields (Obj.data_mapFields hd _)), (Obj.cls_mapFields ..).trans hc, by
    rw [Obj.data_mapFields hd]; simp [rawInt]⟩
theorem nextB_end {it : Addr} {i : Nat} {Q : Value → Shared → Prop} (hh : A.handled = none) (hit : KBw.IsBytesIter s.heap it b t i) (hx : b[i]? = none)
    (hE : ∀ h' e, Heap.ExtBut it s.heap h' → (∃ o, h'.get? e = some o ∧ o.cls = .type "StopIteration") → E (.ref e) { s with heap := h' }) : wpAny (M w) A (Builtin.SmallTypes.nextOf (.ref it)) Q E s := by
  obtain ⟨o, ho, hc, hd⟩ := id hit
  unfold Builtin.SmallTypes.nextOf
  refine wpAny_bind (wpAny_callSpecial?_slot (name := PySem.Str.ofString "__next__") (KBw.iter_typeIs hit) KBw.slot_next
    (wpAny_call_entry KBw.slot_next (KBw.iter_typeIs hit) KBw.entry_next ?_ (KBw.args_next _)))
  show wpAny _ _ (field (.ref it) 0 >>= _) _ _ s
  refine wpAny_bind (wpAny_field ho hd (x := .bytes b t) rfl ?_)
  show wpAny _ _ (if (Value.bytes b t == Value.none) = true then _ else _) _ _ s
  rw [if_neg (show ¬ ((Value.bytes b t == Value.none) = true) from Bool.false_ne_true)]
  show wpAny _ _ (field (.ref it) 1 >>= _) _ _ s
  refine wpAny_bind (wpAny_field ho hd (x := .int i 0) rfl ?_)
  refine wpAny_bind (wpAny_of_eq (a := b) rfl ?_)
  simp only [Int.toNat_natCast, hx]
  refine wpAny_bind (wpAny_rule (wpAny_bind (wpAny_setField ho hd (by simp) ?_)))
  show wpAny _ _ (newExc (.type "StopIteration") [] >>= _) _ _ _
  refine wpAny_bind ?_
  simp only [newExc, newTuple]
  refine wpAny_bind (wpAny_newObj_type ?_ (by size_fits))
  refine wpAny_bind (m := firstArgMember _ _) (wpAny_of_eq (a := Value.none) (by first | rfl | (simp only [firstArgMember]; rfl)) ?_)
  refine wpAny_newObj_type ?_ (by size_fits)
  simp only [raiseNew]
  refine wpAny_bind (wpAny_handled ?_)
  rw [show A.in1.handled = none from hh]
  refine wpAny_bind (wpAny_pure (wpAny_throw ?_))
  exact hE _ _ (((Heap.SameBut.update ..).extBut.push _).push _) ⟨_, Heap.get?_push_size _ rfl, rfl⟩
theorem drawsB (hh : A.handled = none) (it : Addr) (b : Array UInt8) (t : Tok) :
    Draws prog w A it [it] b.size (fun i v => ∃ u, v = .int (byteAt b i) u) (fun i h => KBw.IsBytesIter h it b t i) where
  live := fun _ _ st => let ⟨o, ho, _⟩ := st; ⟨o, ho⟩
  frame := fun _ _ _ st hk => let ⟨o, ho, r⟩ := st; ⟨o, hk it (by simp) o ho, r⟩
  item := fun i s Q E hi st hQ => by
    refine nextB_item st (c := b[i]) (by simp [hi]) fun h' hit' hs' => ?_
    exact hQ _ h' (s.toks + 1) ⟨s.toks, by unfold byteAt; simp [hi]⟩ hit' hs'
  done := fun s Q E st hE => nextB_end hh st (by simp) hE
end

/-- a pair of ints -/
def pairOf (z : Int) (t : Tok) (i : Nat) (u : Tok) : Obj := { cls := .type "tuple", data := .seq #[.int z t, .int i u] }

structure InF (cenv : Env) (e I : Addr) : Prop where
  eI : e ≠ I
  eC : e ≠ cenv.locals
  IC : I ≠ cenv.locals
  k : cenv.scope.kind = .function
  ki : cenv.kindOf "idx" = some .local
  kv : cenv.kindOf "value" = some .local
  co : cenv.scope.isCoroutine = false
structure IX (cenv : Env) (e I : Addr) (b : Array UInt8) (u : Tok) (i : Nat) (h : Heap) : Prop where
  ns : ∃ m, h.Ns cenv.locals m
  en : ∃ old, IsEnum h e I i old
  it : KBw.IsBytesIter h I b u i
theorem IX.keep {cenv : Env} {e I : Addr} {b : Array UInt8} {u : Tok} {i : Nat} {h h' : Heap} (x : IX cenv e I b u i h) (k : ∀ q ∈ [cenv.locals, e, I], ∀ o, h.get? q = some o → h'.get? q = some o) : IX cenv e I b u i h' :=
  ⟨let ⟨m, n⟩ := x.ns; ⟨m, ns_keep n fun o e => k _ (by simp) o e⟩, let ⟨old, n⟩ := x.en; ⟨old, k _ (by simp) _ n⟩, let ⟨o, a, r⟩ := x.it; ⟨o, k _ (by simp) o a, r⟩⟩

def iR (cenv : Env) (e I : Addr) : GenEnd := fun n s₀ r s => n = 0 ∧ ∃ h' tk, s = ⟨h', s₀.gens, s₀.drawn, tk, s₀.os⟩ ∧ r = .ok .next ∧ Kp [cenv.locals, e, I] s₀.heap h'
def iY (cenv : Env) (e I : Addr) (b : Array UInt8) : Protocol := fun m s₀ v s κ => (∃ p t1 t2, v = .ref p ∧ s₀.heap.get? p = none ∧ s.heap.get? p = some (pairOf (byteAt b (b.size - 1 - m)) t1 (b.size - 1 - m) t2)) ∧
  (∃ h' tk, s = ⟨h', s₀.gens, s₀.drawn, tk, s₀.os⟩ ∧ Kp [cenv.locals, e, I] s₀.heap h') ∧
  ∀ s'' : Shared, (∀ q ∈ [cenv.locals, e, I], ∀ o, s.heap.get? q = some o → s''.heap.get? q = some o) → κ (.send .none) s''

section
variable {w : World} {cenv : Env} {e I : Addr} {b : Array UInt8} {u : Tok}
set_option maxHeartbeats 4000000 in
theorem i_loop {A : Around} {k1 k2 : Nat} {p1 p2 p3 p4 p5 p6 : Pos} {it : Expr} {scope : Scope} {pos : Pos} (hh : A.handled = none) (F : InF cenv e I) :
    ∀ (k i : Nat) (s₀ s : Shared), b.size - i = k → i ≤ b.size → IX cenv e I b u i s.heap → (∃ h' tk, s = ⟨h', s₀.gens, s₀.drawn, tk, s₀.os⟩ ∧ Kp [cenv.locals, e, I] s₀.heap h') →
      Seg (M w) A (iR cenv e I) (iY cenv e I b) (b.size - i) s₀
        (.compLoop (.GeneratorExp (.Tuple [.Name "value" p1, .Name "idx" p2] k1 p3) [⟨.Tuple [.Name "idx" p4, .Name "value" p5] k2 p6, it, [], 0⟩] scope pos) 0 (.ref e) .none cenv)
        ((M w).den (.compLoop (.GeneratorExp (.Tuple [.Name "value" p1, .Name "idx" p2] k1 p3) [⟨.Tuple [.Name "idx" p4, .Name "value" p5] k2 p6, it, [], 0⟩] scope pos) 0 (.ref e) .none cenv)) [] s := by
  intro k
  generalize hcode : Code.compLoop (.GeneratorExp (.Tuple [.Name "value" p1, .Name "idx" p2] k1 p3) [⟨.Tuple [.Name "idx" p4, .Name "value" p5] k2 p6, it, [], 0⟩] scope pos) 0 (.ref e) .none cenv = cd
  have hh' : (A.over cd []).in1.handled = none := hh
  have D := drawsB (w := w) (A := (A.over cd []).in1) hh' I b u
  induction k with
  | zero =>
    intro i s₀ s hk hle X sn
    have hin : i = b.size := by omega
    subst hin
    obtain ⟨h', tk, rfl, kp⟩ := sn
    obtain ⟨⟨m, ns⟩, ⟨old, en⟩, bi⟩ := X
    dsimp only at ns en bi
    subst hcode
    show Seg _ A _ _ _ s₀ _ ((compTurn (.GeneratorExp (.Tuple [.Name "value" p1, .Name "idx" p2] k1 p3) [⟨.Tuple [.Name "idx" p4, .Name "value" p5] k2 p6, it, [], 0⟩] scope pos) 0 (.ref e) .none cenv).onRaise (leaving cenv)) [] _
    rw [compTurn_gen, Sem.onRaise_eq_wrap]
    refine seg_bind_wrap (wpAny_standAt ?_)
    refine seg_bind_wrap (wpAny_pyNext_enum_endD (s := ⟨h', _, _, tk, _⟩) D en bi fun h₁ ex => ?_)
    exact seg_end (.ok .next) ⟨by omega, h₁, tk, rfl, rfl, fun q o hq e => ex q o (fun z => hq (by simp [z])) (kp q o hq e)⟩
  | succ k ih =>
    intro i s₀ s hk hle X sn
    obtain ⟨h', tk, rfl, kp⟩ := sn
    obtain ⟨⟨m, ns⟩, ⟨old, en⟩, bi⟩ := X
    dsimp only at ns en bi
    subst hcode
    show Seg _ A _ _ _ s₀ _ ((compTurn (.GeneratorExp (.Tuple [.Name "value" p1, .Name "idx" p2] k1 p3) [⟨.Tuple [.Name "idx" p4, .Name "value" p5] k2 p6, it, [], 0⟩] scope pos) 0 (.ref e) .none cenv).onRaise (leaving cenv)) [] _
    rw [compTurn_gen, Sem.onRaise_eq_wrap]
    refine seg_bind_wrap (wpAny_standAt ?_)
    refine seg_bind_wrap (wpAny_pyNext_enum_itemD (s := ⟨h', _, _, tk, _⟩) D en bi (by omega) F.eI (by simp [F.eI]) fun x h₁ tk₁ hx eo bi₁ tp zz k₁ => ?_)
    obtain ⟨ux, rfl⟩ := hx
    dsimp only at tp zz k₁ eo
    refine seg_bind_wrap (wpAny_letOwnedTupleGo_enum (s := ⟨h₁, _, _, _, _⟩) eo fun h₂ en₂ sb₂ => ?_)
    dsimp only at sb₂
    have lte : e < h'.objs.size := Heap.lt_size en
    have ltC : cenv.locals < h'.objs.size := let ⟨_, _, _, q, _⟩ := ns; Heap.lt_size q
    have ltI : I < h'.objs.size := let ⟨_, q, _⟩ := bi; Heap.lt_size q
    have tp₂ : h₂.IsTuple h'.objs.size #[.int i tk₁, .int (byteAt b i) ux] := ⟨_, (sb₂.2 _ (Nat.ne_of_gt lte)).trans tp, rfl, _, rfl⟩
    have z₂ : h₂.objs.size = h'.objs.size + 1 := sb₂.1.trans zz
    have bi₂ : KBw.IsBytesIter h₂ I b u (i + 1) := let ⟨o, q, r⟩ := bi₁; ⟨o, (sb₂.2 _ (Ne.symm F.eI)).trans q, r⟩
    have ns₂ : h₂.Ns cenv.locals m := ns_keep ns fun o q => (sb₂.2 _ (Ne.symm F.eC)).trans (k₁ _ o (Ne.symm F.eC) (Ne.symm F.IC) q)
    refine seg_bind_wrap (wpAny_assign_Tuple (s := ⟨h₂, _, _, _, _⟩) hh tp₂ rfl rfl fun h₃ x₃ => ?_)
    dsimp only at x₃
    have old₃ : ∀ q o, q < h'.objs.size + 1 → h₂.get? q = some o → h₃.get? q = some o := fun q o hq y => x₃ q o (by rw [z₂]; exact Nat.ne_of_lt hq) y
    have ns₃ := ns_keep ns₂ fun o q => old₃ _ o (Nat.lt_succ_of_lt ltC) q
    have hpp : (cenv.scope.kind == .class || (cenv.scope.kind == .module && cenv.locals != cenv.globals)) = false := by rw [F.k]; rfl
    show wpAny _ _ (do holding [_] (assign (.Name "idx" p4) cenv (.int i tk₁)); do holding [] (assign (.Name "value" p5) cenv (.int (byteAt b i) ux)); pure ()) _ _ _
    refine wpAny_bind (wpAny_holding (wpAny_assign_Name (wpAny_storeName_local F.ki ns₃ (fun h₄ ns₄ sb₄ => ?_) hpp)))
    refine wpAny_bind (wpAny_holding (wpAny_assign_Name (wpAny_storeName_local F.kv ns₄ (fun h₅ ns₅ sb₅ => wpAny_pure ?_) hpp)))
    dsimp only at sb₄ sb₅
    refine seg_bind_wrap (wpAny_of_eq (a := true) rfl ?_)
    simp only [if_true]
    have hy : ∀ v, yieldOut cenv v = yieldValue v := fun v => by simp only [yieldOut, F.co, Bool.false_eq_true, if_false]
    simp only [hy]
    rw [Sem.bind_eq_wrap', Sem.bind_eq_wrap', Sem.wrap_wrap, Sem.wrap_wrap]
    have k₅ : ∀ q o, q ≠ cenv.locals → q < h'.objs.size + 1 → h₂.get? q = some o → h₅.get? q = some o := fun q o hC hq y => (sb₅.2 _ hC).trans ((sb₄.2 _ hC).trans (old₃ q o hq y))
    refine seg_wrap (wpAny_Tuple ?_)
    refine xItem (wpAny_Name (wpAny_loadName_local F.k F.kv ns₅ (if_pos rfl) ?_) rfl) rfl
    refine xItem (wpAny_Name (wpAny_loadName_local F.k F.ki ns₅ ((if_neg (by decide)).trans (if_pos rfl)) ?_) rfl) rfl
    refine wpAny_items_nil ⟨by rw [sizeLine_eq]; simp, ?_⟩
    have en₅ := k₅ e _ F.eC (Nat.lt_succ_of_lt lte) en₂
    have bi₅ : KBw.IsBytesIter h₅ I b u (i + 1) := let ⟨o, q, r⟩ := bi₂; ⟨o, k₅ I _ F.IC (Nat.lt_succ_of_lt ltI) q, r⟩
    have in₅ : ∀ q ∈ [cenv.locals, e, I], q < h₅.objs.size := fun q hq => by
      simp only [List.mem_cons, List.not_mem_nil, or_false] at hq
      rcases hq with rfl | rfl | rfl
      · obtain ⟨_, _, _, q, _⟩ := ns₅; exact Heap.lt_size q
      · exact Heap.lt_size en₅
      · obtain ⟨_, q, _⟩ := bi₅; exact Heap.lt_size q
    have up : Kp [cenv.locals, e, I] s₀.heap h₅ := fun q o hq y => by
      have y' := kp q o hq y
      simp only [List.mem_cons, List.not_mem_nil, or_false, not_or] at hq
      exact k₅ q o hq.1 (Nat.lt_succ_of_lt (Heap.lt_size y')) ((sb₂.2 _ hq.2.1).trans (k₁ q o hq.2.1 hq.2.2 y'))
    have new : s₀.heap.get? h₅.objs.size = none := by
      cases y : s₀.heap.get? h₅.objs.size with
      | none => rfl
      | some o =>
        by_cases hq : h₅.objs.size ∈ [cenv.locals, e, I]
        · exact absurd (in₅ _ hq) (Nat.lt_irrefl _)
        · exact absurd (Heap.lt_size (up _ o hq y)) (Nat.lt_irrefl _)
    rw [hk]
    have ej : b.size - 1 - k = i := by omega
    refine seg_at (seg_yield rfl rfl rfl ⟨⟨_, ux, tk₁, rfl, new, ?_⟩, ⟨_, _, rfl, fun q o hq y => Heap.get?_push_of_some _ (up q o hq y)⟩, fun s'' hal => ?_⟩)
    · rw [ej]; exact Heap.get?_push_size _ rfl
    · refine seg_again rfl ?_
      have hk' : k = b.size - (i + 1) := by omega
      rw [hk']
      refine ih (i + 1) s'' s'' (by omega) (by omega) (IX.keep (h := h₅.push _) ⟨⟨_, ns_keep ns₅ fun o q => Heap.get?_push_of_some _ q⟩, ⟨_, by rw [show ((i + 1 : Nat) : Int) = (i : Int) + 1 from rfl]; exact Heap.get?_push_of_some _ en₅⟩, let ⟨o, q, r⟩ := bi₅; ⟨o, Heap.get?_push_of_some _ q, r⟩⟩ hal) ⟨s''.heap, s''.toks, rfl, fun _ _ _ e => e⟩
end
/-! F36 -/
theorem slot_gen_ga : Slot "generator" "__getattribute__" "object.__getattribute__" :=
  .of (owner := "object") (n := "__getattribute__") (by rw [typeLookup_type, builtinLookup_eq_fast]; kernel_rfl) (by decide +kernel) (by decide +kernel) (by decide +kernel)
    (by first | exact .inl (by decide +kernel) | exact .inr (by decide +kernel)) (by rw [isSubtype_type]; kernel_rfl)
theorem entry_gen_ga : entryFor table "object.__getattribute__" = some Builtin.«object.__getattribute__» := entryFor_of_tree (by kernel_rfl)
theorem args_gen_ga (a b : Value) : argsOk "object.__getattribute__" ⟨[a, b], []⟩ := by unfold argsOk; kernel_rfl
theorem gen_getattr_none : typeLookup (.type "generator") "__getattr__" = pure none := by rw [typeLookup_type, builtinLookup_eq_fast]; kernel_rfl
theorem gen_keys_none : typeLookup (.type "generator") "keys" = pure none := by rw [typeLookup_type, builtinLookup_eq_fast]; kernel_rfl

theorem meets_miss_gen (a : Addr) (xs : Array Value) (sl : Array (Option Value)) (name : Str) (u : Tok) (hmiss : typeLookup (.type "generator") name = pure none) (hname : (["__module__", "__name__", "__qualname__", "__doc__", "__annotations__"] : List Str).contains name = false) (hsz : name.length + 100 ≤ sizeLine := by size_fits) :
    Meets (Builtin.«object.__getattribute__» ⟨[.ref a, .str name u], []⟩) (fun A R s => s.heap.get? a = some { cls := .type "generator", dict := none, data := .fields xs, slots := sl } ∧ raisesAttr (.ref a) name A R s) :=
  Meets.of_wp fun prog w A R s hs => by
    obtain ⟨hp, g, d, tk, os⟩ := s
    obtain ⟨hx, hs⟩ := hs
    have hT : (⟨hp, g, d, tk, os⟩ : Shared).TypeIs (.ref a) "generator" := ⟨_, hx, rfl⟩
    unfold Builtin.«object.__getattribute__»
    repeat (any_goals (first | assumption | wp_step))
    simp only [hname, Bool.false_eq_true, if_false]
    repeat (any_goals (first | assumption | wp_step))
    exact wpAny_raiseAttrError hs.1 hs.2 (attrMsg_fits (by decide +kernel) hsz)

theorem miss_gen {w : World} {A : Around} {E : Value → Shared → Prop} {s : Shared} {a : Addr} {xs : Array Value} {sl : Array (Option Value)} {Q : Option Value → Shared → Prop}
    (hx : s.heap.get? a = some { cls := .type "generator", dict := none, data := .fields xs, slots := sl }) (hA : A.handled = none)
    (h : ∀ h' tk, (∀ b o, s.heap.get? b = some o → h'.get? b = some o) → Q none { s with heap := h', toks := tk }) :
    wpAny (M w) A (getAttr? (.ref a) "keys") Q E s := by
  obtain ⟨hp, g, d, tk, os⟩ := s
  have hT : ∀ tk', (⟨hp, g, d, tk', os⟩ : Shared).TypeIs (.ref a) "generator" := fun _ => ⟨_, hx, rfl⟩
  have f1 := sub_AttributeError
  have f3 := slot_gen_ga.lookup
  have f4 := slot_gen_ga.bind (.ref a)
  have f5 := gen_getattr_none
  unfold getAttr? getAttrBy? getAttrBy
  repeat (any_goals (first | assumption | exact hT _ | ((with_reducible show wpAny _ _ (call (Value.builtin "object.__getattribute__") _ _) _ _ _); refine call_meets slot_gen_ga (hT _) entry_gen_ga (args_gen_ga _ _) (meets_miss_gen a xs sl _ _ gen_keys_none (by decide +kernel) (by rw [sizeLine_eq]; decide)) ⟨hx, hA, fun h' tk' e hx' => ?_⟩) | wp_step))
  obtain ⟨t', u', he⟩ := hx'.there
  show wpAny _ _ (getattributeRaised _ _ _ _ _ _ _) _ _ _
  unfold getattributeRaised
  repeat (any_goals (first | assumption | wp_step))
  exact h _ _ hx'.keeps
/-! F37 -/
section
variable {w : World} {cenv : Env} {e I : Addr} {b : Array UInt8} {u : Tok}

theorem i_start {A : Around} {k1 k2 : Nat} {p1 p2 p3 p4 p5 p6 : Pos} {it : Expr} {scope : Scope} {pos : Pos} (hh : A.handled = none) (F : InF cenv e I) (s : Shared) (X : IX cenv e I b u 0 s.heap) :
    Seg (M w) A (iR cenv e I) (iY cenv e I b) b.size s
        (.compStart (.GeneratorExp (.Tuple [.Name "value" p1, .Name "idx" p2] k1 p3) [⟨.Tuple [.Name "idx" p4, .Name "value" p5] k2 p6, it, [], 0⟩] scope pos) 0 (.ref e) .none cenv)
        ((M w).den (.compStart (.GeneratorExp (.Tuple [.Name "value" p1, .Name "idx" p2] k1 p3) [⟨.Tuple [.Name "idx" p4, .Name "value" p5] k2 p6, it, [], 0⟩] scope pos) 0 (.ref e) .none cenv)) [] s := by
  have loop := i_loop (w := w) (A := A) (k1 := k1) (k2 := k2) (p1 := p1) (p2 := p2) (p3 := p3) (p4 := p4) (p5 := p5) (p6 := p6) (it := it) (scope := scope) (pos := pos) hh F _ 0 s s rfl (Nat.zero_le _) X ⟨s.heap, s.toks, rfl, fun _ _ _ e => e⟩
  rw [Nat.sub_zero] at loop
  obtain ⟨old, en⟩ := X.en
  show Seg _ A _ _ _ s _ ((compStart (.GeneratorExp (.Tuple [.Name "value" p1, .Name "idx" p2] k1 p3) [⟨.Tuple [.Name "idx" p4, .Name "value" p5] k2 p6, it, [], 0⟩] scope pos) 0 (.ref e) .none cenv).onRaise (leaving cenv)) [] s
  unfold compStart
  rw [Sem.onRaise_eq_wrap]
  show Seg _ A _ _ _ s _ ((ask >>= _).wrap _ _ _ _) [] s
  refine seg_bind_wrap (wpAny_askSetting ?_)
  split
  · exact seg_again rfl loop
  · first
      | exact seg_bind_wrap (wpAny_rule (seg_bind_wrap (wpAny_standAt (seg_bind_wrap (wpAny_pyIter_enum en (seg_again rfl loop))))))
      | (refine seg_bind_wrap (wpAny_rule ?_); show Seg _ A _ _ _ s _ ((standAt _ >>= _).wrap _ _ _ _) [] s; exact seg_bind_wrap (wpAny_standAt (seg_bind_wrap (wpAny_pyIter_enum en (seg_again rfl loop)))))

/-- the generator of pairs, its state the last -/
structure ISt (w : World) (A : Around) (cenv : Env) (a e I : Addr) (b : Array UInt8) (g₀ : Array GenState) (j : Nat) (s : Shared) : Prop where
  is : s.heap.IsGen a g₀.size
  lim : s.heap.NoLimit
  run : ∃ gs, s.gens = g₀.push gs ∧ ∀ s'' : Shared, (∀ q ∈ [cenv.locals, e, I], ∀ o, s.heap.get? q = some o → s''.heap.get? q = some o) →
    gs.Goes (M w) A.in1 (iR cenv e I) (iY cenv e I b) (b.size - j) (.send .none) s''

theorem ISt.frame {A : Around} {a : Addr} {g₀ : Array GenState} {j : Nat} {s : Shared} {h' : Heap} {tk' : Nat} (st : ISt w A cenv a e I b g₀ j s) (k : ∀ x ∈ [a, cStatics, cenv.locals, e, I], ∀ o, s.heap.get? x = some o → h'.get? x = some o) :
    ISt w A cenv a e I b g₀ j { s with heap := h', toks := tk' } :=
  ⟨let ⟨o, nm, qn, ho, r⟩ := st.is; ⟨o, nm, qn, k a (by simp) o ho, r⟩, lim_keep st.lim fun o e => k _ (by simp) o e,
    let ⟨gs, e, go⟩ := st.run; ⟨gs, e, fun s'' al => go s'' fun b hb o e => al b hb o (k b (List.mem_cons_of_mem _ (List.mem_cons_of_mem _ hb)) o e)⟩⟩

theorem ISt.next {A : Around} {a : Addr} {g₀ : Array GenState} {j : Nat} {s : Shared} {Q : Option Value → Shared → Prop} {E : Value → Shared → Prop} (hh : A.handled = none) (hroom : A.depth < recursionLimit) (ha : a ∉ [cenv.locals, e, I]) (hc : cStatics ∉ [cenv.locals, e, I])
    (hj : j < b.size) (st : ISt w A cenv a e I b g₀ j s)
    (k : ∀ s' p t1 t2, ISt w A cenv a e I b g₀ (j + 1) s' → Mv [cenv.locals, e, I] s s' → s.heap.get? p = none → s'.heap.get? p = some (pairOf (byteAt b j) t1 j t2) → Q (some (.ref p)) s') :
    wpAny (M w) A (pyNext (.ref a)) Q E s := by
  obtain ⟨hg, hl, gs, hgs, go⟩ := st
  have hget : s.gens[g₀.size]? = some gs := by rw [hgs]; simp
  obtain ⟨m, hm⟩ : ∃ m, b.size - j = m + 1 := ⟨b.size - j - 1, by omega⟩
  have go' := go (s.setGen g₀.size .running) fun b _ o e => e
  rw [hm] at go'
  unfold pyNext
  refine wpAny_bind (wpAny_attempt (cs_gen hh hl hroom hg hget go' (fun v s₁ gs' hb hv => ?_) fun x s₁ hx => absurd hx.1 (by omega)))
  obtain ⟨⟨p, t1, t2, rfl, hn, hp⟩, ⟨h', tk, rfl, hk⟩, al⟩ := hv
  have e1 : b.size - 1 - (m + 1 - 1) = j := by omega
  rw [e1] at hp
  have g1 : ∀ x, (Shared.setGen ⟨h', (s.setGen g₀.size .running).gens, (s.setGen g₀.size .running).drawn, tk, (s.setGen g₀.size .running).os⟩ g₀.size x).gens = g₀.push x := fun x => setGen_last (setGen_last hgs)
  refine wpAny_pure (k _ p t1 t2 ⟨let ⟨o, nm, qn, ho, r⟩ := hg; ⟨o, nm, qn, hk a o ha ho, r⟩, lim_keep hl fun o e => hk _ o hc e, gs', g1 gs', fun s'' al' => ?_⟩ ⟨fun b o hb e => hk b o hb e, rfl, rfl⟩ hn hp)
  have : b.size - (j + 1) = m := by omega
  rw [this]
  exact al s'' fun b hb o e => al' b hb o e

theorem ISt.stop {A : Around} {a : Addr} {g₀ : Array GenState} {s : Shared} {Q : Option Value → Shared → Prop} {E : Value → Shared → Prop} (hh : A.handled = none) (hroom : A.depth < recursionLimit)
    (st : ISt w A cenv a e I b g₀ b.size s) (k : ∀ s', Mv [cenv.locals, e, I] s s' → s'.gens = g₀.push .finished → Q none s') :
    wpAny (M w) A (pyNext (.ref a)) Q E s := by
  obtain ⟨hg, hl, gs, hgs, go⟩ := st
  have hget : s.gens[g₀.size]? = some gs := by rw [hgs]; simp
  have go' := go (s.setGen g₀.size .running) fun b _ o e => e
  unfold pyNext
  refine wpAny_bind (wpAny_attempt (cs_gen hh hl hroom hg hget go' (fun v s₁ gs' hb hv => ?_) fun x s₁ hx => .inl ?_))
  · rw [Nat.sub_self] at hv
    exact absurd (hv.2.2 _ fun _ _ _ e => e) id
  · obtain ⟨_, h₁, tk, rfl, hx, hk⟩ := hx
    refine ⟨.inr hx, fun h' e kp st => ?_⟩
    have g1 : ∀ x, (Shared.setGen ⟨h₁, (s.setGen g₀.size .running).gens, (s.setGen g₀.size .running).drawn, tk, (s.setGen g₀.size .running).os⟩ g₀.size x).gens = g₀.push x := fun x => setGen_last (setGen_last hgs)
    refine wpAny_bind (wpAny_isInstance (T := "StopIteration") (b := true) st isSubtype_stop (wpAny_pure (k _ ⟨fun b o hb e => kp b o (hk b o hb e), rfl, rfl⟩ (g1 _))))

theorem entry_dloop : entryFor table "dict.update.loop" = some Builtin.«dict.update.loop» := entryFor_of_tree (by kernel_rfl)
theorem plain_dloop : plainId "dict.update.loop" = true := by decide +kernel

/-- the pairs told so far -/
def KvOk (b : Array UInt8) (j : Nat) (kvs : List (Int × Value)) : Prop := kvs.map (·.1) = (List.range j).map (byteAt b) ∧ ∀ i, i < j → ∃ t, kvs[i]? = some (byteAt b i, .int (i : Nat) t)
theorem KvOk.len {b : Array UInt8} {j : Nat} {kvs : List (Int × Value)} (h : KvOk b j kvs) : kvs.length = j := by
  have := congrArg List.length h.1
  simpa using this
theorem KvOk.snoc {b : Array UInt8} {j : Nat} {kvs : List (Int × Value)} {t : Tok} (h : KvOk b j kvs) (hinj : ∀ i, i < j → byteAt b i ≠ byteAt b j) : stored kvs (byteAt b j) (.int (j : Nat) t) = kvs ++ [(byteAt b j, .int (j : Nat) t)] ∧ KvOk b (j + 1) (kvs ++ [(byteAt b j, .int (j : Nat) t)]) := by
  have hl := h.len
  refine ⟨?_, ?_, ?_⟩
  · unfold stored
    rw [if_neg]
    rw [List.any_eq_true]
    rintro ⟨kv, hm, hk⟩
    have : kv.1 ∈ (List.range j).map (byteAt b) := h.1 ▸ List.mem_map_of_mem hm
    obtain ⟨i, hi, he⟩ := List.mem_map.mp this
    exact hinj i (List.mem_range.mp hi) (he.trans (by simpa using hk))
  · rw [List.map_append, h.1, List.range_succ, List.map_append]; rfl
  · intro i hi
    by_cases hij : i < j
    · obtain ⟨t', e⟩ := h.2 i hij
      exact ⟨t', by rw [List.getElem?_append_left (by omega)]; exact e⟩
    · have : i = j := by omega
      subst this
      exact ⟨t, by rw [List.getElem?_append_right (by omega), hl]; simp⟩

theorem d_loop {A : Around} {a D : Addr} {g₀ : Array GenState} {R : Result → Shared → Prop} (hh : A.handled = none) (hroom : A.depth < recursionLimit) (ha : a ∉ [cenv.locals, e, I]) (hc : cStatics ∉ [cenv.locals, e, I]) (hD : D ∉ [a, cStatics, cenv.locals, e, I])
    (hn : b.size ≤ 64) (hinj : ∀ j, j < b.size → ∀ i, i < j → byteAt b i ≠ byteAt b j) (s₀ : Shared)
    (hR : ∀ s' kvs, s'.heap.DictOf (intKind prog w) D kvs → KvOk b b.size kvs → Mv [D, cenv.locals, e, I] s₀ s' → s'.gens = g₀.push .finished → R (.ok (.ret .none)) s') :
    ∀ (k j : Nat) (s : Shared) (kvs : List (Int × Value)), b.size - j = k → j ≤ b.size → ISt w A.in1 cenv a e I b g₀ j s → s.heap.DictOf (intKind prog w) D kvs → KvOk b j kvs → Mv [D, cenv.locals, e, I] s₀ s →
      codeAny (M w) A (.builtin "dict.update.loop" ⟨[.ref D, .ref a, .int j 0, .none], []⟩) R s := by
  have hDw : D ∉ [cenv.locals, e, I] := fun q => hD (List.mem_cons_of_mem _ (List.mem_cons_of_mem _ q))
  have up : ∀ {s s' : Shared}, Mv [cenv.locals, e, I] s s' → Mv [D, cenv.locals, e, I] s₀ s → Mv [D, cenv.locals, e, I] s₀ s' := fun m mv => ⟨fun q o hq x => m.1 q o (fun z => hq (List.mem_cons_of_mem _ z)) (mv.1 q o hq x), m.2.1.trans mv.2.1, m.2.2.trans mv.2.2⟩
  intro k
  induction k with
  | zero =>
    intro j s kvs hk hle st hd hkv mv
    have hj : j = b.size := by omega
    subst hj
    refine codeAny_builtin entry_dloop ?_
    rw [Around.under_plainId plain_dloop _]
    show wpAny _ A.in1 (pyNext (.ref a) >>= _) _ _ s
    refine wpAny_bind (st.stop hh hroom fun s' m hg => ?_)
    show wpAny _ A.in1 (Builtin.Dict.addKeywords D [] >>= fun _ => ret Value.none) _ _ s'
    refine wpAny_bind (wpAny_pure ?_)
    refine wpAny_pure (hR s' kvs ?_ hkv (up m mv) hg)
    obtain ⟨o, es, ep, ho, r⟩ := hd
    exact ⟨o, es, ep, m.1 D o hDw ho, r⟩
  | succ k ih =>
    intro j s kvs hk hle st hd hkv mv
    have hlt : j < b.size := by omega
    refine codeAny_builtin entry_dloop ?_
    rw [Around.under_plainId plain_dloop _]
    show wpAny _ A.in1 (pyNext (.ref a) >>= _) _ _ s
    refine wpAny_bind (st.next hh hroom ha hc hlt fun s' p t1 t2 st' m hnp hp => ?_)
    have hd' : s'.heap.DictOf (intKind prog w) D kvs := let ⟨o, es, ep, ho, r⟩ := hd; ⟨o, es, ep, m.1 D o hDw ho, r⟩
    have hTp : s'.TypeIs (.ref p) "tuple" := ⟨_, hp, rfl⟩
    refine wpAny_bind (wpAny_holding (wpAny_bind (wpAny_tryCatch ?_)))
    unfold Builtin.Dict.pairItems
    refine wpAny_bind (wpAny_typeOf hTp ?_)
    rw [if_pos (by decide)]
    refine wpAny_bind (wpAny_seqItems hp rfl (wpAny_pure ?_))
    show wpAny _ _ (holding [.int (byteAt b j) t1, .int (j : Nat) t2] (dictSet D (.int (byteAt b j) t1) (.int (j : Nat) t2))) _ _ s'
    refine wpAny_holding (wpAny_dictSet_pairs (k := byteAt b j) (intKind_is _ _ _ _) hd' (fun h' hd₂ sb => ?_) (by rw [hkv.len, sizeLine_eq]; omega))
    obtain ⟨e1, e2⟩ := hkv.snoc (t := t2) (hinj j hlt)
    rw [e1] at hd₂
    refine wpAny_pure ⟨plainId_quiet plain_dloop _, ih (j + 1) _ _ (by omega) hlt (st'.frame fun q hq o x => (sb.2 q (fun z => hD (z ▸ hq))).trans x) hd₂ e2 ?_⟩
    have m' := up m mv
    exact ⟨fun q o hq x => (sb.2 q (fun z => hq (by simp [z]))).trans (m'.1 q o hq x), m'.2.1, m'.2.2⟩
end
/-! F38 -/
section
variable {w : World} {cenv : Env} {e I : Addr} {b : Array UInt8} {u : Tok}
theorem dict_gen {A : Around} {E : Value → Shared → Prop} {s : Shared} {a : Addr} {g₀ : Array GenState} {Q : Value → Shared → Prop} {xs : Array Value} (hh : A.handled = none) (hroom : A.depth < recursionLimit) (ha : a ∉ [cenv.locals, e, I]) (hc : cStatics ∉ [cenv.locals, e, I])
    (hlt : ∀ q ∈ [a, cStatics, cenv.locals, e, I], q < s.heap.objs.size) (hga : s.heap.get? a = some { cls := .type "generator", data := .fields xs })
    (hn : b.size ≤ 64) (hinj : ∀ j, j < b.size → ∀ i, i < j → byteAt b i ≠ byteAt b j)
    (st : ∀ A' : Around, A'.handled = none → A'.depth = A.depth → ISt w A' cenv a e I b g₀ 0 s)
    (k : ∀ s' kvs, s'.heap.DictOf (intKind prog w) s.heap.objs.size kvs → KvOk b b.size kvs → Mv [cenv.locals, e, I] s s' → s'.gens = g₀.push .finished → Q (.ref s.heap.objs.size) s') :
    wpAny (M w) A (call (.type "dict") [.ref a]) Q E s := by
  refine callType_codes (Q₁ := fun obj s₁ => obj = .ref s.heap.objs.size ∧ s₁ = { s with heap := s.heap.push { cls := .type "dict", data := .dict #[] } }) F.kt_called_dict (F.kt_typeCall_dict_1 _) F.entry_dict_init (kt_code_dict_new _ ⟨rfl, rfl⟩) ?_
  rintro obj s₁ ⟨rfl, rfl⟩
  have hnew : (s.heap.push { cls := .type "dict", data := .dict #[] }).DictOf (intKind prog w) s.heap.objs.size [] := Heap.DictOf.new s.heap
  have hga' : (s.heap.push { cls := .type "dict", data := .dict #[] }).get? a = some { cls := .type "generator", data := .fields xs } := Heap.get?_push_of_some _ hga
  refine ⟨hnew.typeIs, F.args_dict_init_2 _ _, ?_⟩
  unfold Builtin.«dict.__init__»
  refine wpAny_bind ?_
  unfold Builtin.Dict.selfAndRest
  refine wpAny_bind (wpAny_notOrdered_dict hnew.typeIs ?_)
  show wpAny _ _ (pure (s.heap.objs.size, [Value.ref a])) _ _ _
  refine wpAny_pure ?_
  show wpAny _ _ (Builtin.Dict.updateFrom "dict.__init__" s.heap.objs.size (.ref a) [] .none) _ _ _
  unfold Builtin.Dict.updateFrom
  have hT : Shared.TypeIs { s with heap := s.heap.push { cls := .type "dict", data := .dict #[] } } (.ref a) "generator" := ⟨_, hga', rfl⟩
  refine wpAny_bind (wpAny_typeOf hT ?_)
  rw [if_pos (by decide)]
  refine wpAny_bind (miss_gen (A := A.in1.in1) hga' hh fun h₂ tk₂ k₂ => ?_)
  rw [if_pos (show (none : Option Value).isNone = true from rfl)]
  refine wpAny_bind (wpAny_rule ?_)
  have st₂ := st A.in1.in1 hh rfl
  have k₃ : ∀ q o, s.heap.get? q = some o → h₂.get? q = some o := fun q o x => k₂ q o (Heap.get?_push_of_some _ x)
  have hig : (Shared.heap { s with heap := h₂, toks := tk₂ }).IsGen a g₀.size := let ⟨o, nm, qn, ho, r⟩ := st₂.is; ⟨o, nm, qn, k₃ _ _ ho, r⟩
  refine wpAny_bind (wpAny_pyIter_gen hig ?_)
  refine wpAny_pure ⟨plainId_quiet plain_dloop _, ?_⟩
  have hD : s.heap.objs.size ∉ [a, cStatics, cenv.locals, e, I] := fun q => Nat.lt_irrefl _ (hlt _ q)
  refine d_loop (A := A.in1) (g₀ := g₀) hh hroom ha hc hD hn hinj { s with heap := h₂, toks := tk₂ } (fun s' kvs hd hkv mv hg => ?_) b.size 0 _ [] rfl (Nat.zero_le _) (st₂.frame fun q _ o x => k₃ q o x) ?_ ⟨rfl, fun i hi => absurd hi (Nat.not_lt_zero _)⟩ ⟨fun _ _ _ x => x, rfl, rfl⟩
  · refine ⟨rfl, k s' kvs hd hkv ⟨fun q o hq x => ?_, mv.2.1, mv.2.2⟩ hg⟩
    exact mv.1 q o (fun z => by
      rcases List.mem_cons.mp z with z | z
      · exact absurd (Heap.lt_size x) (by rw [z]; exact Nat.lt_irrefl _)
      · exact hq z) (k₃ q o x)
  · obtain ⟨o, es, ep, ho, r⟩ := hnew
    exact ⟨o, es, ep, k₂ _ _ ho, r⟩
end
/-! F39 -/
theorem sub_bytes_set : isSubtype (.type "bytes") (.type "set") = pure false := by rw [isSubtype_type]; kernel_rfl
theorem sub_bytes_frozenset : isSubtype (.type "bytes") (.type "frozenset") = pure false := by rw [isSubtype_type]; kernel_rfl

set_option maxHeartbeats 3200000 in
theorem set_bytes {w : World} {A : Around} {E : Value → Shared → Prop} {s : Shared} {b : Array UInt8} {t : Tok} {Q : Value → Shared → Prop}
    (hh : A.handled = none) (hb : b.size + 1 < scanBound)
    (h : ∀ (h' : Heap) (tk : Nat), h'.SetOf (intKind prog w) s.heap.objs.size (fun k' => (firstMet (byteAt b) b.size).any (· == k')) (firstMet (byteAt b) b.size).length →
      (∀ q o, s.heap.get? q = some o → h'.get? q = some o) → Q (.ref s.heap.objs.size) { s with heap := h', toks := tk }) :
    wpAny (M w) A (call (.type "set") [.bytes b t]) Q E s := by
  obtain ⟨c, tl, hmro⟩ := F.called_set.mro
  have hmade := F.called_set.made
  have hsub := F.called_set.sub
  refine wpAny_call (codeAny_of_tree ?_)
  show wpAny _ _ (callAny (.type "set") _) _ _ _
  refine wpAny_pure ⟨Code.quiet_builtin _ (by decide +kernel), codeAny_builtin F.entry_type_call ?_⟩
  rw [Around.under_plain (weight_type_call_type "set" [.bytes b t] []) rfl]
  have h1 := F.called_set.notType
  have h2 := F.called_set.canCreate
  have hct := F.typeCall_set_1 (.bytes b t)
  repeat (any_goals (first | assumption | wp_step))
  refine codeAny_mono (code_set_new_1 (.bytes b t) (E := E) (Q₁ := fun obj s₁ => ∃ led : Bool, obj = .ref s.heap.objs.size ∧ s₁ = { s with heap := s.heap.push { cls := .type "set", dict := none, data := .set #[] 0 (.fresh 0 0 led) } }) fun led => ⟨led, rfl, rfl⟩) fun r s₁ hr => ?_
  cases r with
  | error e => exact hr
  | ok fl =>
    cases fl with
    | ret obj =>
      obtain ⟨led, rfl, rfl⟩ := hr
      have hS : (s.heap.push { cls := .type "set", dict := none, data := .set #[] 0 (.fresh 0 0 led) }).get? s.heap.objs.size = some { cls := .type "set", dict := none, data := .set #[] 0 (.fresh 0 0 led) } := Heap.get?_push_size _ rfl
      have hT : Shared.TypeIs { s with heap := s.heap.push { cls := .type "set", dict := none, data := .set #[] 0 (.fresh 0 0 led) } } (.ref s.heap.objs.size) "set" := ⟨_, hS, rfl⟩
      have hli := F.called_set.init.lookup
      have hbi := F.called_set.init.bind (.ref s.heap.objs.size)
      repeat (any_goals (first | assumption | wp_step))
      refine codeAny_mono (codeAny_call_builtin (R := wants (fun r s₂ => r = .none ∧ ∃ h' tk, s₂ = { s with heap := h', toks := tk } ∧
          h'.SetOf (intKind prog w) s.heap.objs.size (fun k' => (firstMet (byteAt b) b.size).any (· == k')) (firstMet (byteAt b) b.size).length ∧
          (∀ q o, s.heap.get? q = some o → h'.get? q = some o)) E) F.called_set.init.plain F.entry_set_init (check_set_init_1 hT ?_)) fun r₂ s₂ hr₂ => ?_
      · have hsls := sub_bytes_set
        have hslf := sub_bytes_frozenset
        have hne : (Value.type "bytes" == Value.type "dict") = false := by decide
        have hTb : ∀ s' : Shared, s'.TypeIs (.bytes b t) "bytes" := fun s' => typeIs_bytes s' b t
        unfold Builtin.«set.__init__» noKeywords Builtin.Frozenset.updateFrom
        generalize hPI : pyIter = PI
        wp_walk
        subst hPI
        refine KBw.pyIter_bytes ?_
        refine wpAny_bind (wpAny_runValue ?_)
        have hh3 : A.in1.in1.in1.handled = none := by simp [hh]
        have hSf : s.heap.objs.size ∉ [(s.heap.push { cls := .type "set", dict := none, data := .set #[] 0 (.fresh 0 0 led) }).objs.size] := by
          rw [Heap.size_push]; simp only [List.mem_singleton]
          exact Nat.ne_of_lt (Nat.lt_succ_self _)
        have W := (KBw.walks (prog := prog) (w := w) (A := A.in1.in1.in1) hh3 (s.heap.push { cls := .type "set", dict := none, data := .set #[] 0 (.fresh 0 0 led) }).objs.size b t).toS
        have hval : ∀ (i : Nat) (v : Value), (∃ c u, b[i]? = some c ∧ v = .int (c.toNat : Int) u) → ∃ t, v = .int (byteAt b i) t := fun i v ⟨c, u, h1, h2⟩ => ⟨u, by rw [h2]; unfold byteAt; rw [h1]; rfl⟩
        refine codeAny_set_update_loopS W s.heap.objs.size hSf (byteAt b) hval hb (b.size - 0) 0 _ (by omega) (Nat.zero_le _)
          ⟨_, Heap.get?_push_size _ rfl, rfl, rfl⟩ ?hS0 ?hR
        case hS0 =>
          have hget : ((s.heap.push { cls := .type "set", dict := none, data := .set #[] 0 (.fresh 0 0 led) }).push { cls := .type "bytes_iterator", data := .fields #[.bytes b t, .int 0 0] }).get? s.heap.objs.size
              = some { cls := .type "set", dict := none, data := .set #[] 0 (.fresh 0 0 led) } := Heap.get?_push_of_some _ hS
          exact SetOf_congr ((setObjOf_fresh (knd := intKind prog w) led).setOf hget (by unfold scanBound; omega)) (fun _ => rfl) rfl
        case hR =>
          intro s' hm hS'
          obtain ⟨h', g', d', tk', os'⟩ := s'
          have eg : g' = s.gens := hm.gens
          have ed : d' = s.drawn := hm.drawn
          have eo : os' = s.os := hm.os
          subst eg; subst ed; subst eo
          show wpAny _ _ _ _ _ _
          refine wpAny_pure ?_
          show wpAny _ _ (ret Value.none) _ _ _
          refine wpAny_pure ⟨rfl, h', tk', rfl, hS', fun q o e => ?_⟩
          have hq := Heap.lt_size e
          have hb1 : q ≠ s.heap.objs.size := Nat.ne_of_lt hq
          have hb2 : q ≠ (s.heap.push { cls := .type "set", dict := none, data := .set #[] 0 (.fresh 0 0 led) }).objs.size := by
            rw [Heap.size_push]; exact Nat.ne_of_lt (Nat.lt_succ_of_lt hq)
          exact hm.heap q o (by simp only [List.mem_cons, List.not_mem_nil, or_false, not_or]; exact ⟨hb1, hb2⟩) (Heap.get?_push_of_some _ (Heap.get?_push_of_some _ e))
      · cases r₂ with
        | error e => exact hr₂
        | ok fl₂ =>
          cases fl₂ with
          | ret r =>
            obtain ⟨rfl, h', tk, rfl, hS', hk'⟩ := hr₂
            repeat (any_goals (first | assumption | wp_step))
            exact h _ _ hS' hk'
          | _ => exact hr₂.elim
    | _ => exact hr.elim

theorem first_all {b : Array UInt8} : ∀ n, (∀ j, j < n → ∀ i, i < j → byteAt b i ≠ byteAt b j) → firstMet (byteAt b) n = (List.range n).map (byteAt b)
  | 0, _ => rfl
  | n + 1, h => by
    have ih := first_all n fun j hj i hi => h j (Nat.lt_succ_of_lt hj) i hi
    rw [firstMet_succ, ih, List.range_succ, List.map_append]
    unfold step_dedup
    rw [if_neg]
    · rfl
    · rw [List.any_eq_true]
      rintro ⟨z, hm, hz⟩
      obtain ⟨i, hi, he⟩ := List.mem_map.mp hm
      exact h n (Nat.lt_succ_self _) i (List.mem_range.mp hi) (he.trans (by simpa using hz))

/-- `len(set(charmap))` -/
theorem len_set {w : World} {A : Around} {E : Value → Shared → Prop} {s : Shared} {a : Addr} {S : Int → Bool} {n : Nat} {Q : Value → Shared → Prop} (hs : s.heap.SetOf (intKind prog w) a S n) (hn : n ≤ 1000)
    (h : Q (.int n (s.toks + 1)) { s with toks := s.toks + 1 + 1 }) : wpAny (M w) A (call (.builtin "len") [.ref a]) Q E s := by
  obtain ⟨o, es, ep, t, ho, hex, hd, _, _, _, hf, rfl⟩ := hs
  exact call_len_set ho hex hd hf (by omega) h
/-! F40 -/
set_option maxHeartbeats 1000000 in
theorem meets_enumerate_newB (x : Array UInt8) (t : Tok) :
    Meets (Builtin.«enumerate.__new__» ⟨[.type "enumerate", .bytes x t], []⟩) (fun _ R s =>
      R (.ok (.ret (.ref (s.heap.push { cls := .type "bytes_iterator", data := .fields #[.bytes x t, .int 0 0] }).objs.size)))
        { s with heap := (s.heap.push { cls := .type "bytes_iterator", data := .fields #[.bytes x t, .int 0 0] }).push { cls := .type "enumerate", data := .fields #[.none, .bool false, .ref s.heap.objs.size, rawInt 0, .none, .none] } }) :=
  .of_wp fun prog w A R s h => by
    obtain ⟨hp, g, d, tk, os⟩ := s
    have hsub := sub_enumerate
    wp_walk
    refine wpAny_stack_any fun st => wpAny_pure ?_
    split
    · rename_i c _ _ _ _ _
      cases (c == Value.type "enumerate")
      · wp_walk using KBw.pyIter_bytes
        exact ⟨_, rfl, h⟩
      · wp_walk using KBw.pyIter_bytes
        exact ⟨_, rfl, h⟩
    · wp_walk using KBw.pyIter_bytes
      exact ⟨_, rfl, h⟩

theorem enum_bytes {w : World} {A : Around} {E : Value → Shared → Prop} {s : Shared} {x : Array UInt8} {t : Tok} {Q : Value → Shared → Prop}
    (h : ∀ h', IsEnum h' (s.heap.objs.size + 1) s.heap.objs.size 0 .none → KBw.IsBytesIter h' s.heap.objs.size x t 0 → h'.objs.size = s.heap.objs.size + 2 →
      (∀ b o, s.heap.get? b = some o → h'.get? b = some o) → Q (.ref (s.heap.objs.size + 1)) { s with heap := h' }) :
    wpAny (M w) A (call (.type "enumerate") [.bytes x t]) Q E s := by
  refine callType_new F.called_enumerate (by decide) (F.typeCall_enumerate_1 _) (F.newCall_enumerate_1 _) (fun obj => F.args_object_init_2 obj _) F.entry_enumerate_new
    (meets_enumerate_newB x t) ?_
  have hz : (s.heap.push { cls := .type "bytes_iterator", data := .fields #[.bytes x t, .int 0 0] }).objs.size = s.heap.objs.size + 1 := Heap.size_push ..
  show _ ∧ _
  rw [hz]
  have he : IsEnum ((s.heap.push { cls := .type "bytes_iterator", data := .fields #[.bytes x t, .int 0 0] }).push
      { cls := .type "enumerate", data := .fields #[.none, .bool false, .ref s.heap.objs.size, rawInt 0, .none, .none] }) (s.heap.objs.size + 1) s.heap.objs.size 0 .none := by
    have := Heap.get?_push_size (s.heap.push { cls := .type "bytes_iterator", data := .fields #[.bytes x t, .int 0 0] })
      (o := { cls := .type "enumerate", data := .fields #[.none, .bool false, .ref s.heap.objs.size, rawInt 0, .none, .none] }) rfl
    rw [hz] at this; exact this
  refine ⟨⟨_, he, rfl⟩, h _ he ⟨_, Heap.get?_push_of_some _ (Heap.get?_push_size _ rfl), rfl, rfl⟩ (by rw [Heap.size_push, hz]) fun b o y => Heap.get?_push_of_some _ (Heap.get?_push_of_some _ y)⟩
/-! F41 -/
section
open Builtin Builtin.ObjectAttr
def hashS : Str := "./0123456789ABCDEFGHIJKLMNOPQRSTUVWXYZabcdefghijklmnopqrstuvwxyz"
def bcryptS : Str := "./ABCDEFGHIJKLMNOPQRSTUVWXYZabcdefghijklmnopqrstuvwxyz0123456789"
def bytesOf (s : Str) : Array UInt8 := (s.cps.toList.map fun c => c.toUInt8).toArray
def hashB : Array UInt8 := bytesOf hashS
def bcryptB : Array UInt8 := bytesOf bcryptS

theorem enc_hash (t u : Tok) : Builtin.«str.encode» ⟨[.str hashS t, .str "latin-1" u], []⟩ = (do ret (← mkBytes hashB)) := by kernel_rfl
theorem enc_bcrypt (t u : Tok) : Builtin.«str.encode» ⟨[.str bcryptS t, .str "latin-1" u], []⟩ = (do ret (← mkBytes bcryptB)) := by kernel_rfl
theorem cm_hash : CmOk hashB := ⟨by decide +kernel, by decide +kernel⟩
theorem cm_bcrypt : CmOk bcryptB := ⟨by decide +kernel, by decide +kernel⟩

/-- a charmap of the text -/
structure Chr (x : Str) (b : Array UInt8) : Prop where
  enc : ∀ t u, Builtin.«str.encode» ⟨[.str x t, .str "latin-1" u], []⟩ = (do ret (← mkBytes b))
  cm : CmOk b
theorem chr_hash : Chr hashS hashB := ⟨enc_hash, cm_hash⟩
theorem chr_bcrypt : Chr bcryptS bcryptB := ⟨enc_bcrypt, cm_bcrypt⟩
theorem CmOk.inj {b : Array UInt8} (h : CmOk b) : ∀ j, j < b.size → ∀ i, i < j → byteAt b i ≠ byteAt b j := by
  intro j hj i hi e
  have hl : (bl b).length = b.size := by simp [bl]
  rw [byteAt_bl, byteAt_bl] at e
  have hj' : j < (bl b).length := by omega
  have hi' : i < (bl b).length := by omega
  rw [List.getD_eq_getElem?_getD, List.getD_eq_getElem?_getD, List.getElem?_eq_getElem hj', List.getElem?_eq_getElem hi'] at e
  have := (List.getElem_inj h.nodup).mp (show (bl b)[i] = (bl b)[j] from Int.ofNat_inj.mp (by simpa using e))
  omega

section
variable {w : World} {A : Around} {E : Value → Shared → Prop} {s : Shared}
theorem encode_ok {x : Str} {b : Array UInt8} {t u : Tok} {Q : Value → Shared → Prop} (c : Chr x b) (h : Q (.bytes b s.toks) { s with toks := s.toks + 1 }) : wpAny (M w) A (call (.builtin "str.encode") [.str x t, .str "latin-1" u]) Q E s := by
  refine wpAny_call_entry F.slot_str_encode (by rfl) F.entry_str_encode ?_ (F.args_str_encode_2 _ _)
  rw [c.enc]
  refine wpAny_bind (wpAny_mkBytes ?_ (by rw [c.cm.size, sizeLine_eq]; decide))
  exact wpAny_pure ⟨_, rfl, h⟩
theorem get_encode {x : Str} {t : Tok} {pl : Sem Bool} {Q : Value × List Value → Shared → Prop} (h : Q (.builtin "str.encode", [.str x t]) s) : wpAny (M w) A (getMethod (.str x t) "encode" pl) Q E s :=
  getMethod_builtin (T := "str") (by rfl) F.plainAttrs_str F.slot_str_encode F.type_str_encode (fun a e => nomatch e) h
end
end
/-! F42 -/
section
open Builtin Builtin.ObjectAttr
/-! `charmap.__getitem__` -/
theorem slot_b_ga : Slot "bytes" "__getattribute__" "bytes.__getattribute__" :=
  .of (owner := "bytes") (n := "__getattribute__") (by rw [typeLookup_type, builtinLookup_eq_fast]; kernel_rfl) (by decide +kernel) (by decide +kernel) (by decide +kernel)
    (by first | exact .inl (by decide +kernel) | exact .inr (by decide +kernel)) (by rw [isSubtype_type]; kernel_rfl)
theorem entry_b_ga : entryFor table "bytes.__getattribute__" = some Builtin.«object.__getattribute__» :=
  entryFor_alias (id' := "object.__getattribute__") (by kernel_rfl) (by first | rfl | decide +kernel) (by decide +kernel) (by kernel_rfl)
theorem args_b_ga (a b : Value) : argsOk "bytes.__getattribute__" ⟨[a, b], []⟩ := by unfold argsOk; kernel_rfl
theorem noga_b : typeLookup (.type "bytes") "__getattr__" = pure none := by rw [typeLookup_type, builtinLookup_eq_fast]; kernel_rfl
theorem lk_b : typeLookup (.type "bytes") "__getitem__" = pure (some (.builtin "bytes.__getitem__")) := by rw [typeLookup_type, builtinLookup_eq_fast]; kernel_rfl
theorem tid_b : typeOf (.builtin "bytes.__getitem__") = pure (.type "wrapper_descriptor") := by kernel_rfl
theorem own_b : isSubtype (.type "bytes") (.type (".".intercalate ("bytes.__getitem__".cutAt '.').dropLast)) = pure true := by rw [isSubtype_type]; kernel_rfl

section
variable {w : World} {A : Around} {E : Value → Shared → Prop} {s : Shared} {b : Array UInt8} {t : Tok}
theorem bwd_code {R : Result → Shared → Prop} (h : R (.ok (.ret (.ref s.heap.objs.size))) { s with heap := s.heap.push (mwObj "bytes.__getitem__" (.bytes b t)) }) :
    codeAny (M w) A (.call (.builtin "wrapper_descriptor.__get__") ⟨[.builtin "bytes.__getitem__", .bytes b t, .type "bytes"], []⟩) R s := by
  have hT : s.TypeIs (.bytes b t) "bytes" := typeIs_bytes s b t
  have hT5 : s.TypeIs (.builtin "bytes.__getitem__") "wrapper_descriptor" := tid_b
  refine codeAny_call_builtin slot_wd_get.plain entry_wd_get (slot_wd_get.check _ _ _ _ _ _ _ _ hT5 (args_wd_get _ _ _) ?_)
  have f1 := own_b
  repeat (any_goals (first | assumption | wp_step))
theorem bga_code {tk : Tok} {Q : PySem.Fin → Shared → Prop} (h : Q (.done (.ret (.ref s.heap.objs.size))) { s with heap := s.heap.push (mwObj "bytes.__getitem__" (.bytes b t)) }) :
    wpAny (M w) A (Builtin.«object.__getattribute__» ⟨[.bytes b t, .str "__getitem__" tk], []⟩) Q E s := by
  have hT : s.TypeIs (.bytes b t) "bytes" := typeIs_bytes s b t
  have hT5 : s.TypeIs (.builtin "bytes.__getitem__") "wrapper_descriptor" := tid_b
  have f4 := lk_b
  have f5 := tid_b
  have f6 := slot_wd_get.lookup
  have f7 := no_wd_set
  have f8 := no_wd_del
  repeat (any_goals (first | assumption | wp_step))
  exact bwd_code (wpAny_pure h)
theorem bga_call {tk : Tok} {R : Result → Shared → Prop} (h : R (.ok (.ret (.ref s.heap.objs.size))) { s with heap := s.heap.push (mwObj "bytes.__getitem__" (.bytes b t)) }) :
    codeAny (M w) A (.call (.builtin "bytes.__getattribute__") ⟨[.bytes b t, .str "__getitem__" tk], []⟩) R s :=
  codeAny_call_builtin slot_b_ga.plain entry_b_ga (slot_b_ga.check _ _ _ _ _ _ _ _ (typeIs_bytes s b t) (args_b_ga _ _) (bga_code h))
theorem attr_b {ex : Bool} {Q : Value → Shared → Prop} (h : Q (.ref s.heap.objs.size) { s with heap := s.heap.push (mwObj "bytes.__getitem__" (.bytes b t)), toks := s.toks + 1 }) :
    wpAny (M w) A (getAttr (.bytes b t) "__getitem__" ex) Q E s := by
  have hT : ∀ s' : Shared, s'.TypeIs (.bytes b t) "bytes" := fun s' => typeIs_bytes s' b t
  have f1 := noga_b
  have f2 := slot_b_ga.lookup
  have f3 := slot_b_ga.bind (.bytes b t)
  unfold getAttr getAttrBy
  repeat (any_goals (first | assumption | exact hT _ | wp_step))
  rw [if_neg (by simp [onTheHeap])]
  unfold boundAndCalled
  repeat (any_goals (first | assumption | exact hT _ | wp_step))
  refine bga_call (s := ⟨s.heap, s.gens, s.drawn, s.toks + 1, s.os⟩) ?_
  repeat (any_goals (first | assumption | exact hT _ | wp_step))
end

/-! `lookup.__getitem__` -/
theorem slot_md_get : Slot "method_descriptor" "__get__" "method_descriptor.__get__" :=
  .of (owner := "method_descriptor") (n := "__get__") (by rw [typeLookup_type, builtinLookup_eq_fast]; kernel_rfl) (by decide +kernel) (by decide +kernel) (by decide +kernel)
    (by first | exact .inl (by decide +kernel) | exact .inr (by decide +kernel)) (by rw [isSubtype_type]; kernel_rfl)
theorem entry_md_get : entryFor table "method_descriptor.__get__" = some Builtin.«method_descriptor.__get__» := by first | exact entryFor_of_fast (by kernel_rfl) | exact entryFor_of_tree (by kernel_rfl)
theorem args_md_get (a b c : Value) : argsOk "method_descriptor.__get__" ⟨[a, b, c], []⟩ := by unfold argsOk; kernel_rfl
theorem no_md_set : typeLookup (.type "method_descriptor") "__set__" = pure none := by rw [typeLookup_type, builtinLookup_eq_fast]; kernel_rfl
theorem no_md_del : typeLookup (.type "method_descriptor") "__delete__" = pure none := by rw [typeLookup_type, builtinLookup_eq_fast]; kernel_rfl
theorem lk_d : typeLookup (.type "dict") "__getitem__" = pure (some (.builtin "dict.__getitem__")) := by rw [typeLookup_type, builtinLookup_eq_fast]; kernel_rfl
theorem tid_d : typeOf (.builtin "dict.__getitem__") = pure (.type "method_descriptor") := by kernel_rfl
theorem own_d : isSubtype (.type "dict") (.type (".".intercalate ("dict.__getitem__".cutAt '.').dropLast)) = pure true := by rw [isSubtype_type]; kernel_rfl

section
variable {w : World} {A : Around} {E : Value → Shared → Prop} {s : Shared} {a : Addr} {es : Array DictEntry} {n : Nat} {sl : Array (Option Value)}
theorem dmd_code {R : Result → Shared → Prop} (ho : s.heap.get? a = some { cls := .type "dict", dict := none, data := .dict es n, slots := sl }) (h : R (.ok (.ret (.ref s.heap.objs.size))) { s with heap := s.heap.push (bwObj "dict.__getitem__" (.ref a)) }) :
    codeAny (M w) A (.call (.builtin "method_descriptor.__get__") ⟨[.builtin "dict.__getitem__", .ref a, .type "dict"], []⟩) R s := by
  have hT : s.TypeIs (.ref a) "dict" := ⟨_, ho, rfl⟩
  have hT5 : s.TypeIs (.builtin "dict.__getitem__") "method_descriptor" := tid_d
  refine codeAny_call_builtin slot_md_get.plain entry_md_get (slot_md_get.check _ _ _ _ _ _ _ _ hT5 (args_md_get _ _ _) ?_)
  have f1 := own_d
  repeat (any_goals (first | assumption | wp_step))
theorem dga_code {tk : Tok} {Q : PySem.Fin → Shared → Prop} (ho : s.heap.get? a = some { cls := .type "dict", dict := none, data := .dict es n, slots := sl }) (h : Q (.done (.ret (.ref s.heap.objs.size))) { s with heap := s.heap.push (bwObj "dict.__getitem__" (.ref a)) }) :
    wpAny (M w) A (Builtin.«object.__getattribute__» ⟨[.ref a, .str "__getitem__" tk], []⟩) Q E s := by
  have hT : s.TypeIs (.ref a) "dict" := ⟨_, ho, rfl⟩
  have hT5 : s.TypeIs (.builtin "dict.__getitem__") "method_descriptor" := tid_d
  have f4 := lk_d
  have f5 := tid_d
  have f6 := slot_md_get.lookup
  have f7 := no_md_set
  have f8 := no_md_del
  repeat (any_goals (first | assumption | wp_step))
  exact dmd_code ho (wpAny_pure h)
theorem attr_d {ex : Bool} {Q : Value → Shared → Prop} (ho : s.heap.get? a = some { cls := .type "dict", dict := none, data := .dict es n, slots := sl }) (h : Q (.ref s.heap.objs.size) { s with heap := s.heap.push (bwObj "dict.__getitem__" (.ref a)), toks := s.toks + 1 }) :
    wpAny (M w) A (getAttr (.ref a) "__getitem__" ex) Q E s := by
  have hT : s.TypeIs (.ref a) "dict" := ⟨_, ho, rfl⟩
  have f1 := am_dict_getattr_none
  have f2 := F.slot_dict_getattribute.lookup
  have f3 := F.slot_dict_getattribute.bind (.ref a)
  unfold getAttr getAttrBy
  repeat (any_goals (first | assumption | wp_step))
  rw [if_neg (by simp [onTheHeap])]
  unfold boundAndCalled
  repeat (any_goals (first | assumption | wp_step))
  refine codeAny_call_builtin F.slot_dict_getattribute.plain am_entry_dict_getattribute (F.slot_dict_getattribute.check _ _ _ _ _ _ _ _ (show Shared.TypeIs ⟨s.heap, s.gens, s.drawn, s.toks + 1, s.os⟩ (.ref a) "dict" from ⟨_, ho, rfl⟩) (F.args_dict_getattribute_2 _ _) (dga_code (s := ⟨s.heap, s.gens, s.drawn, s.toks + 1, s.os⟩) ho ?_))
  repeat (any_goals (first | assumption | wp_step))
end
end
/-! F43 -/
section
open Builtin Builtin.ObjectAttr
section
variable {w : World} {A : Around} {E : Value → Shared → Prop} {s : Shared} {K : Frag} {x C dx f : Addr} {ox : Obj} {es : List DictEntry} {n : Nat} {name : Str} {v : Value}
theorem set_own_dict {Q : Unit → Shared → Prop} (X : K.In s.heap) (I : InstAt s.heap x ox C (some (dictOf es n))) (hd : ox.dict = some dx) (hdx : s.heap.get? dx = some (dictOf es n))
    (hs : findIn K (.ref C) "__setattr__" = some (some (.builtin "object.__setattr__"))) (hp : plainOver K C = true) (ht : takerIn K C name = some none) (hh : hasDictIn K C = true) (hl : getL name es = some none) (hz : es.length + 1 ≤ 1000)
    (h : ∀ h' hash tok, h'.get? dx = some (dictOf (es ++ [⟨hash, .str name tok, v⟩]) (n + 1)) → Heap.SameBut dx s.heap h' → Q () { s with heap := h', toks := s.toks + 2 }) :
    wpAny (M w) A (setAttr (.ref x) name v) Q E s := by
  obtain ⟨hp', g, d, tk, os⟩ := s
  dsimp only at hdx X I h
  refine set_plain X I hs (osa_open (s := ⟨hp', g, d, tk + 1, os⟩) X I hp ht fun b => ?_)
  obtain ⟨cd, hc, hd'⟩ := any_some hh
  obtain ⟨hx, hcl, hn, -⟩ := I
  obtain ⟨oc, odi, oda, osl⟩ := ox
  dsimp only at hcl hd
  subst hcl hd
  have hno : es.find? (·.key.isStr name) = none ∧ es.any (·.refKey) = false := by
    unfold getL at hl
    split at hl
    · cases hl
    · rename_i q
      split at hl
      · cases hl
      · rename_i z; exact ⟨q, by simpa using z⟩
  have hput : Obj.putName name (PyData.keyHash w.params name) (.str name (tk + 1)) v (dictOf es n) = dictOf (es ++ [⟨PyData.keyHash w.params name, .str name (tk + 1), v⟩]) (n + 1) := by
    rw [Obj.putName_eq]
    unfold Obj.putNameByArray dictOf
    have : (es.toArray.findIdx? fun e => e.key.isStr name) = none := by
      rw [List.findIdx?_toArray, List.findIdx?_eq_none_iff]
      intro e he
      have := List.find?_eq_none.mp hno.1 e he
      simpa using this
    simp only [this]
    simp
  have D' : (hp'.update dx (Obj.putName name (PyData.keyHash w.params name) (.str name (tk + 1)) v)).get? dx = some (dictOf (es ++ [⟨PyData.keyHash w.params name, .str name (tk + 1), v⟩]) (n + 1)) := by
    rw [← hput]
    exact Heap.get?_update_self _ hdx (by rw [hput]; rfl)
  refine wpAny_bind (wpAny_pure (wpAny_bind (wpAny_bind (wpAny_loadPart hx (wpAny_bind ((looks_clsIn X hc).at ?_))))))
  rw [hd']
  refine wpAny_pure (a := some dx) (wpAny_bind (wpAny_pure (wpAny_bind ?_)))
  unfold nsSet
  refine wpAny_bind (wpAny_bind (wpAny_askSetting (wpAny_pure (wpAny_bind (wpAny_mkText (wpAny_bind (wpAny_loadPart hdx ?_)))))))
  have c : (!es.toArray.any (·.key.isStr name) && es.toArray.any (·.refKey)) = false := by
    rw [← Array.any_toList, ← Array.any_toList]
    rw [hno.2, Bool.and_false]
  unfold dictOf
  dsimp only
  rw [aRefKeyMayBeTheName_at, c]
  refine wpAny_updatePart hdx ?_
  refine wpAny_bind (wpAny_lookBehind D' (pastItsLine_dict (by rw [List.size_toArray, sizeLine_eq]; simp; omega)) ?_)
  exact wpAny_pure (h _ _ _ D' (Heap.SameBut.update ..))

/-- a method of the class, bound -/
theorem get_own_meth {ex : Bool} {Q : Value → Shared → Prop} (X : K.In s.heap) (I : InstAt s.heap x ox C (some (dictOf es n))) (hga : findIn K (.ref C) "__getattribute__" = some (some (.builtin "object.__getattribute__"))) (hk : findIn K (.ref C) "__getattr__" = some none)
    (hh : hasDictIn K C = true) (ha : findIn K (.ref C) name = some (some (.ref f))) (hf : typeIn K (.ref f) = some (.type "function"))
    (hgf : specialIn K (.ref f) "__get__" = some (some (.builtin "function.__get__"))) (ht : takesIn K (.ref f) = some false) (hc : copiedNames.contains name = false) (hl : getL name es = some none)
    (h : Q (.ref s.heap.objs.size) { s with heap := s.heap.push (methodObj (.ref f) (.ref x)), toks := s.toks + 1 }) : wpAny (M w) A (getAttr (.ref x) name ex) Q E s :=
  get_bind X I hga (findObj_fn hh ha hgf ht hc (by show lookIn name (dictOf es n) = _; rw [lookIn_dict, hl])) hk
    (wpAny_call (fn_get (s := { s with toks := s.toks + 1 }) X hf (handed_on rfl h)))
end

/-- what the class of the engines answers while one is made -/
structure MkOk (K : Frag) : Prop where
  low : ∀ b o, K.lookup b = some o → b ≠ 52 ∧ b ≠ T
  mks : makesIn K 259 = true
  ini : findIn K (.ref 259) "__init__" = some (some (.ref 57))
  inf : typeIn K (.ref 57) = some (.type "function")
  st : findIn K (.ref 259) "__setattr__" = some (some (.builtin "object.__setattr__"))
  pl : plainOver K 259 = true
  hd : hasDictIn K 259 = true
  ga : findIn K (.ref 259) "__getattribute__" = some (some (.builtin "object.__getattribute__"))
  gt : findIn K (.ref 259) "__getattr__" = some none
  t1 : takerIn K 259 "bytemap" = some none
  t2 : takerIn K 259 "_encode64" = some none
  t3 : takerIn K 259 "_decode64" = some none
  t4 : takerIn K 259 "big" = some none
  t5 : takerIn K 259 "_encode_bytes" = some none
  t6 : takerIn K 259 "_decode_bytes" = some none
  m1 : findIn K (.ref 259) "_encode_bytes_little" = some (some (.ref 79)) ∧ typeIn K (.ref 79) = some (.type "function") ∧ specialIn K (.ref 79) "__get__" = some (some (.builtin "function.__get__")) ∧ takesIn K (.ref 79) = some false
  m2 : findIn K (.ref 259) "_encode_bytes_big" = some (some (.ref 86)) ∧ typeIn K (.ref 86) = some (.type "function") ∧ specialIn K (.ref 86) "__get__" = some (some (.builtin "function.__get__")) ∧ takesIn K (.ref 86) = some false
  m3 : findIn K (.ref 259) "_decode_bytes_little" = some (some (.ref 100)) ∧ typeIn K (.ref 100) = some (.type "function") ∧ specialIn K (.ref 100) "__get__" = some (some (.builtin "function.__get__")) ∧ takesIn K (.ref 100) = some false
  m4 : findIn K (.ref 259) "_decode_bytes_big" = some (some (.ref 107)) ∧ typeIn K (.ref 107) = some (.type "function") ∧ specialIn K (.ref 107) "__get__" = some (some (.builtin "function.__get__")) ∧ takesIn K (.ref 107) = some false
end
/-! F44 -/
def litInit : { st : Stmt // methAt 6 = st } := ⟨_, by
  delta methAt stmtAt prog PySem.Challenge.pw_aj5032_01
  dsimp only [List.getElem?_cons_succ, List.getElem?_cons_zero, Option.getD_some, clsBody]⟩
abbrev stInit : Stmt := litInit.1
def bodInit : { b : List Stmt // fnBody stInit = b } := ⟨_, by delta stInit litInit; dsimp only [fnBody]⟩

def fdD (st : Stmt) (qual : Str) (pm code : Value) (dv : Addr) : FuncData := { fd st qual pm code with defaults := .ref dv }
def fnObjD (st : Stmt) (qual : Str) (pm code : Value) (dv : Addr) : Obj := { cls := .type "function", dict := none, data := .func (fdD st qual pm code dv), slots := #[] }
def oneObj (v : Value) : Obj := { cls := .type "tuple", data := .seq #[v] }

section
variable {w : World} {A : Around} {R : Result → Shared → Prop} {s : Shared} {mg mb : Str → Option Value}
theorem enterD {f dv : Addr} {st : Stmt} {qual : Str} {pm code : Value} {args : Args} {binds : List (Str × Value)} {body : List Stmt}
    (hroom : A.depth < recursionLimit) (G : Gl mg mb s.heap) (hob : s.heap.get? f = some (fnObjD st qual pm code dv)) (hcr : s.heap.CodeRec code qual) (hbody : fnBody st = body) (hbind : BindsTo s (fdD st qual pm code dv) args binds)
    (hcell : ((fnScope st).names.all fun x => decide (x.2 ≠ .cell)) = true) (hloc : (binds.all fun x => decide ((fnScope st).names.lookup x.1 = some .local)) = true)
    (h : ∀ h₁ L tk A', A' = A.deeper (callEnv (fd st qual pm code) L f) → A'.depth = A.depth + 1 → A'.handled = A.handled → BdH s L (fun x => binds.reverse.lookup x) h₁ s.gens s.drawn s.os → L = s.heap.objs.size → (∀ b o, s.heap.get? b = some o → h₁.get? b = some o) →
      wpAny (M w) A' (execs body (callEnv (fd st qual pm code) L f)) (fun f s' => R (.ok (.ret (flowV f))) s')
        (fun e s' => wpAny (M w) A' (leaving (callEnv (fd st qual pm code) L f) e) (fun _ s'' => R (.error e) s'') (fun e' s'' => R (.error e') s'') s')
        ⟨h₁, s.gens, s.drawn, tk, s.os⟩)
    (hco : (fnScope st).isCoroutine = false := by rfl) (hgen : (fnScope st).isGenerator = false := by rfl) (hk : (fnScope st).kind = .function := by rfl) :
    codeAny (M w) A (.call (.ref f) args) R s := by
  refine codeAny_call_function (fd := fdD st qual pm code dv) hroom hob rfl hco hgen rfl hcr ?_
  refine hbind _ _ _ _ (wpAny_newFunctionEnv (fun x hx => of_decide_eq_true (List.all_eq_true.mp hcell x hx)) (fun x hx => of_decide_eq_true (List.all_eq_true.mp hloc x hx)) (fun h₁ n sb => ?_) hk)
  have kp : ∀ b o, s.heap.get? b = some o → h₁.get? b = some o := fun b o e => sb.extBut b o (Nat.ne_of_lt (Heap.lt_size e)) (Heap.get?_push_of_some _ e)
  refine ⟨let ⟨mc, a, b⟩ := G.lim; ⟨mc, ns_keep a fun o e => kp _ o e, b⟩, codeAny_func ?_⟩
  rw [show fnBody st = body from hbody]
  refine wpAny_mono (h h₁ s.heap.objs.size _ _ rfl (depth_deeper ..) rfl ⟨AdvH.ext kp, n, (fresh_of (AdvH.ext fun _ _ e => e) G.top).2, (fresh_of (s := s) (AdvH.ext fun _ _ e => e) G.top).1, G.top⟩ rfl kp) (fun fl s' q => ?_) fun _ _ q => q
  cases fl <;> exact q
end

/-- the arguments of an engine's making -/
def kwOf (big : Bool) : List (Str × Value) := if big then [("big", .bool true)] else []
theorem init_binds {s : Shared} {pm code : Value} {x : Addr} {cs : Str} {t : Tok} {big : Bool} (hd : s.heap.get? 50 = some (oneObj (.bool false))) :
    BindsTo s (fdD stInit "Base64Engine.__init__" pm code 50) ⟨[.ref x, .str cs t], kwOf big⟩ [("self", .ref x), ("charmap", .str cs t), ("big", .bool big)] := by
  refine kp_binds (K := [(50, oneObj (.bool false))]) (Frag.in_of (as := [50]) rfl (by simp [hd])) fun S => ?_
  cases big <;> kernel_rfl

/-- the names that `__init__` reads -/
structure NmI (mg : Str → Option Value) : Prop where
  isi : mg "isinstance" = none
  uni : mg "unicode" = some (.type "str")
  len : mg "len" = none
  set : mg "set" = none
  dict : mg "dict" = none
  enum : mg "enumerate" = none
theorem b_set : bootBuiltins "set" = some (.type "set") := by kernel_rfl
theorem b_dict : bootBuiltins "dict" = some (.type "dict") := by kernel_rfl
theorem b_enum : bootBuiltins "enumerate" = some (.type "enumerate") := by kernel_rfl
/-! F45 -/
abbrev TabM (h : Heap) (ps : Array Value) : Prop := h.IsCode 56 52 ps ∧ h.TableAt 56 52 ps
theorem TabM.at' {h h' : Heap} {ps : Array Value} (x : TabM h ps) (k : ∀ b o, b = 56 ∨ b = 52 → h.get? b = some o → h'.get? b = some o) : TabM h' ps :=
  let ⟨⟨o, vs, file, tf, flags, tg, inF, text, tt, op, a, r1, r2, r3, r4, r5, r6, b, r⟩, ⟨o2, vs2, a2, r7⟩, t⟩ := x
  ⟨⟨o, vs, file, tf, flags, tg, inF, text, tt, op, k _ _ (.inl rfl) a, r1, r2, r3, r4, r5, r6, k _ _ (.inr rfl) b, r⟩, ⟨o2, vs2, k _ _ (.inl rfl) a2, r7⟩, k _ _ (.inr rfl) t⟩

theorem genexprCodeM {w : World} {A : Around} {E : Value → Shared → Prop} {s : Shared} {env : Env} {ps : Array Value} {pos : Pos} {qualname : Str} {scope : Scope} {Q : Value → Shared → Prop} (hc : env.code = .ref 56) (hok : TabM s.heap ps)
    (hQ : ∀ code h' tk ps', Heap.ExtBut 52 s.heap h' → TabM h' ps' → Q code { s with heap := h', toks := tk }) : wpAny (M w) A (genexprCode env pos qualname scope) Q E s := by
  cases hf : codeAmong pos ps.toList with
  | some c' => exact wpAny_genexprCode_hit hc hok.1 hf (hQ c' s.heap s.toks ps (Heap.ExtBut.refl _ _) hok)
  | none => exact wpAny_genexprCodeX hc hok.1 hok.2 hf fun c' h' tk ext _ _ i _ t _ => hQ _ h' tk _ ext ⟨i, t⟩
theorem Gl.hide52 {mg mb : Str → Option Value} {h : Heap} (G : Gl mg mb h) : Gl mg mb (h.hide 52) :=
  have k : ∀ b o, b ≠ 52 → h.get? b = some o → (h.hide 52).get? b = some o := fun b o hb e => (Heap.hide_ne _ hb).trans e
  ⟨let ⟨o, e⟩ := G.top; ⟨o, k _ o (by decide) e⟩, ns_keep G.g fun o e => k _ o (by decide) e, ns_keep G.b fun o e => k _ o (by decide) e, G.bi, let ⟨mc, a, b⟩ := G.lim; ⟨mc, ns_keep a fun o e => k _ o (by decide) e, b⟩⟩

/-- amid the making of an engine at x, its dict at dx -/
structure IB (s : Shared) (L : Addr) (m : Str → Option Value) (dx : Addr) (es : List DictEntry) (n : Nat) (objs : List (Addr × Obj)) (h : Heap) (g : Array GenState) (d : Drawn) (o : OsState) : Prop where
  B : BdH s L m h g d o
  od : h.get? dx = some (dictOf es n)
  objs : ∀ p ∈ objs, h.get? p.1 = some p.2 ∧ p.1 ≠ L ∧ p.1 ≠ dx ∧ 262 ≤ p.1
  sdx : s.heap.get? dx = none
  dL : dx ≠ L
  di : 262 ≤ dx
  tt : ∀ o, s.heap.get? T = some o → h.get? T = some o

section
variable {s : Shared} {L : Addr} {m m' : Str → Option Value} {dx : Addr} {es es' : List DictEntry} {n n' : Nat} {objs : List (Addr × Obj)} {h h' : Heap} {g g' : Array GenState} {d d' : Drawn} {o o' : OsState}
theorem IB.ext (x : IB s L m dx es n objs h g d o) (k : ∀ b o, h.get? b = some o → h'.get? b = some o) : IB s L m dx es n objs h' g d o :=
  ⟨x.B.step (AdvH.ext k), k _ _ x.od, fun p hp => ⟨k _ _ (x.objs p hp).1, (x.objs p hp).2⟩, x.sdx, x.dL, x.di, fun o e => k _ _ (x.tt o e)⟩
theorem IB.st (x : IB s L m dx es n objs h g d o) (B : BdH s L m' h' g d o) (sb : Heap.SameBut L h h') : IB s L m' dx es n objs h' g d o :=
  ⟨B, (sb.2 _ x.dL).trans x.od, fun p hp => ⟨(sb.2 _ (x.objs p hp).2.1).trans (x.objs p hp).1, (x.objs p hp).2⟩, x.sdx, x.dL, x.di, fun o e => (sb.2 _ (fun z => by have := x.B.hi; rw [← z] at this; exact absurd this (by decide))).trans (x.tt o e)⟩
theorem IB.set (x : IB s L m dx es n objs h g d o) (e : h'.get? dx = some (dictOf es' n')) (sb : Heap.SameBut dx h h') : IB s L m dx es' n' objs h' g d o :=
  ⟨x.B.mut sb x.sdx x.dL x.di, e, fun p hp => ⟨(sb.2 _ (x.objs p hp).2.2.1).trans (x.objs p hp).1, (x.objs p hp).2⟩, x.sdx, x.dL, x.di, fun o e => (sb.2 _ (fun z => by have := x.di; rw [← z] at this; exact absurd this (by decide))).trans (x.tt o e)⟩
theorem IB.push (x : IB s L m dx es n objs h g d o) (ob : Obj) (hf : ob.isFreed = false := by rfl) : IB s L m dx es n ((h.objs.size, ob) :: objs) (h.push ob) g d o :=
  let y := x.ext (h' := h.push ob) fun _ _ e => Heap.get?_push_of_some _ e
  ⟨y.B, y.od, fun p hp => by
    rcases List.mem_cons.mp hp with rfl | hp
    · exact ⟨Heap.get?_push_size _ hf, Nat.ne_of_gt x.B.new, Nat.ne_of_gt (Heap.lt_size x.od), x.B.big⟩
    · exact y.objs p hp, x.sdx, x.dL, x.di, y.tt⟩
theorem IB.more (x : IB s L m dx es n objs h g d o) {a : Addr} {ob : Obj} (e : h.get? a = some ob) (aL : a ≠ L) (ad : a ≠ dx) (ai : 262 ≤ a) : IB s L m dx es n ((a, ob) :: objs) h g d o :=
  ⟨x.B, x.od, fun p hp => by
    rcases List.mem_cons.mp hp with rfl | hp
    · exact ⟨e, aL, ad, ai⟩
    · exact x.objs p hp, x.sdx, x.dL, x.di, x.tt⟩
theorem IB.mv (x : IB s L m dx es n objs h g d o) {wr : List Addr} (kp : Kp wr h h') (hw : ∀ q ∈ wr, s.heap.get? q = none ∧ 262 ≤ q ∧ q ≠ L) (hd : dx ∉ wr) (ho : ∀ p ∈ objs, p.1 ∉ wr) (B : BdH s L m h' g' d o) : IB s L m dx es n objs h' g' d o :=
  ⟨B, kp _ _ hd x.od, fun p hp => ⟨kp _ _ (ho p hp) (x.objs p hp).1, (x.objs p hp).2⟩, x.sdx, x.dL, x.di, fun o e => kp _ _ (fun q => absurd (hw _ q).2.1 (by decide)) (x.tt o e)⟩
end

theorem set_ib {w : World} {A : Around} {E : Value → Shared → Prop} {s : Shared} {L : Addr} {m : Str → Option Value} {x dx : Addr} {es : List DictEntry} {n : Nat} {objs : List (Addr × Obj)} {h : Heap} {g : Array GenState} {d : Drawn} {o : OsState} {tk : Nat} {K : Frag} {name : Str} {v : Value} {Q : Unit → Shared → Prop}
    (C : MkOk K) (X : K.In s.heap) (D : IB s L m dx es n objs h g d o) (hx : (x, instObj dx) ∈ objs) (ht : takerIn K 259 name = some none) (hl : getL name es = some none) (hz : es.length + 1 ≤ 1000)
    (k : ∀ h' tk' hash tok, IB s L m dx (es ++ [⟨hash, .str name tok, v⟩]) (n + 1) objs h' g d o → Q () ⟨h', g, d, tk', o⟩) : wpAny (M w) A (setAttr (.ref x) name v) Q E ⟨h, g, d, tk, o⟩ := by
  refine set_own_dict (s := ⟨h, g, d, tk, o⟩) (ox := instObj dx) (C := 259) (fun b x e => D.B.adv.keep b x (C.low b x e).2 (X b x e)) ⟨(D.objs _ hx).1, rfl, rfl, D.od⟩ rfl D.od C.st C.pl ht C.hd hl hz fun h' hash tok e sb => ?_
  exact k _ _ _ _ (D.set e sb)

set_option maxHeartbeats 8000000 in
theorem init_ok {w : World} {A : Around} {R : Result → Shared → Prop} {s s₁ : Shared} {K : Frag} {mg mb : Str → Option Value} {cs : Str} {t : Tok} {cb : Array UInt8} {big : Bool} {pm : Value} {ps : Array Value}
    (hh : A.handled = none) (hroom : A.depth + 3 < recursionLimit) (G : Gl mg mb s.heap) (N : NmI mg) (C : MkOk K) (X : K.In s.heap) (hbm : BmOk mg (s.heap.hide 52)) (tm : TabM s.heap ps)
    (hob : s.heap.get? 57 = some (fnObjD stInit "Base64Engine.__init__" pm (.ref 56) 50)) (hcr : s.heap.CodeRec (.ref 56) "Base64Engine.__init__") (hd50 : s.heap.get? 50 = some (oneObj (.bool false)))
    (chr : Chr cs cb) (hs₁ : s₁ = { s with heap := (s.heap.push { cls := .type "dict", data := .dict #[] }).push (instObj s.heap.objs.size) })
    (hR : ∀ s' ps', AdvH (s.heap.hide 52) s.gens s.drawn s.os s'.heap s'.gens s'.drawn s'.os → EngE w s'.heap (s.heap.objs.size + 1) → TabM s'.heap ps' → (∀ o, s.heap.get? T = some o → s'.heap.get? T = some o) → R (.ok (.ret .none)) s') :
    codeAny (M w) A (.call (.ref 57) ⟨[.ref (s.heap.objs.size + 1), .str cs t], kwOf big⟩) R s₁ := by
  have k₁ : ∀ b o, s.heap.get? b = some o → s₁.heap.get? b = some o := fun b o e => by subst hs₁; exact Heap.get?_push_of_some _ (Heap.get?_push_of_some _ e)
  have hcr₁ : s₁.heap.CodeRec (.ref 56) "Base64Engine.__init__" := let ⟨c, o, vs, t, e, a, b, d⟩ := hcr; ⟨c, o, vs, t, e, k₁ _ _ a, b, d⟩
  have G₁ : Gl mg mb s₁.heap := G.keeps fun b o _ e => k₁ b o e
  have e₁ : s₁.gens = s.gens ∧ s₁.drawn = s.drawn ∧ s₁.os = s.os := by subst hs₁; exact ⟨rfl, rfl, rfl⟩
  have hz₁ : s₁.heap.objs.size = s.heap.objs.size + 2 := by subst hs₁; rw [Heap.size_push, Heap.size_push]
  have ox₁ : s₁.heap.get? (s.heap.objs.size + 1) = some (instObj s.heap.objs.size) := by
    subst hs₁
    have := Heap.get?_push_size (s.heap.push { cls := .type "dict", data := .dict #[] }) (o := instObj s.heap.objs.size) rfl
    rwa [Heap.size_push] at this
  have od₁ : s₁.heap.get? s.heap.objs.size = some (dictOf [] 0) := by
    subst hs₁
    exact Heap.get?_push_of_some _ (Heap.get?_push_size s.heap (o := { cls := .type "dict", data := .dict #[] }) rfl)
  have big₀ : 262 ≤ s.heap.objs.size := let ⟨o, e⟩ := G.top; Heap.lt_size e
  refine enterD (by omega) G₁ (k₁ _ _ hob) hcr₁ bodInit.2 (init_binds (k₁ _ _ hd50)) (by decide) rfl (fun h₁ L tk A' eA dA hA B eL kp₁ => ?_)
  rw [e₁.1, e₁.2.1, e₁.2.2] at B ⊢
  have noS : ∀ q, s.heap.objs.size ≤ q → s.heap.get? q = none := fun q hq => by
    cases z : s.heap.get? q with
    | none => rfl
    | some o => exact absurd (Heap.lt_size z) (Nat.not_lt.mpr hq)
  have a₁ : AdvH s.heap s.gens s.drawn s.os s₁.heap s₁.gens s₁.drawn s₁.os := by rw [e₁.1, e₁.2.1, e₁.2.2]; exact AdvH.ext k₁
  have eL2 : L = s.heap.objs.size + 2 := eL.trans hz₁
  have nL : s.heap.objs.size ≤ L := by rw [eL2]; exact Nat.le_add_right ..
  have n0 : s.heap.objs.size ≠ L := by rw [eL2]; exact Nat.ne_of_lt (Nat.lt_add_of_pos_right (by decide))
  have n1 : s.heap.objs.size + 1 ≠ L := by rw [eL2]; exact Nat.ne_of_lt (Nat.lt_succ_self _)
  have D : IB s L (fun y => ([(("self" : Str), Value.ref (s.heap.objs.size + 1)), ("charmap", .str cs t), ("big", .bool big)] : List (Str × Value)).reverse.lookup y) s.heap.objs.size [] 0 [(s.heap.objs.size + 1, instObj s.heap.objs.size)] h₁ s.gens s.drawn s.os := by
    refine ⟨⟨a₁.trans B.adv, B.ns, noS L nL, Nat.le_trans big₀ nL, G.top⟩, B.adv.keep _ _ (ne_T big₀) od₁, fun p hp => ?_, noS _ (Nat.le_refl _), n0, big₀, fun o e => kp₁ _ _ (k₁ _ _ e)⟩
    rcases List.mem_cons.mp hp with rfl | hp
    · exact ⟨B.adv.keep _ _ (ne_T (Nat.le_succ_of_le big₀)) ox₁, n1, Nat.succ_ne_self _, Nat.le_succ_of_le big₀⟩
    · cases hp
  clear od₁ ox₁ hcr₁ G₁
  generalize hxe : s.heap.objs.size + 1 = x at *
  generalize hdxe : s.heap.objs.size = dx at *
  delta bodInit
  dsimp only
  walk_at "as"
  with_reducible refine rdB (G.adv D.B.adv) N.isi b_isi ?_
  walk_at "as"
  with_reducible refine rdL D.B (by walk_at "lk") ?_
  walk_at "as"
  with_reducible refine rdG (G.adv D.B.adv) N.uni ?_
  walk_at "as"
  dsimp only [List.nil_append]
  refine call_isinstance_yes (Tx := "str") (T := "str") rfl (by kernel_rfl) (by rw [isSubtype_type]; kernel_rfl) ?_
  walk_at "as"
  rw [if_pos rfl]
  walk_at "as"
  with_reducible refine rdL D.B (by walk_at "lk") ?_
  refine get_encode ?_
  walk_at "as"
  dsimp only [List.nil_append, List.cons_append]
  refine encode_ok chr ?_
  dsimp only
  with_reducible refine stL D.B fun h₂ tk₂ B₂ sb₂ => ?_
  replace D := D.st B₂ sb₂
  clear B₂ sb₂
  have cz : cb.size = 64 := chr.cm.size
  generalize tk + 1 = ct at D
  generalize hm2 : upd _ "charmap" (Value.bytes cb ct) = m₂ at D
  have q1 : m₂ "self" = some (.ref x) := by subst hm2; walk_at "lk"
  have q2 : m₂ "charmap" = some (.bytes cb ct) := by subst hm2; walk_at "lk"
  have q3 : m₂ "big" = some (.bool big) := by subst hm2; walk_at "lk"
  clear hm2
  walk_at "as"
  with_reducible refine rdB (G.adv D.B.adv) N.len b_len ?_
  walk_at "as"
  with_reducible refine rdL D.B q2 ?_
  walk_at "as"
  dsimp only [List.nil_append]
  refine len_bytes (by rw [cz]; decide) ?_
  walk_at "as"
  refine PyProof.Rows.ne_int ?_
  walk_at "as"
  rw [if_neg (by rw [cz]; decide)]
  walk_at "as"
  with_reducible refine rdB (G.adv D.B.adv) N.len b_len ?_
  walk_at "as"
  with_reducible refine rdB (G.adv D.B.adv) N.set b_set ?_
  walk_at "as"
  with_reducible refine rdL D.B q2 ?_
  walk_at "as"
  dsimp only [List.nil_append]
  refine set_bytes (hA.trans hh) (by rw [cz]; decide) fun h₃ tk₃ hS k₃ => ?_
  dsimp only at hS k₃
  replace D := D.ext k₃
  rw [first_all _ chr.cm.inj] at hS
  walk_at "as"
  dsimp only [List.nil_append]
  refine len_set hS (by simp; omega) ?_
  walk_at "as"
  refine PyProof.Rows.ne_int ?_
  walk_at "as"
  rw [if_neg (by simp [cz])]
  walk_at "as"
  dsimp only
  generalize tk₃ + 1 + 1 = tk₄
  have hx0 : (x, instObj dx) ∈ [(x, instObj dx)] := List.mem_cons_self ..
  -- self.bytemap = charmap
  refine plainObj_wpAny_Assign_Attribute ?_
  with_reducible refine rdL D.B q2 ?_
  with_reducible refine rdL D.B q1 ?_
  refine set_ib C X D hx0 C.t1 (by kernel_rfl) (by decide) fun h₅ tk₅ y1 u1 D₅ => ?_
  replace D := D₅
  clear D₅
  dsimp only [List.nil_append, List.cons_append] at D
  dsimp only
  walk_at "as"
  -- self._encode64 = charmap.__getitem__
  refine plainObj_wpAny_Assign_Attribute ?_
  refine Attribute_name ?_
  with_reducible refine rdL D.B q2 ?_
  refine attr_b ?_
  dsimp only
  have D₆ := D.push (mwObj "bytes.__getitem__" (.bytes cb ct))
  replace D := D₆
  clear D₆
  generalize h₅.objs.size = e64 at D
  generalize h₅.push (mwObj "bytes.__getitem__" (.bytes cb ct)) = h₆ at D
  with_reducible refine rdL D.B q1 ?_
  refine set_ib C X D (List.mem_cons_of_mem _ (List.mem_cons_self ..)) C.t2 (by kernel_rfl) (by simp) fun h₇ tk₇ y2 u2 D₇ => ?_
  replace D := D₇
  clear D₇
  dsimp only [List.nil_append, List.cons_append] at D
  try dsimp only
  walk_at "as"
  -- lookup = dict(...)
  with_reducible refine rdB (G.adv D.B.adv) N.dict b_dict ?_
  walk_at "as"
  refine wpAny_GeneratorExp_make (cl := []) rfl (by kernel_rfl) (by decide) (by kernel_rfl) rfl (by omega) ?_ (by intro _; kernel_rfl)
  walk_at "as"
  with_reducible refine rdB (G.adv D.B.adv) N.enum b_enum ?_
  walk_at "as"
  with_reducible refine rdL D.B q2 ?_
  walk_at "as"
  dsimp only [List.nil_append]
  refine enum_bytes fun h₈ en₈ bi₈ z₈ k₈ => ?_
  dsimp only at en₈ bi₈ z₈ k₈ ⊢
  refine wpAny_pyIter_enum (s := ⟨h₈, _, _, _, _⟩) en₈ ?_
  have D₈ := D.ext k₈
  have tm₈ : TabM h₈ ps := tm.at' fun b o hb e => D₈.B.adv.keep b o (by rcases hb with rfl | rfl <;> decide) e
  refine ⟨(G.adv D₈.B.adv).lim, genexprCodeM (s := ⟨h₈, _, _, _, _⟩) rfl tm₈ fun code h₉ tk₉ ps₉ ext₉ tm₉ => ?_⟩
  dsimp only at ext₉
  have no₈ : ∀ q, dx ≤ q → s.heap.get? q = none := noS
  have lt₇ : ∀ q o, h₇.get? q = some o → q < h₇.objs.size := fun q o e => Heap.lt_size e
  have I262 : 262 ≤ h₇.objs.size := D.B.big
  generalize hIe : h₇.objs.size = I at en₈ bi₈ z₈ lt₇ I262
  have dI : dx < I := by rw [← hIe]; exact Heap.lt_size D.od
  have LI : L < I := by rw [← hIe]; exact D.B.new
  have oI : ∀ p ∈ [(e64, mwObj "bytes.__getitem__" (Value.bytes cb ct)), (x, instObj dx)], p.1 < I := fun p hp => by rw [← hIe]; exact Heap.lt_size (D.objs p hp).1
  have e1I : 262 ≤ I + 1 := Nat.le_succ_of_le I262
  have k₉ : ∀ q o, q ≠ 52 → h₈.get? q = some o → h₉.get? q = some o := fun q o hq e => ext₉ q o hq e
  have g52 : ∀ q, 262 ≤ q → q ≠ 52 := fun q hq z => by rw [z] at hq; exact absurd hq (by decide)
  have en₉ : IsEnum h₉ (I + 1) I (0 : Nat) .none := k₉ _ _ (g52 _ e1I) en₈
  have bi₉ : KBw.IsBytesIter h₉ I cb ct 0 := let ⟨o, a, r⟩ := bi₈; ⟨o, k₉ _ _ (g52 _ I262) a, r⟩
  have z₉ : I + 2 ≤ h₉.objs.size := Heap.lt_size en₉
  have ns₉ : h₉.Ns L m₂ := ns_keep D₈.B.ns fun o e => k₉ _ _ (g52 _ D₈.B.hi) e
  obtain ⟨o261, e261⟩ := G.top
  have e261₉ : h₉.get? 261 = some o261 := k₉ _ _ (by decide) (D₈.B.adv.keep _ _ (by decide) e261)
  generalize hs₃ : (Shared.mk (hideAll h₉ [L, dx, I + 1, I]) s.gens s.drawn 0 s.os) = s₃
  have h₃e : s₃.heap = hideAll h₉ [L, dx, I + 1, I] := by rw [← hs₃]
  have ge₃ : s₃.gens = s.gens ∧ s₃.drawn = s.drawn ∧ s₃.os = s.os := by rw [← hs₃]; exact ⟨rfl, rfl, rfl⟩
  have in₃ : ∀ q o, q ∉ [L, dx, I + 1, I] → h₉.get? q = some o → s₃.heap.get? q = some o := fun q o hq e => by rw [h₃e]; exact hideAll_get _ e hq
  have of₃ : ∀ q o, s₃.heap.get? q = some o → h₉.get? q = some o := fun q o e => by rw [h₃e] at e; exact of_hideAll _ e
  have no₃ : ∀ q, q ∈ [L, dx, I + 1, I] → s₃.heap.get? q = none := fun q hq => by rw [h₃e]; exact hideAll_none _ hq
  have hi4 : ∀ q ∈ [L, dx, I + 1, I], dx ≤ q := fun q hq => by
    simp only [List.mem_cons, List.not_mem_nil, or_false] at hq
    rcases hq with rfl | rfl | rfl | rfl
    · exact nL
    · exact Nat.le_refl _
    · exact Nat.le_succ_of_le (Nat.le_of_lt dI)
    · exact Nat.le_of_lt dI
  have nin : ∀ q o, s.heap.get? q = some o → q ∉ [L, dx, I + 1, I] := fun q o e hq => by
    rw [noS q (hi4 q hq)] at e; cases e
  have nlow : ∀ q, q < 262 → q ∉ [L, dx, I + 1, I] := fun q hq z => absurd (Nat.lt_of_lt_of_le hq (Nat.le_trans D₈.di (hi4 q z))) (Nat.lt_irrefl _)
  have aX : AdvH (s.heap.hide 52) s.gens s.drawn s.os s₃.heap s₃.gens s₃.drawn s₃.os := by
    rw [ge₃.1, ge₃.2.1, ge₃.2.2]
    refine ⟨fun q o hq e => ?_, ⟨0, by simp⟩, rfl, rfl, fun p2 i => ?_⟩
    · have hq52 : q ≠ 52 := fun z => by rw [z, Heap.hide_self] at e; cases e
      have e' := Heap.of_hide e
      exact in₃ q o (nin q o e') (k₉ q o hq52 (D₈.B.adv.keep q o hq e'))
    · obtain ⟨ps', j⟩ := D₈.B.adv.tab p2 (TabOk.keeps i fun b o e => Heap.of_hide e)
      refine ⟨ps', ?_⟩
      have j' : TabOk (h₈.hide 52) ps' := by
        obtain ⟨⟨o, vs, file, tf, flags, tg, inF, text, tt, op, a, r1, r2, r3, r4, r5, r6, b, r⟩, ⟨o2, vs2, a2, r7⟩, t⟩ := j
        exact ⟨⟨o, vs, file, tf, flags, tg, inF, text, tt, op, (Heap.hide_ne _ (by decide)).trans a, r1, r2, r3, r4, r5, r6, (Heap.hide_ne _ (by decide)).trans b, r⟩, ⟨o2, vs2, (Heap.hide_ne _ (by decide)).trans a2, r7⟩, (Heap.hide_ne _ (by decide)).trans t⟩
      exact code_low j' fun b o hb e => in₃ b o (nlow b hb) (k₉ b o (fun z => by rw [z, Heap.hide_self] at e; cases e) (Heap.of_hide e))
  have tt₃ : ∀ o, s.heap.get? T = some o → s₃.heap.get? T = some o := fun o e => in₃ _ o (nin _ o e) (k₉ _ o (by decide) (D₈.tt o e))
  have B₉ : BdH s₃ L m₂ h₉ s.gens s.drawn s.os := ⟨⟨fun q o _ e => of₃ q o e, ⟨0, by rw [ge₃.1]; simp⟩, ge₃.2.1.symm, ge₃.2.2.symm, fun p2 i => ⟨p2, TabOk.keeps i of₃⟩⟩, ns₉, no₃ L (by simp), D₈.B.hi, ⟨o261, in₃ _ _ (nlow _ (by decide)) e261₉⟩⟩
  have D₉ : IB s₃ L m₂ dx _ _ _ h₉ s.gens s.drawn s.os := ⟨B₉, k₉ _ _ (g52 _ D₈.di) D₈.od, fun p hp => ⟨k₉ _ _ (g52 _ (D₈.objs p hp).2.2.2) (D₈.objs p hp).1, (D₈.objs p hp).2⟩, no₃ dx (by simp), D₈.dL, D₈.di, fun o e => of₃ _ _ e⟩
  have G₃ : Gl mg mb s₃.heap := G.hide52.adv aX
  have X₃ : K.In s₃.heap := fun b o e => aX.keep b o (C.low b o e).2 ((Heap.hide_ne _ (C.low b o e).1).trans (X b o e))
  have tm₃ : TabM s₃.heap ps₉ := tm₉.at' fun b o hb e => in₃ b o (nlow b (by rcases hb with rfl | rfl <;> decide)) e
  have bm₃ := (hbm.adv aX).adv B₉.adv
  obtain ⟨bm, obm, bm1, bm2, bm3, bm4, bm5, bm6, bm7⟩ := bm₃
  refine wpAny_builtinsFor (s := ⟨h₉, _, _, tk₉, _⟩) (G₃.adv B₉.adv).g bm1 bm2 bm4 bm5 bm6 bm7 fun h₁₀ n₁₀ sb₁₀ => ?_
  dsimp only at n₁₀ sb₁₀
  have k₁₀ : ∀ q o, h₉.get? q = some o → h₁₀.get? q = some o := fun q o e => sb₁₀.extBut q o (Nat.ne_of_lt (Heap.lt_size e)) (Heap.get?_push_of_some _ e)
  have z₁₀ : h₁₀.objs.size = h₉.objs.size + 1 := sb₁₀.1.trans (Heap.size_push ..)
  have oldC : s₃.heap.get? h₉.objs.size = none := B₉.fresh
  have hC262 : 262 ≤ h₉.objs.size := B₉.big
  walk_at "as"
  dsimp only [List.nil_append]
  generalize hce : genEnv _ _ _ _ _ _ = cenv
  have c1 : cenv.locals = h₉.objs.size := by rw [← hce]; rfl
  have c2 : cenv.scope.kind = .function := by rw [← hce]; rfl
  have c3 : cenv.kindOf "idx" = some .local := by rw [← hce]; kernel_rfl
  have c4 : cenv.kindOf "value" = some .local := by rw [← hce]; kernel_rfl
  have c7 : cenv.scope.isCoroutine = false := by rw [← hce]; rfl
  clear hce
  generalize hgo : ({ cls := .type "generator", data := .fields #[.int s.gens.size 0, .str "<genexpr>" _, .str _ _] } : Obj) = go
  obtain ⟨nm, qn, hgd⟩ : ∃ nm qn, go = { cls := .type "generator", data := .fields #[.int s.gens.size 0, nm, qn] } := ⟨_, _, hgo.symm⟩
  clear hgo
  subst hgd
  have hga : (h₁₀.push { cls := .type "generator", data := .fields #[.int s.gens.size 0, nm, qn] }).get? h₁₀.objs.size = some { cls := .type "generator", data := .fields #[.int s.gens.size 0, nm, qn] } := Heap.get?_push_size _ rfl
  have kN : ∀ q o, h₁₀.get? q = some o → (h₁₀.push { cls := .type "generator", data := .fields #[.int s.gens.size 0, nm, qn] }).get? q = some o := fun q o e => Heap.get?_push_of_some _ e
  have zN : (h₁₀.push { cls := .type "generator", data := .fields #[.int s.gens.size 0, nm, qn] }).objs.size = h₁₀.objs.size + 1 := Heap.size_push ..
  generalize h₁₀.push { cls := .type "generator", data := .fields #[.int s.gens.size 0, nm, qn] } = hN at hga kN zN
  have DN := D₉.ext fun q o e => kN q o (k₁₀ q o e)
  generalize hCe : h₉.objs.size = Cc at c1 n₁₀ sb₁₀ z₁₀ oldC hC262 z₉
  generalize hae : h₁₀.objs.size = ga at hga z₁₀ zN
  have LC : L < Cc := by rw [← hCe]; exact D₉.B.new
  have IC : I + 1 < Cc := z₉
  have enN : IsEnum hN (I + 1) I (0 : Nat) .none := kN _ _ (k₁₀ _ _ en₉)
  have biN : KBw.IsBytesIter hN I cb ct 0 := let ⟨o, a, r⟩ := bi₉; ⟨o, kN _ _ (k₁₀ _ _ a), r⟩
  have igN : hN.IsGen ga s.gens.size := ⟨_, nm, qn, hga, rfl, rfl, rfl⟩
  have FI : InF cenv (I + 1) I := ⟨Nat.succ_ne_self _, by rw [c1]; exact Nat.ne_of_lt IC, by rw [c1]; exact Nat.ne_of_lt (Nat.lt_trans (Nat.lt_succ_self _) IC), c2, c3, c4, c7⟩
  have ix0 : IX cenv (I + 1) I cb ct 0 hN := ⟨⟨_, by rw [c1]; exact ns_keep n₁₀ fun o e => kN _ _ e⟩, ⟨_, enN⟩, biN⟩
  have hha : A'.handled = none := hA.trans hh
  have hda : A'.depth < recursionLimit := by omega
  have lim : hN.NoLimit := (G₃.adv DN.B.adv).lim
  have cs262 : ∀ q : Addr, 262 ≤ q → cStatics ≠ q := fun q hq z => by rw [← z] at hq; exact absurd hq (by decide)
  have hcs : cStatics ∉ [cenv.locals, I + 1, I] := by
    rw [c1]
    simp only [List.mem_cons, List.not_mem_nil, or_false, not_or]
    exact ⟨cs262 _ hC262, cs262 _ e1I, cs262 _ I262⟩
  have hgaw : ga ∉ [cenv.locals, I + 1, I] := by
    rw [c1, z₁₀]
    simp only [List.mem_cons, List.not_mem_nil, or_false, not_or]
    exact ⟨Nat.succ_ne_self _, Nat.ne_of_gt (Nat.lt_succ_of_lt IC), Nat.ne_of_gt (Nat.lt_succ_of_lt (Nat.lt_trans (Nat.lt_succ_self _) IC))⟩
  have CN : Cc < hN.objs.size := by rw [zN, z₁₀]; exact Nat.lt_succ_of_lt (Nat.lt_succ_self _)
  have hlt : ∀ q ∈ [ga, cStatics, cenv.locals, I + 1, I], q < hN.objs.size := by
    intro q hq
    rw [c1] at hq
    simp only [List.mem_cons, List.not_mem_nil, or_false] at hq
    rcases hq with rfl | rfl | rfl | rfl | rfl
    · exact Heap.lt_size hga
    · exact Nat.lt_trans (Nat.lt_of_lt_of_le (by decide) hC262) CN
    · exact CN
    · exact Nat.lt_trans IC CN
    · exact Nat.lt_trans (Nat.lt_trans (Nat.lt_succ_self _) IC) CN
  refine dict_gen (s := ⟨hN, _, s.drawn, _, s.os⟩) (cenv := cenv) (e := I + 1) (I := I) (b := cb) (g₀ := s.gens) hha hda hgaw hcs hlt hga (by rw [cz]; decide) chr.cm.inj (fun A₂ hA₂ dA₂ => ⟨igN, lim, _, rfl, fun s'' al => ⟨rfl, i_start (A := A₂.in1) hA₂ FI s'' (ix0.keep al)⟩⟩) fun s' kvs hd hkv mv hg => ?_
  obtain ⟨h₁₁, g₁₁, d₁₁, tk₁₁, o₁₁⟩ := s'
  obtain ⟨kp, hd', ho'⟩ := mv
  dsimp only at hd kp hd' ho' hg
  subst hd' ho' hg
  have wr3 : ∀ q ∈ [cenv.locals, I + 1, I], s₃.heap.get? q = none ∧ 262 ≤ q ∧ q ≠ L := by
    intro q hq
    rw [c1] at hq
    simp only [List.mem_cons, List.not_mem_nil, or_false] at hq
    rcases hq with rfl | rfl | rfl
    · exact ⟨oldC, hC262, Nat.ne_of_gt LC⟩
    · exact ⟨no₃ _ (by simp), e1I, Nat.ne_of_gt (Nat.lt_succ_of_lt LI)⟩
    · exact ⟨no₃ _ (by simp), I262, Nat.ne_of_gt LI⟩
  have wrI : ∀ q ∈ [cenv.locals, I + 1, I], I ≤ q := by
    intro q hq
    rw [c1] at hq
    simp only [List.mem_cons, List.not_mem_nil, or_false] at hq
    rcases hq with rfl | rfl | rfl
    · exact Nat.le_of_lt (Nat.lt_trans (Nat.lt_succ_self _) IC)
    · exact Nat.le_succ _
    · exact Nat.le_refl _
  have D₁₁ := DN.mv (h' := h₁₁) kp wr3 (fun q => absurd (wrI _ q) (Nat.not_le.mpr dI)) (fun p hp q => absurd (wrI _ q) (Nat.not_le.mpr (oI p hp))) (DN.B.gens kp wr3 (push_rep s.gens))
  clear DN D₉ D₈ D
  have D := D₁₁
  clear D₁₁
  dsimp only
  have ddL : hN.objs.size ≠ L := Nat.ne_of_gt (Nat.lt_trans LC CN)
  have ddx : hN.objs.size ≠ dx := Nat.ne_of_gt (Nat.lt_trans (Nat.lt_trans dI (Nat.lt_trans (Nat.lt_succ_self _) IC)) CN)
  have dd262 : 262 ≤ hN.objs.size := Nat.le_trans hC262 (Nat.le_of_lt CN)
  generalize hN.objs.size = dd at hd ddL ddx dd262
  obtain ⟨dob, des, dep, hdo, hdex, hdd, hdk, hdp, hdn⟩ := hd
  replace D := D.more hdo ddL ddx dd262
  with_reducible refine stL D.B fun h₁₂ tk₁₂ B₁₂ sb₁₂ => ?_
  replace D := D.st B₁₂ sb₁₂
  clear B₁₂ sb₁₂ hdo
  generalize hm3 : upd m₂ "lookup" (Value.ref dd) = m₃ at D
  have r1 : m₃ "self" = some (.ref x) := by subst hm3; walk_at "lk"
  have r2 : m₃ "lookup" = some (.ref dd) := by subst hm3; walk_at "lk"
  have r3 : m₃ "big" = some (.bool big) := by subst hm3; walk_at "lk"
  clear hm3
  walk_at "as"
  refine plainObj_wpAny_Assign_Attribute ?_
  refine Attribute_name ?_
  with_reducible refine rdL D.B r2 ?_
  have hdo := (D.objs _ (List.mem_cons_self ..)).1
  have hdob : dob = { cls := .type "dict", dict := none, data := .dict des dep, slots := dob.slots } := by
    obtain ⟨c, dc, da, sl⟩ := dob
    obtain ⟨x1, x2, x3⟩ := hdex
    dsimp only at x1 x2 hdd
    subst x1 x2 hdd
    rfl
  dsimp only at hdo
  refine attr_d (hdob ▸ hdo) ?_
  dsimp only
  have D' := D.push (bwObj "dict.__getitem__" (.ref dd))
  replace D := D'
  clear D' hdo
  generalize h₁₂.objs.size = d64 at D
  generalize h₁₂.push (bwObj "dict.__getitem__" (.ref dd)) = h₁₃ at D
  with_reducible refine rdL D.B r1 ?_
  refine set_ib C X₃ D (List.mem_cons_of_mem _ (List.mem_cons_of_mem _ (List.mem_cons_of_mem _ (List.mem_cons_self ..)))) C.t3 (by kernel_rfl) (by simp) fun h₁₄ tk₁₄ y3 u3 D₁₄ => ?_
  replace D := D₁₄
  clear D₁₄
  dsimp only [List.nil_append, List.cons_append] at D
  try dsimp only
  walk_at "as"
  refine plainObj_wpAny_Assign_Attribute ?_
  with_reducible refine rdL D.B r3 ?_
  with_reducible refine rdL D.B r1 ?_
  refine set_ib C X₃ D (List.mem_cons_of_mem _ (List.mem_cons_of_mem _ (List.mem_cons_of_mem _ (List.mem_cons_self ..)))) C.t4 (by kernel_rfl) (by simp) fun h₁₅ tk₁₅ y4 u4 D₁₅ => ?_
  replace D := D₁₅
  clear D₁₅
  dsimp only [List.nil_append, List.cons_append] at D
  dsimp only
  walk_at "as"
  with_reducible refine rdL D.B r3 ?_
  walk_at "as"
  have fin : ∀ {h : Heap} {tk : Nat} {meb mdb : Addr} {u5 u6 : Tok} {y5 y6 : Int}, IB s₃ L m₃ dx
      [⟨y1, .str "bytemap" u1, .bytes cb ct⟩, ⟨y2, .str "_encode64" u2, .ref e64⟩, ⟨y3, .str "_decode64" u3, .ref d64⟩, ⟨y4, .str "big" u4, .bool big⟩, ⟨y5, .str "_encode_bytes" u5, .ref meb⟩, ⟨y6, .str "_decode_bytes" u6, .ref mdb⟩] (0 + 1 + 1 + 1 + 1 + 1 + 1)
      [(mdb, methodObj (.ref (if big then 107 else 100)) (.ref x)), (meb, methodObj (.ref (if big then 86 else 79)) (.ref x)), (d64, bwObj "dict.__getitem__" (.ref dd)), (dd, dob), (e64, mwObj "bytes.__getitem__" (.bytes cb ct)), (x, instObj dx)] h (s.gens.push GenState.finished) s.drawn s.os →
      R (.ok (.ret .none)) ⟨h, s.gens.push GenState.finished, s.drawn, tk, s.os⟩ := by
    intro h tk meb mdb u5 u6 y5 y6 D
    obtain ⟨f1, _, _, i1⟩ := D.objs _ (.head _)
    obtain ⟨f2, _, _, i2⟩ := D.objs _ (.tail _ (.head _))
    obtain ⟨f3, _, _, i3⟩ := D.objs _ (.tail _ (.tail _ (.head _)))
    obtain ⟨f4, _, _, i4⟩ := D.objs _ (.tail _ (.tail _ (.tail _ (.head _))))
    obtain ⟨f5, _, _, i5⟩ := D.objs _ (.tail _ (.tail _ (.tail _ (.tail _ (.head _)))))
    obtain ⟨f6, _, _, i6⟩ := D.objs _ (.tail _ (.tail _ (.tail _ (.tail _ (.tail _ (.head _))))))
    have mo : h.DictOf (intKind prog w) dd kvs := ⟨dob, des, dep, f4, hdex, hdd, hdk, hdp, hdn⟩
    refine hR _ ps₉ (aX.trans D.B.adv) ⟨⟨dx, e64, d64, dd, meb, mdb, ct, _, _, valueAt kvs⟩, cb, big, ⟨f6, D.od, by kernel_rfl, by kernel_rfl, by kernel_rfl, by kernel_rfl, by kernel_rfl, by kernel_rfl, by kernel_rfl, by kernel_rfl, f5, f3, mo.mapOf, fun j hj => ?_, f2, f1, i6, D.di, i5, i3, i4, i2, i1⟩, chr.cm⟩ (tm₃.at' fun b o hb e => D.B.adv.keep b o (by rcases hb with rfl | rfl <;> decide) e) (fun o e => D.tt o (tt₃ o e))
    obtain ⟨t', et⟩ := hkv.2 j (by rw [cz]; exact hj)
    exact ⟨t', valueAt_of_get hdn et⟩
  have X₅ : ∀ {m h g d o es n objs}, IB s₃ L m dx es n objs h g d o → K.In h := fun D b x e => D.B.adv.keep b x (C.low b x e).2 (X₃ b x e)
  have I₅ : ∀ {m h g d o es n objs}, IB s₃ L m dx es n objs h g d o → (x, instObj dx) ∈ objs → InstAt h x (instObj dx) 259 (some (dictOf es n)) := fun D hx => ⟨(D.objs _ hx).1, rfl, rfl, D.od⟩
  cases big
  · rw [if_neg (by decide)]
    walk_at "as"
    refine plainObj_wpAny_Assign_Attribute ?_
    refine Attribute_name ?_
    with_reducible refine rdL D.B r1 ?_
    refine get_own_meth (X₅ D) (I₅ D (by simp)) C.ga C.gt C.hd C.m1.1 C.m1.2.1 C.m1.2.2.1 C.m1.2.2.2 (by decide +kernel) (by kernel_rfl) ?_
    dsimp only
    have D' := D.push (methodObj (.ref 79) (.ref x))
    replace D := D'
    clear D'
    generalize h₁₅.objs.size = meb at D
    generalize h₁₅.push (methodObj (.ref 79) (.ref x)) = h₁₆ at D
    with_reducible refine rdL D.B r1 ?_
    refine set_ib C X₃ D (by simp) C.t5 (by kernel_rfl) (by simp) fun h₁₇ tk₁₇ y5 u5 D₁₇ => ?_
    replace D := D₁₇
    clear D₁₇
    dsimp only [List.nil_append, List.cons_append] at D
    try dsimp only
    walk_at "as"
    refine plainObj_wpAny_Assign_Attribute ?_
    refine Attribute_name ?_
    with_reducible refine rdL D.B r1 ?_
    refine get_own_meth (X₅ D) (I₅ D (by simp)) C.ga C.gt C.hd C.m3.1 C.m3.2.1 C.m3.2.2.1 C.m3.2.2.2 (by decide +kernel) (by kernel_rfl) ?_
    dsimp only
    have D' := D.push (methodObj (.ref 100) (.ref x))
    replace D := D'
    clear D'
    generalize h₁₇.objs.size = mdb at D
    generalize h₁₇.push (methodObj (.ref 100) (.ref x)) = h₁₈ at D
    with_reducible refine rdL D.B r1 ?_
    refine set_ib C X₃ D (by simp) C.t6 (by kernel_rfl) (by simp) fun h₁₉ tk₁₉ y6 u6 D₁₉ => ?_
    dsimp only [List.nil_append, List.cons_append] at D₁₉
    try dsimp only
    walk_at "as"
    exact fin D₁₉
  · rw [if_pos rfl]
    walk_at "as"
    refine plainObj_wpAny_Assign_Attribute ?_
    refine Attribute_name ?_
    with_reducible refine rdL D.B r1 ?_
    refine get_own_meth (X₅ D) (I₅ D (by simp)) C.ga C.gt C.hd C.m2.1 C.m2.2.1 C.m2.2.2.1 C.m2.2.2.2 (by decide +kernel) (by kernel_rfl) ?_
    dsimp only
    have D' := D.push (methodObj (.ref 86) (.ref x))
    replace D := D'
    clear D'
    generalize h₁₅.objs.size = meb at D
    generalize h₁₅.push (methodObj (.ref 86) (.ref x)) = h₁₆ at D
    with_reducible refine rdL D.B r1 ?_
    refine set_ib C X₃ D (by simp) C.t5 (by kernel_rfl) (by simp) fun h₁₇ tk₁₇ y5 u5 D₁₇ => ?_
    replace D := D₁₇
    clear D₁₇
    dsimp only [List.nil_append, List.cons_append] at D
    try dsimp only
    walk_at "as"
    refine plainObj_wpAny_Assign_Attribute ?_
    refine Attribute_name ?_
    with_reducible refine rdL D.B r1 ?_
    refine get_own_meth (X₅ D) (I₅ D (by simp)) C.ga C.gt C.hd C.m4.1 C.m4.2.1 C.m4.2.2.1 C.m4.2.2.2 (by decide +kernel) (by kernel_rfl) ?_
    dsimp only
    have D' := D.push (methodObj (.ref 107) (.ref x))
    replace D := D'
    clear D'
    generalize h₁₇.objs.size = mdb at D
    generalize h₁₇.push (methodObj (.ref 107) (.ref x)) = h₁₈ at D
    with_reducible refine rdL D.B r1 ?_
    refine set_ib C X₃ D (by simp) C.t6 (by kernel_rfl) (by simp) fun h₁₉ tk₁₉ y6 u6 D₁₉ => ?_
    dsimp only [List.nil_append, List.cons_append] at D₁₉
    try dsimp only
    walk_at "as"
    exact fin D₁₉
/-! V0 -/
def bT : List Stmt := prog.main.body
def envT : Env := { scope := prog.main.scope, locals := mainNs, globals := mainNs, cells := [], code := .ref 13, frame := some 14 }
def qT : Pos := default
def cT : Code := .body bT envT
def BT' : List Frame := [topFrame qT]
noncomputable def s0 (w : World) (os : OsState) : Shared := ⟨boot_heap w.params, #[], boot_drawn, boot_toks, os⟩
def annT : Option Value := some (.ref 6)

noncomputable def run0 (w : World) (os : OsState) : Option (Shared × Thread) := topGo treeTable prog w 11 annT 12 (s0 w os) (topStub prog)
noncomputable def runB (w : World) (os : OsState) : Option (Flow × Shared × Code × Pos) := (run0 w os).bind fun x => segRun treeTable prog w 11 annT 1 1 x.1 (blockOf bT envT cT qT BT')
def ofL : List Obj → Nat → BT → BT
  | [], _, t => t
  | o :: l, i, t => ofL l (i + 1) (t.ins i o)
def toT (s : Shared) : SharedT := ⟨ofL s.heap.objs.toList 0 .nil, s.heap.objs.size, s.heap.life, s.gens, s.drawn, s.toks, s.os⟩
noncomputable def runT (k n : Nat) (w : World) (os : OsState) : Option (Flow × SharedT × Code × Pos) := (runB w os).bind fun x => segRunT treeTable prog w 11 annT 1 n (toT x.2.1) (piecesOf (bT.take k) envT cT qT BT')

/-! what is seen of the state behind the fifteenth statement -/
def addrs : List Addr := [244, 245, 258, 259, 57, 72, 79, 86, 93, 100, 107, 151, 158]
def Kof (h : Heap) : Frag := addrs.filterMap fun a => (h.get? a).map fun o => (a, o)

def recB (h : Heap) (c : Addr) (q : Str) : Bool := match h.get? c with
  | some o => (match o.data with
    | .fields vs => (match (vs[1]? : Option Value) with
      | some (Value.str x _) => x == q
      | _ => false)
    | _ => false)
  | none => false
def triB : List Value → Bool
  | [] => true
  | .int _ _ :: .int _ _ :: _ :: rest => triB rest
  | _ => false
def isS : Value → Bool
  | .str .. => true
  | _ => false
def isI : Value → Bool
  | .int .. => true
  | _ => false
def isB : Value → Bool
  | .bool _ => true
  | _ => false
def codeB (h : Heap) (c P : Addr) (test : List Value → Bool) : Bool := (match h.get? c with
  | some o => o.cls == .type "code" && (match o.data with
    | .fields vs => vs.getD 11 .none == .ref P && vs[11]? == some (.ref P) && isS (vs.getD 18 .none) && isI (vs.getD 7 .none) && isB (vs.getD 9 .none) && isI (vs.getD 10 .none)
    | _ => false)
  | none => false) && (match h.get? P with
  | some o => o.cls == .none && o.dict.isNone && o.slots.toList.isEmpty && (match o.data with
    | .fields ps => triB ps.toList && test ps.toList
    | _ => false)
  | none => false) && !(c == P)

def ps12 : List Value := [rawInt 1, rawInt 0, .ref 20, rawInt 5, rawInt 0, .ref 27, rawInt 7, rawInt 0, .ref 34, rawInt 14, rawInt 0, .ref 41, rawInt 19, rawInt 0, .ref 48, rawInt 227, rawInt 0, .ref 255]

def pmB : Value := .str "passlib.utils.binary" 227
def fnA : List Addr := [42, 57, 72, 79, 86, 93, 100, 107, 151, 158, 50, 4]
def fnE : List (Option Obj) := [
  some (fnObj (stmtAt 9) "nextgetter" (.str "passlib.utils.compat" 213) (.ref 41)),
  some (fnObjD (methAt 6) "Base64Engine.__init__" pmB (.ref 56) 50),
  some (fnObj (methAt 8) "Base64Engine.encode_bytes" pmB (.ref 71)),
  some (fnObj (methAt 9) "Base64Engine._encode_bytes_little" pmB (.ref 78)),
  some (fnObj (methAt 10) "Base64Engine._encode_bytes_big" pmB (.ref 85)),
  some (fnObj (methAt 11) "Base64Engine.decode_bytes" pmB (.ref 92)),
  some (fnObj (methAt 12) "Base64Engine._decode_bytes_little" pmB (.ref 99)),
  some (fnObj (methAt 13) "Base64Engine._decode_bytes_big" pmB (.ref 106)),
  some (fnObj (methAt 19) "Base64Engine.encode_transposed_bytes" pmB (.ref 150)),
  some (fnObj (methAt 20) "Base64Engine.decode_transposed_bytes" pmB (.ref 157)),
  some (oneObj (.bool false)),
  some { cls := .type "module", dict := some 0, data := .plain }]

def fnds : List Str := ["__getattribute__", "__getattr__", "encode_bytes", "decode_bytes", "encode_transposed_bytes", "decode_transposed_bytes", "_encode64", "_decode64", "_encode_bytes", "_decode_bytes",
  "__init__", "__setattr__", "_encode_bytes_little", "_encode_bytes_big", "_decode_bytes_little", "_decode_bytes_big"]
def fndE : List (Option (Option Value)) := [some (some (.builtin "object.__getattribute__")), some none, some (some (.ref 72)), some (some (.ref 93)), some (some (.ref 151)), some (some (.ref 158)), some (some .none), some (some .none), some (some .none), some (some .none),
  some (some (.ref 57)), some (some (.builtin "object.__setattr__")), some (some (.ref 79)), some (some (.ref 86)), some (some (.ref 100)), some (some (.ref 107))]
def tps : List Addr := [57, 72, 79, 86, 93, 100, 107, 151, 158]
def tks : List Str := ["bytemap", "_encode64", "_decode64", "big", "_encode_bytes", "_decode_bytes"]
def gts : List Addr := [79, 86, 100, 107]

def nms : List (Str × Option Value) := [("isinstance", none), ("bytes", none), ("len", none), ("divmod", none), ("iter", none), ("range", none), ("zip", none), ("min", none), ("max", none), ("IndexError", none), ("TypeError", none),
  ("PY3", some (.bool true)), ("nextgetter", some (.ref 42)), ("join_byte_elems", some (.type "bytes")), ("join_byte_values", some (.type "bytes")), ("imap", some (.type "map")),
  ("unicode", some (.type "str")), ("set", none), ("dict", none), ("enumerate", none), ("HASH64_CHARS", some (.str hashS 229)), ("BCRYPT_CHARS", some (.str bcryptS 231)), ("LazyBase64Engine", some (.ref 259)), ("__builtins__", some (.ref 4))]

def okB (h0 : Heap) (h : Heap) : Bool := h.isNs mainGlobals && h.isNs builtinsNs && h.isNs cStatics && staticsOk [] h0 h && namesBound prog h && laidKept h0 h && h.accountedOkI [] && (h.get? 261).isSome &&
  recB h 41 "nextgetter" && recB h 56 "Base64Engine.__init__" && recB h 71 "Base64Engine.encode_bytes" && recB h 78 "Base64Engine._encode_bytes_little" && recB h 85 "Base64Engine._encode_bytes_big" && recB h 92 "Base64Engine.decode_bytes" &&
  recB h 99 "Base64Engine._decode_bytes_little" && recB h 106 "Base64Engine._decode_bytes_big" && recB h 150 "Base64Engine.encode_transposed_bytes" && recB h 157 "Base64Engine.decode_transposed_bytes" &&
  codeB h 150 146 (fun l => l.isEmpty) && codeB h 56 52 (fun _ => true) && codeB h 13 12 (fun l => l == ps12) &&
  hasDictIn (Kof h) 259 && makesIn (Kof h) 259 && plainOver (Kof h) 259 && (h.nsMap cStatics "sys.recursionlimit").isNone

def seen14 (h : Heap) := (fnA.map h.get?, fnds.map (fun n => findIn (Kof h) (.ref 259) n), tps.map (fun a => typeIn (Kof h) (.ref a)), tks.map (fun n => takerIn (Kof h) 259 n), gts.map (fun a => (specialIn (Kof h) (.ref a) "__get__", takesIn (Kof h) (.ref a))),
  nms.map (fun p => h.nsMap mainGlobals p.1), h.bltView)
def good14 := (fnE, fndE, tps.map (fun _ => some (Value.type "function")), tks.map (fun _ => some (none : Option Value)), gts.map (fun _ => (some (some (Value.builtin "function.__get__")), some false)), nms.map (·.2), bltViewBooted)
/-! V1 -/
theorem run0_ok : ∀ w os, (run0 w os).map (fun x => x.2) = some ⟨denote treeTable cT, cT, qT, BT'⟩ := by intro w os; kernel_rfl
theorem flowB : ∀ w os, (runB w os).map (fun x => (x.1, x.2.2.1, x.2.2.2, (toT x.2.1).abs)) = (runB w os).map (fun x => (.next, cT, qT, x.2.1)) := by intro w os; kernel_rfl
theorem view14 : ∀ w os, (runT 15 1772 w os).map (fun x => (x.1, x.2.2.1, okB (s0 w os).heap x.2.1.abs.heap, x.2.1.gens.size, seen14 x.2.1.abs.heap)) = some (.next, cT, true, 0, good14) := by intro w os; kernel_rfl
/-! V2 -/
theorem start14 (w : World) (os : OsState) (hz : (s0 w os).asleep) : ∃ s p, Goes prog w (s0 w os) (topStub prog) s (restOf (bT.drop 15) envT cT p BT') ∧ KeptB 11 annT (s0 w os) s ∧
    okB (s0 w os).heap s.heap = true ∧ s.gens.size = 0 ∧ seen14 s.heap = good14 := by
  obtain ⟨x, hx, e⟩ := Option.map_eq_some_iff.mp (view14 w os)
  obtain ⟨f, sT, c, p⟩ := x
  obtain ⟨e1, e⟩ := Prod.mk.inj e
  obtain ⟨e2, e⟩ := Prod.mk.inj e
  obtain ⟨e3, e⟩ := Prod.mk.inj e
  obtain ⟨e4, e5⟩ := Prod.mk.inj e
  dsimp only at e1 e2 e3 e4 e5
  subst e1 e2
  unfold runT at hx
  obtain ⟨y, hy, hx⟩ := Option.bind_eq_some_iff.mp hx
  have eB := flowB w os
  rw [hy] at eB
  have eB := Option.some.inj eB
  obtain ⟨f', sb, c', p'⟩ := y
  obtain ⟨e1, e⟩ := Prod.mk.inj eB
  obtain ⟨e2, e⟩ := Prod.mk.inj e
  obtain ⟨e6, e8⟩ := Prod.mk.inj e
  dsimp only at e1 e2 e6 e8 hx
  subst e1 e2 e6
  replace hx := segRun_of hx
  rw [e8] at hx
  generalize hs : sT.abs = s at hx e3 e5
  have e4 : s.gens.size = 0 := by rw [← hs]; exact e4
  unfold runB at hy
  obtain ⟨y, h0, hy⟩ := Option.bind_eq_some_iff.mp hy
  obtain ⟨z, hz', eA⟩ := Option.map_eq_some_iff.mp (run0_ok w os)
  rw [h0] at hz'
  cases hz'
  obtain ⟨sa, ta⟩ := y
  dsimp only at eA hy
  subst eA
  unfold run0 at h0
  rw [← table_eq_tree] at h0 hy hx
  obtain ⟨g1, k1⟩ := topGo_goes 12 hz h0
  have z1 := Shared.asleep_of_life k1.life hz
  obtain ⟨a, -, g2, k2⟩ := seg_goes (res := fun _ : Unit => Flow.next) (K' := fun _ => (execs bT envT).wrap doneF (leaveH envT) id id) (H' := Sem.raise) (B := [topFrame qT]) rfl 1 sa (blockOf bT envT cT qT [topFrame qT])
    ⟨(blockStart bT envT).wrap (fun _ => (execs bT envT).wrap doneF (leaveH envT) id id) .raise id id, cT, qT, [topFrame qT]⟩ _ _ _ _ z1 ⟨rfl, rfl, .inl ⟨rfl, rfl, _, rfl, rfl⟩⟩ hy
  have z2 := Shared.asleep_of_life k2.life z1
  obtain ⟨a', ha', g3, k3⟩ := seg_goes (res := id) (K' := fun f => match f with | .next => (execs (bT.drop 15) envT).wrap doneF (leaveH envT) id id | f => doneF f) (H' := leaveH envT) (B := [topFrame qT]) rfl 1772 sb (piecesOf (bT.take 15) envT cT qT [topFrame qT])
    ⟨(execs (bT.take 15) envT).wrap (fun f => match f with | .next => (execs (bT.drop 15) envT).wrap doneF (leaveH envT) id id | f => doneF f) (leaveH envT) id id, cT, qT, [topFrame qT]⟩ _ _ _ _ z2 ⟨rfl, rfl, .inl ⟨rfl, rfl, _, rfl, rfl⟩⟩ hx
  obtain rfl : a' = .next := ha'
  have ew := execs_app_wrap (env := envT) (bT.take 15) (bT.drop 15) doneF (leaveH envT) id id
  rw [List.take_append_drop] at ew
  have g3' : Goes prog w sb (restOf bT envT cT qT [topFrame qT]) s (restOf (bT.drop 15) envT cT p BT') := by
    unfold restOf
    rw [ew]
    exact g3
  have g2' : Goes prog w sa ⟨denote table cT, cT, qT, BT'⟩ sb (restOf bT envT cT qT [topFrame qT]) := by
    show Goes prog w sa ⟨denote table (.body bT envT), cT, qT, BT'⟩ _ _
    rw [body_wrap]
    exact g2
  exact ⟨s, p, (g1.trans g2').trans g3', (k1.trans k2).trans k3, e3, e4, e5⟩
/-! V3 -/
theorem recB_sound {h : Heap} {c : Addr} {q : Str} (e : recB h c q = true) : ∃ o vs t, h.get? c = some o ∧ o.data = .fields vs ∧ vs[1]? = some (.str q t) := by
  unfold recB at e
  split at e
  · rename_i o ho
    split at e
    · rename_i vs hd
      split at e
      · rename_i x t hv
        exact ⟨o, vs, t, ho, hd, by rw [hv, beq_iff_eq.mp e]⟩
      · cases e
    · cases e
  · cases e
theorem triB_sound : ∀ {l : List Value}, triB l = true → TriplesOk l
  | [], _ => trivial
  | [_], e => by simp [triB] at e
  | [_, _], e => by simp [triB] at e
  | a :: b :: c :: rest, e => by
    cases a <;> cases b <;> first | (simp [triB] at e; done) | exact triB_sound (l := rest) e
theorem isS_of {v : Value} (e : isS v = true) : ∃ x t, v = .str x t := by cases v <;> first | exact ⟨_, _, rfl⟩ | cases e
theorem isI_of {v : Value} (e : isI v = true) : ∃ x t, v = .int x t := by cases v <;> first | exact ⟨_, _, rfl⟩ | cases e
theorem isB_of {v : Value} (e : isB v = true) : ∃ x, v = .bool x := by cases v <;> first | exact ⟨_, rfl⟩ | cases e
theorem codeB_sound {h : Heap} {c P : Addr} {test : List Value → Bool} (e : codeB h c P test = true) : ∃ ps, h.IsCode c P ps ∧ h.TableAt c P ps ∧ test ps.toList = true := by
  unfold codeB at e
  simp only [Bool.and_eq_true, Bool.not_eq_true', beq_eq_false_iff_ne] at e
  obtain ⟨⟨e1, e2⟩, e3⟩ := e
  split at e1
  · rename_i o ho
    split at e1
    · rename_i vs hd
      split at e2
      · rename_i op hop
        simp only [Bool.and_eq_true, beq_iff_eq] at e1 e2
        obtain ⟨⟨⟨p1, p2⟩, p3⟩, e2⟩ := e2
        split at e2
        · rename_i ps hps
          simp only [Bool.and_eq_true] at e2
          obtain ⟨c1, ⟨⟨⟨⟨⟨c2, c3⟩, c4⟩, c5⟩, c6⟩, c7⟩⟩ := e1
          obtain ⟨x1, t1, v1⟩ := isS_of c4
          obtain ⟨x2, t2, v2⟩ := isI_of c5
          obtain ⟨x3, v3⟩ := isB_of c6
          obtain ⟨x4, t4, v4⟩ := isI_of c7
          have hob : op = { cls := .none, data := .fields ps } := by
            obtain ⟨a1, a2, a3, a4⟩ := op
            dsimp only at p1 p2 p3 hps
            subst p1 hps
            have : a2 = none := by simpa using p2
            have h4 : a4 = #[] := by
              obtain ⟨l⟩ := a4
              have : l = [] := by simpa using p3
              rw [this]
            rw [this, h4]
          exact ⟨ps, ⟨o, vs, x1, t1, x2, t2, x3, x4, t4, op, ho, hd, c2, v1, v2, v3, v4, hop, hps, triB_sound e2.1, e3⟩, ⟨⟨o, vs, ho, c1, hd, c3⟩, by rw [hop, hob]⟩, e2.2⟩
        · cases e2
      · cases e2
    · simp at e1
  · cases e1

theorem kof_in (h : Heap) : (Kof h).In h := by
  intro a o e
  unfold Kof at e
  generalize addrs = l at e
  induction l with
  | nil => cases e
  | cons b l ih =>
    rw [List.filterMap_cons] at e
    cases hb : h.get? b with
    | none => rw [hb] at e; exact ih e
    | some x =>
      rw [hb] at e
      simp only [Option.map_some, List.lookup] at e
      by_cases hab : a = b
      · subst hab
        simp at e
        rw [hb, e]
      · have : (a == b) = false := beq_eq_false_iff_ne.mpr hab
        rw [this] at e
        exact ih e
theorem kof_low {h : Heap} {a : Addr} {o : Obj} (e : (Kof h).lookup a = some o) : a ∈ addrs := by
  unfold Kof at e
  generalize addrs = l at e ⊢
  induction l with
  | nil => cases e
  | cons b l ih =>
    rw [List.filterMap_cons] at e
    cases hb : h.get? b with
    | none => rw [hb] at e; exact List.mem_cons_of_mem _ (ih e)
    | some x =>
      rw [hb] at e
      simp only [Option.map_some, List.lookup] at e
      by_cases hab : a = b
      · subst hab; exact List.mem_cons_self ..
      · have : (a == b) = false := beq_eq_false_iff_ne.mpr hab
        rw [this] at e
        exact List.mem_cons_of_mem _ (ih e)

/-- what the rest of the top does not touch -/
def Hd (h : Heap) : Heap := hideAll h [3, 12, 52]
theorem hd_in {h : Heap} {b : Addr} {o : Obj} (hb : b ∉ [3, 12, 52]) (e : h.get? b = some o) : (Hd h).get? b = some o := hideAll_get _ e hb
theorem hd_of {h : Heap} {b : Addr} {o : Obj} (e : (Hd h).get? b = some o) : h.get? b = some o := of_hideAll _ e

/-- the state behind the fifteenth statement -/
structure St (h : Heap) : Prop where
  g : h.Ns mainGlobals (h.nsMap mainGlobals)
  b : (Hd h).Ns builtinsNs (h.nsMap builtinsNs)
  bi : ∀ x : Str, x ≠ "__name__" → h.nsMap builtinsNs x = bootBuiltins x
  lim : (Hd h).NoLimit
  top : ∃ o, (Hd h).get? 261 = some o
  X : (Kof h).In (Hd h)
  C : MkOk (Kof h)
  Cl : ClsOk (Kof h)
  N : Nm (h.nsMap mainGlobals)
  NI : NmI (h.nsMap mainGlobals)
  F : Fns (Hd h)
  M : MethFn (Hd h)
  tab : TabOk (Hd h) #[]
  tm : ∃ ps, TabM h ps
  main : h.IsCode 13 12 ps12.toArray
  bm : (Hd h).get? 4 = some { cls := .type "module", dict := some 0, data := .plain }
  i57 : (Hd h).get? 57 = some (fnObjD stInit "Base64Engine.__init__" pmB (.ref 56) 50)
  i56 : (Hd h).CodeRec (.ref 56) "Base64Engine.__init__"
  i50 : (Hd h).get? 50 = some (oneObj (.bool false))
  n1 : h.nsMap mainGlobals "HASH64_CHARS" = some (.str hashS 229)
  n2 : h.nsMap mainGlobals "BCRYPT_CHARS" = some (.str bcryptS 231)
  n3 : h.nsMap mainGlobals "LazyBase64Engine" = some (.ref 259)
  n4 : h.nsMap mainGlobals "__builtins__" = some (.ref 4)
  kp : keepIn (Kof h) (.ref 259) = true

theorem keep_of_makes {K : Frag} {C : Addr} (e : makesIn K C = true) : keepIn K (.ref C) = true := by
  unfold makesIn at e
  unfold keepIn
  split at e
  · rename_i oc od cd sl ho
    simp only [Bool.and_eq_true] at e
    dsimp only
    rw [ho]
    exact e.1.2
  · cases e

theorem fo_of {h : Heap} {a : Addr} {st st' : Stmt} {q : Str} {pm c : Value} (e : st = st') (x : h.get? a = some (fnObj st q pm c)) : h.get? a = some (fnObj st' q pm c) := e ▸ x
theorem foD_of {h : Heap} {a dv : Addr} {st st' : Stmt} {q : Str} {pm c : Value} (e : st = st') (x : h.get? a = some (fnObjD st q pm c dv)) : h.get? a = some (fnObjD st' q pm c dv) := e ▸ x
theorem st_of {h0 h : Heap} (k : okB h0 h = true) (e : seen14 h = good14) : St h := by
  unfold okB at k
  simp only [Bool.and_eq_true] at k
  obtain ⟨⟨⟨⟨⟨⟨⟨⟨⟨⟨⟨⟨⟨⟨⟨⟨⟨⟨⟨⟨⟨⟨⟨⟨k1, k2⟩, k3⟩, k4⟩, k5⟩, k6⟩, k7⟩, k8⟩, r1⟩, r2⟩, r3⟩, r4⟩, r5⟩, r6⟩, r7⟩, r8⟩, r9⟩, r10⟩, c1⟩, c2⟩, c3⟩, d1⟩, d2⟩, d3⟩, d4⟩ := k
  obtain ⟨e1, e⟩ := Prod.mk.inj e
  obtain ⟨e2, e⟩ := Prod.mk.inj e
  obtain ⟨e3, e⟩ := Prod.mk.inj e
  obtain ⟨e4, e⟩ := Prod.mk.inj e
  obtain ⟨e5, e⟩ := Prod.mk.inj e
  obtain ⟨e6, e7⟩ := Prod.mk.inj e
  have O : ∀ i : Nat, (fnA.map h.get?)[i]? = fnE[i]? := fun i => by rw [e1]
  have D : ∀ i : Nat, (fnds.map (fun n => findIn (Kof h) (.ref 259) n))[i]? = fndE[i]? := fun i => by rw [e2]
  have Y : ∀ i : Nat, (tps.map (fun a => typeIn (Kof h) (.ref a)))[i]? = (tps.map (fun _ => some (Value.type "function")))[i]? := fun i => by rw [e3]
  have U : ∀ i : Nat, (tks.map (fun n => takerIn (Kof h) 259 n))[i]? = (tks.map (fun _ => some (none : Option Value)))[i]? := fun i => by rw [e4]
  have V : ∀ i : Nat, (gts.map (fun a => (specialIn (Kof h) (.ref a) "__get__", takesIn (Kof h) (.ref a))))[i]? = (gts.map (fun _ => (some (some (Value.builtin "function.__get__")), some false)))[i]? := fun i => by rw [e5]
  have W : ∀ i : Nat, (nms.map (fun p => h.nsMap mainGlobals p.1))[i]? = (nms.map (·.2))[i]? := fun i => by rw [e6]
  have low : ∀ b o, (Kof h).lookup b = some o → b ≠ 52 ∧ b ≠ T := fun b o q => by
    have := kof_low q
    constructor <;> (rintro rfl; exact absurd this (by decide))
  have fe : ∀ {a c : Addr} {st : Stmt} {q : Str} {pm : Value}, h.get? a = some (fnObj st q pm (.ref c)) → recB h c q = true → c ≠ T → a ≠ T → c ∉ [3, 12, 52] → a ∉ [3, 12, 52] → FnAt (Hd h) a st q pm (.ref c) := fun o r n n' m m' =>
    ⟨hd_in m' o, let ⟨ob, vs, t, x1, x2, x3⟩ := recB_sound r; ⟨_, ob, vs, t, rfl, n, hd_in m x1, x2, x3⟩, n'⟩
  have g0 : h.get? 42 = some (fnObj stNext "nextgetter" (.str "passlib.utils.compat" 213) (.ref 41)) := fo_of litNext.2 (Option.some.inj (O 0))
  have g1 : h.get? 57 = some (fnObjD stInit "Base64Engine.__init__" pmB (.ref 56) 50) := foD_of litInit.2 (Option.some.inj (O 1))
  have g2 : h.get? 72 = some (fnObj stEnc "Base64Engine.encode_bytes" pmB (.ref 71)) := fo_of litEnc.2 (Option.some.inj (O 2))
  have g3 : h.get? 79 = some (fnObj stEL "Base64Engine._encode_bytes_little" pmB (.ref 78)) := fo_of litEL.2 (Option.some.inj (O 3))
  have g4 : h.get? 86 = some (fnObj stEB "Base64Engine._encode_bytes_big" pmB (.ref 85)) := fo_of litEB.2 (Option.some.inj (O 4))
  have g5 : h.get? 93 = some (fnObj stDec "Base64Engine.decode_bytes" pmB (.ref 92)) := fo_of litDec.2 (Option.some.inj (O 5))
  have g6 : h.get? 100 = some (fnObj stDL "Base64Engine._decode_bytes_little" pmB (.ref 99)) := fo_of litDL.2 (Option.some.inj (O 6))
  have g7 : h.get? 107 = some (fnObj stDB "Base64Engine._decode_bytes_big" pmB (.ref 106)) := fo_of litDB.2 (Option.some.inj (O 7))
  have g8 : h.get? 151 = some (fnObj stEtb "Base64Engine.encode_transposed_bytes" pmB (.ref 150)) := fo_of litEtb.2 (Option.some.inj (O 8))
  have g9 : h.get? 158 = some (fnObj stDtb "Base64Engine.decode_transposed_bytes" pmB (.ref 157)) := fo_of litDtb.2 (Option.some.inj (O 9))
  obtain ⟨pA, i1, i2, i3⟩ := codeB_sound c1
  obtain ⟨pB, j1, j2, _⟩ := codeB_sound c2
  obtain ⟨pC, l1, _, l3⟩ := codeB_sound c3
  have hpA : pA = #[] := by
    obtain ⟨l⟩ := pA
    have : l = [] := by simpa using i3
    rw [this]
  have hpC : pC = ps12.toArray := by
    obtain ⟨l⟩ := pC
    have : l = ps12 := beq_iff_eq.mp l3
    rw [this]
  subst hpA hpC
  have tp : ∀ i : Nat, ∀ a : Addr, tps[i]? = some a → typeIn (Kof h) (.ref a) = some (.type "function") := fun i a q => by
    have := Y i
    simp only [List.getElem?_map, q, Option.map_some] at this
    exact Option.some.inj this
  refine {
    g := .of_isNs k1, b := ns_keep (.of_isNs k2) fun o e => hd_in (by decide) e, bi := Heap.of_bltView k2 e7, lim := ⟨_, ns_keep (.of_isNs k3) fun o e => hd_in (by decide) e, by simpa using d4⟩, top := let ⟨o, e⟩ := Option.isSome_iff_exists.mp k8; ⟨o, hd_in (by decide) e⟩, X := fun b o q => hd_in (fun z => absurd (kof_low q) (by simp only [List.mem_cons, List.not_mem_nil, or_false] at z; rcases z with rfl | rfl | rfl <;> decide)) (kof_in h b o q)
    C := { low := low, mks := d2, ini := Option.some.inj (D 10), inf := tp 0 _ rfl, st := Option.some.inj (D 11), pl := d3, hd := d1, ga := Option.some.inj (D 0), gt := Option.some.inj (D 1),
           t1 := Option.some.inj (U 0), t2 := Option.some.inj (U 1), t3 := Option.some.inj (U 2), t4 := Option.some.inj (U 3), t5 := Option.some.inj (U 4), t6 := Option.some.inj (U 5),
           m1 := ⟨Option.some.inj (D 12), tp 2 _ rfl, (Prod.mk.inj (Option.some.inj (V 0))).1, (Prod.mk.inj (Option.some.inj (V 0))).2⟩
           m2 := ⟨Option.some.inj (D 13), tp 3 _ rfl, (Prod.mk.inj (Option.some.inj (V 1))).1, (Prod.mk.inj (Option.some.inj (V 1))).2⟩
           m3 := ⟨Option.some.inj (D 14), tp 5 _ rfl, (Prod.mk.inj (Option.some.inj (V 2))).1, (Prod.mk.inj (Option.some.inj (V 2))).2⟩
           m4 := ⟨Option.some.inj (D 15), tp 6 _ rfl, (Prod.mk.inj (Option.some.inj (V 3))).1, (Prod.mk.inj (Option.some.inj (V 3))).2⟩ }
    Cl := { noT := ?_, ga := Option.some.inj (D 0), gt := Option.some.inj (D 1), hd := d1, f1 := Option.some.inj (D 2), f2 := Option.some.inj (D 3), f3 := Option.some.inj (D 4), f4 := Option.some.inj (D 5),
            t1 := tp 1 _ rfl, t2 := tp 4 _ rfl, t3 := tp 7 _ rfl, t4 := tp 8 _ rfl, n1 := Option.some.inj (D 6), n2 := Option.some.inj (D 7), n3 := Option.some.inj (D 8), n4 := Option.some.inj (D 9) }
    N := { isi := Option.some.inj (W 0), bytes := Option.some.inj (W 1), len := Option.some.inj (W 2), divmod := Option.some.inj (W 3), iter := Option.some.inj (W 4), range := Option.some.inj (W 5), zip := Option.some.inj (W 6), min := Option.some.inj (W 7), max := Option.some.inj (W 8), ie := Option.some.inj (W 9), te := Option.some.inj (W 10),
           py3 := Option.some.inj (W 11), nxt := Option.some.inj (W 12), jbe := Option.some.inj (W 13), jbv := Option.some.inj (W 14), imap := Option.some.inj (W 15) }
    NI := { isi := Option.some.inj (W 0), uni := Option.some.inj (W 16), len := Option.some.inj (W 2), set := Option.some.inj (W 17), dict := Option.some.inj (W 18), enum := Option.some.inj (W 19) }
    F := ⟨⟨_, _, fe g0 r1 (by decide) (by decide) (by decide) (by decide)⟩, ⟨_, _, fe g2 r3 (by decide) (by decide) (by decide) (by decide)⟩, ⟨_, _, fe g3 r4 (by decide) (by decide) (by decide) (by decide)⟩, ⟨_, _, fe g4 r5 (by decide) (by decide) (by decide) (by decide)⟩, ⟨_, _, fe g6 r7 (by decide) (by decide) (by decide) (by decide)⟩, ⟨_, _, fe g7 r8 (by decide) (by decide) (by decide) (by decide)⟩⟩
    M := ⟨⟨_, _, fe g5 r6 (by decide) (by decide) (by decide) (by decide)⟩, ⟨_, fe g8 r9 (by decide) (by decide) (by decide) (by decide)⟩, ⟨_, _, fe g9 r10 (by decide) (by decide) (by decide) (by decide)⟩⟩
    tab := ?_, tm := ⟨pB, j1, j2⟩, main := l1, bm := hd_in (by decide) (Option.some.inj (O 11)), i57 := hd_in (by decide) g1, i56 := ?_, i50 := hd_in (by decide) (Option.some.inj (O 10))
    n1 := Option.some.inj (W 20), n2 := Option.some.inj (W 21), n3 := Option.some.inj (W 22), n4 := Option.some.inj (W 23), kp := keep_of_makes d2 }
  · cases q : (Kof h).lookup T with
    | none => rfl
    | some o => exact absurd rfl (low _ _ q).2
  · obtain ⟨o, vs, file, tf, flags, tg, inF, text, tt, op, a, r1, r2, r3, r4, r5, r6, b, r⟩ := i1
    obtain ⟨⟨o2, vs2, a2, r7⟩, t⟩ := i2
    exact ⟨⟨o, vs, file, tf, flags, tg, inF, text, tt, op, hd_in (by decide) a, r1, r2, r3, r4, r5, r6, hd_in (by decide) b, r⟩, ⟨o2, vs2, hd_in (by decide) a2, r7⟩, hd_in (by decide) t⟩
  · obtain ⟨ob, vs, t, x1, x2, x3⟩ := recB_sound r2
    exact ⟨56, ob, vs, t, rfl, hd_in (by decide) x1, x2, x3⟩
/-! V4 -/
/-- a plain definition of the top, without a docstring and without defaults -/
theorem def_ok {w : World} {A : Around} {E : Value → Shared → Prop} {s : Shared} {name : Str} {params : Arguments} {body : List Stmt} {scope : Scope} {pos : Pos} {mg : Str → Option Value} {ps : Array Value} {Q : Flow → Shared → Prop}
    (hkw : params.kwonlyargs = []) (hkd : params.kw_defaults = []) (hdf : params.defaults = []) (hann0 : annTrees params none (mainEnv prog 13 14) = [])
    (hfree : ∀ x ∈ scope.names, x.2 ≠ .free) (hloc : prog.main.scope.names.lookup name = some .local)
    (hq : qualnameIn { scope := prog.main.scope, locals := mainGlobals, globals := mainGlobals, cells := [] } name name = name) (hm : s.heap.Main mg 13 12 ps) (hdoc : docOf body = none)
    (h : ∀ a c' h' tk, s.heap.objs.size ≤ a → h'.Main (fun x => if x = name then some (.ref a) else mg x) 13 12 (ps ++ #[rawInt pos.line, rawInt pos.col, .ref c']) →
      h'.get? a = some { cls := .type "function", data := .func (defFd name name params body scope mainGlobals .none .none none ((mg "__name__").getD .none) (.ref c') .none) } →
      (s.heap.objs.size ≤ c' ∧ h'.CodeRec (.ref c') name) →
      (∀ b o, b ≠ 12 → b ≠ mainGlobals → s.heap.get? b = some o → h'.get? b = some o) → Q .next { s with heap := h', toks := tk })
    (hnb : name ≠ "__builtins__") (hnf : codeAmong pos ps.toList = none) :
    wpAny (M w) A (exec (.FunctionDef name params body [] none [] scope none name pos) (mainEnv prog 13 14)) Q E s := by
  have hq' : qualnameIn (mainEnv prog 13 14) name name = name := hq
  rw [exec_def, hq', defaultsOf_eq, hkd, hann0, hdf]
  refine wpAny_bind (wpAny_standAt (wpAny_bind (wpAny_holding ?_)))
  refine wpAny_bind (wpAny_evalAll_consts (env := mainEnv prog 13 14) [] _ _ (fun _ h => (nomatch h)) fun vs tk₁ hvs => ?_)
  obtain rfl : vs = [] := by cases vs with | nil => rfl | cons _ _ => exact hvs.elim
  refine wpAny_bind (wpAny_holding (wpAny_pure ?_))
  refine wpAny_holding ?_
  refine wpAny_bind (wpAny_pure ?_)
  have hPl : 12 < s.heap.objs.size := hm.code.lt.2
  have mk : ∀ {Q' : Value → Shared → Prop}, (∀ c' h' tk, Heap.ExtBut 12 s.heap h' → s.heap.objs.size ≤ c' → c' < h'.objs.size → h'.IsCode 13 12 (ps ++ #[rawInt pos.line, rawInt pos.col, .ref c']) → h'.CodeRec (.ref c') name →
      Q' (.ref h'.objs.size) { s with heap := h'.push { cls := .type "function", data := .func (defFd name name params body scope mainGlobals .none .none none ((mg "__name__").getD .none) (.ref c') .none) }, toks := tk }) →
      wpAny (M w) A (makeFunction name name params (.stmts body) scope (mainEnv prog 13 14) [] [] [] pos pos.line) Q' E { s with toks := tk₁ } := by
    intro Q' hQ
    rw [makeFunction_eq, hkw]
    refine wpAny_bind (wpAny_pure (wpAny_bind (wpAny_pure (wpAny_bind (wpAny_pure ?_)))))
    show wpAny _ _ (makeTail name name params (.stmts body) scope (mainEnv prog 13 14) .none .none none pos pos.line) _ _ _
    have hc : closureFor scope (mainEnv prog 13 14) = pure [] := by
      simp only [closureFor]
      rw [forIn_yield_id [] (fun x hx c => by
        obtain ⟨n, kind⟩ := x
        have : (kind == NameKind.free) = false := by simpa using hfree _ hx
        simp only [this, Bool.false_eq_true, if_false])]
      rfl
    simp only [makeTail, List.isEmpty_nil, if_true, pure_bind, hc]
    refine wpAny_bind (wpAny_functionCodeN (s := { s with toks := tk₁ }) (c := 13) (P := 12) rfl hm.code hnf fun c' h' tk hx hge hlt hok' hrec htb => ?_)
    obtain ⟨bm, o, hbm, hne0, _, hneP, hbo, hcls, hdict, hdata⟩ := hm.bmod
    have hg' : h'.Ns mainGlobals mg := hm.g.extBut hx (Nat.ne_of_lt hm.low.2)
    refine wpAny_bind (wpAny_builtinsFor hg' hbm hne0 (hx _ _ hneP hbo) hcls hdict hdata ?_)
    refine wpAny_bind (wpAny_nsGet hg' ?_)
    rw [hdoc]
    exact wpAny_bind (wpAny_pure (wpAny_newObj_type (hQ c' h' tk hx hge hlt hok' hrec) (by size_fits)))
  refine mk fun c' h₂ tk₃ hx hge hlt hok hrec => wpAny_bind (wpAny_standAt (wpAny_bind (wpAny_bindName (wpAny_storeName_local (env := mainEnv prog 13 14) hloc
      ((hm.g.extBut hx (Nat.ne_of_lt hm.low.2)).push _) (fun h' hg' hs' => wpAny_pure ?_) rfl))))
  dsimp only at hg' hs' hge hx ⊢
  obtain ⟨bm, o, hbm, hne0, hneG, hneP, hbo, hrest⟩ := hm.bmod
  have hglt : mainGlobals < h₂.objs.size := (hm.g.extBut hx (Nat.ne_of_lt hm.low.2)).lt
  have hsz : s.heap.objs.size ≤ h₂.objs.size := Nat.le_trans hge (Nat.le_of_lt hlt)
  refine h h₂.objs.size c' h' _ hsz
    ⟨hg', (hok.push _).sameBut hs' (Nat.ne_of_gt hm.low.1) (Nat.ne_of_gt hm.low.2), hm.low,
      ⟨bm, o, by simp only [Ne.symm hnb, if_false]; exact hbm, hne0, hneG, hneP, (hs'.2 _ hneG).trans (Heap.get?_push_of_some _ (hx _ _ hneP hbo)), hrest⟩⟩
    ((hs'.2 _ (Nat.ne_of_gt hglt)).trans (Heap.get?_push_size _ rfl)) 
    ⟨hge, let ⟨c₂, o₂, vs₂, t₂, e₂, g₂, r₂⟩ := hrec
     ⟨c₂, o₂, vs₂, t₂, e₂, (hs'.2 _ (by cases e₂; exact Nat.ne_of_gt (Nat.lt_of_lt_of_le hm.g.lt hge))).trans (Heap.get?_push_of_some _ g₂), r₂⟩⟩
    fun b o' hbP hbG e => (hs'.2 _ hbG).trans (Heap.get?_push_of_some _ (hx _ _ hbP e))

/-- the making of an engine, whole -/
theorem make_ok {w : World} {A : Around} {E : Value → Shared → Prop} {s : Shared} {K : Frag} {mg mb : Str → Option Value} {cs : Str} {t : Tok} {cb : Array UInt8} {big : Bool} {pm : Value} {ps : Array Value} {Q : Value → Shared → Prop}
    (hh : A.handled = none) (hroom : A.depth + 6 < recursionLimit) (G : Gl mg mb s.heap) (N : NmI mg) (C : MkOk K) (X : K.In s.heap) (hbm : BmOk mg (s.heap.hide 52)) (tm : TabM s.heap ps)
    (hob : s.heap.get? 57 = some (fnObjD stInit "Base64Engine.__init__" pm (.ref 56) 50)) (hcr : s.heap.CodeRec (.ref 56) "Base64Engine.__init__") (hd50 : s.heap.get? 50 = some (oneObj (.bool false)))
    (chr : Chr cs cb)
    (k : ∀ s' ps' x, AdvH (s.heap.hide 52) s.gens s.drawn s.os s'.heap s'.gens s'.drawn s'.os → EngE w s'.heap x → TabM s'.heap ps' → (∀ o, s.heap.get? T = some o → s'.heap.get? T = some o) → Q (.ref x) s') :
    wpAny (M w) A (call (.ref 259) [.str cs t] (kwOf big)) Q E s := by
  obtain ⟨h, g, d, tk, os⟩ := s
  refine wpAny_call (make_core (makes_of X C.mks) (looks_findIn X C.ini) (fun self => bind_fn X self C.inf) (.inl rfl) ?_)
  refine init_ok (s := ⟨h, g, d, tk, os⟩) (s₁ := _) (A := Around.under _ _) (pm := pm) (big := big) hh ?_ G N C X hbm tm hob hcr hd50 chr rfl fun s' ps' a e m u => ?_
  · show A.depth + 1 + 3 < _
    omega
  · exact ⟨rfl, k s' ps' _ a e m u⟩
/-! V5 -/
def Up (h h' : Heap) : Prop := ∀ b o, 262 ≤ b → h.get? b = some o → h'.get? b = some o
theorem EngE.up {w : World} {h h' : Heap} {x : Addr} (e : EngE w h x) (k : Up h h') : EngE w h' x := by
  obtain ⟨a, cm, big, e, c⟩ := e
  have m : h'.MapOf (intKind prog w) a.dd a.df := let ⟨o, es, ep, ho, r⟩ := e.dd; ⟨o, es, ep, k _ _ e.hi.2.2.2.1 ho, r⟩
  exact ⟨a, cm, big, ⟨k _ _ e.hx e.ox, k _ _ e.hi.1 e.odx, e.l1, e.l2, e.l3, e.l4, e.m1, e.m2, e.m3, e.m4, k _ _ e.hi.2.1 e.e64, k _ _ e.hi.2.2.1 e.d64, m, e.df, k _ _ e.hi.2.2.2.2.1 e.meb, k _ _ e.hi.2.2.2.2.2 e.mdb, e.hx, e.hi⟩, c⟩
def FnHi (h : Heap) (a : Addr) (st : Stmt) (q : Str) : Prop := ∃ pm c, FnAt h a st q pm (.ref c) ∧ 262 ≤ a ∧ 262 ≤ c
theorem FnHi.up {h h' : Heap} {a : Addr} {st : Stmt} {q : Str} (f : FnHi h a st q) (k : Up h h') : FnHi h' a st q := by
  obtain ⟨pm, c, ⟨f1, ⟨c', o, vs, t, e, n, x1, x2, x3⟩, f3⟩, ha, hc⟩ := f
  cases e
  exact ⟨pm, c, ⟨k _ _ ha f1, ⟨c, o, vs, t, rfl, n, k _ _ hc x1, x2, x3⟩, f3⟩, ha, hc⟩
theorem FnHi.e {h : Heap} {a : Addr} {st : Stmt} {q : Str} (f : FnHi h a st q) : FnE h a st q := let ⟨pm, c, f, _⟩ := f; ⟨pm, .ref c, f⟩

/-- the state amid the rest of the top -/
structure Ts (H : Heap) (D : Drawn) (O : OsState) (mg : Str → Option Value) (ps : Array Value) (s : Shared) : Prop where
  kp : ∀ b x, (Hd H).get? b = some x → s.heap.get? b = some x
  ns : s.heap.Ns mainGlobals mg
  code : s.heap.IsCode 13 12 ps
  tm : ∃ ps', TabM s.heap ps'
  gens : ∃ k, s.gens = Array.replicate k .finished
  drawn : s.drawn = D
  os : s.os = O

section
variable {w : World} {H : Heap} {D : Drawn} {O : OsState} {mg : Str → Option Value} {ps : Array Value} {s : Shared} {A : Around} {E : Value → Shared → Prop}
theorem hd_no (b : Addr) (hb : b ∈ [3, 12, 52]) : (Hd H).get? b = none := hideAll_none _ hb
theorem hd_ne {b : Addr} {x : Obj} (e : (Hd H).get? b = some x) : b ≠ 3 ∧ b ≠ 12 ∧ b ≠ 52 := by
  refine ⟨?_, ?_, ?_⟩ <;> (rintro rfl; rw [hd_no _ (by decide)] at e; cases e)
theorem Ts.gl (T : Ts H D O mg ps s) (S : St H) : Gl mg (H.nsMap builtinsNs) s.heap :=
  ⟨let ⟨o, e⟩ := S.top; ⟨o, T.kp _ _ e⟩, T.ns, ns_keep S.b fun o e => T.kp _ _ e, S.bi, let ⟨mc, a, b⟩ := S.lim; ⟨mc, ns_keep a fun o e => T.kp _ _ e, b⟩⟩
theorem Ts.x (T : Ts H D O mg ps s) (S : St H) : (Kof H).In s.heap := fun b o q => T.kp _ _ (S.X b o q)
theorem Ts.store {x : Str} {v : Value} {h' : Heap} {tk : Nat} (T : Ts H D O mg ps s) (n : h'.Ns mainGlobals (upd mg x v)) (sb : Heap.SameBut mainGlobals s.heap h') : Ts H D O (upd mg x v) ps { s with heap := h', toks := tk } :=
  ⟨fun b y e => (sb.2 _ (hd_ne e).1).trans (T.kp b y e), n, T.code.sameBut sb (by decide) (by decide), let ⟨ps', t⟩ := T.tm; ⟨ps', t.at' fun b o hb e => (sb.2 _ (by rcases hb with rfl | rfl <;> decide)).trans e⟩, T.gens, T.drawn, T.os⟩
theorem up_same {h h' : Heap} (sb : Heap.SameBut mainGlobals h h') : Up h h' := fun b o hb e => (sb.2 _ (fun z => by rw [z] at hb; exact absurd hb (by decide))).trans e

/-- a name of the top is read -/
theorem rdT {x : Str} {v : Value} {pos : Pos} {Q : Value → Shared → Prop} (T : Ts H D O mg ps s) (hv : mg x = some v) (k : Q v s) (hd : (x == ("__debug__" : Str)) = false := by decide) : wpAny (M w) A (eval (.Name x pos) envT) Q E s :=
  Name_module rfl rfl (loadGlobal_global (env := envT) T.ns hv k) hd
/-- a name of the top is stored -/
theorem stT {x : Str} {v : Value} {Q : Unit → Shared → Prop} (T : Ts H D O mg ps s) (hl : envT.kindOf x = some .local) (k : ∀ h' tk, Ts H D O (upd mg x v) ps { s with heap := h', toks := tk } → Up s.heap h' → Q () { s with heap := h', toks := tk }) :
    wpAny (M w) A (storeName envT x v) Q E s :=
  wpAny_storeName_local hl T.ns (fun h' n sb => k h' _ (T.store n sb) (up_same sb)) rfl

theorem eng_T {cs : Str} {t : Tok} {cb : Array UInt8} {big : Bool} {Q : Value → Shared → Prop} (T : Ts H D O mg ps s) (S : St H) (hh : A.handled = none) (hroom : A.depth + 6 < recursionLimit) (N : NmI mg) (n4 : mg "__builtins__" = some (.ref 4)) (chr : Chr cs cb)
    (k : ∀ s' x, Ts H D O mg ps s' → EngE w s'.heap x → Up s.heap s'.heap → Q (.ref x) s') : wpAny (M w) A (call (.ref 259) [.str cs t] (kwOf big)) Q E s := by
  obtain ⟨ps', tm⟩ := T.tm
  refine make_ok (pm := pmB) hh hroom (T.gl S) N S.C (T.x S) ⟨4, _, n4, by decide, by decide, (Heap.hide_ne _ (by decide)).trans (T.kp _ _ S.bm), rfl, rfl, rfl⟩ tm (T.kp _ _ S.i57) ?_ (T.kp _ _ S.i50) chr fun s' ps2 x a e m u => ?_
  · obtain ⟨c, o, vs, t, e, a, r⟩ := S.i56
    exact ⟨c, o, vs, t, e, T.kp _ _ a, r⟩
  · have kk : ∀ b o, b ≠ A5.T → b ≠ 52 → s.heap.get? b = some o → s'.heap.get? b = some o := fun b o h1 h2 q => a.keep b o h1 ((Heap.hide_ne _ h2).trans q)
    refine k s' x ⟨fun b y q => ?_, ns_keep T.ns fun o q => kk _ o (by decide) (by decide) q, ?_, ⟨ps2, m⟩, ?_, a.drawn.trans T.drawn, a.os.trans T.os⟩ e fun b o hb q => kk b o (ne_T hb) (fun z => by rw [z] at hb; exact absurd hb (by decide)) q
    · by_cases hb : b = A5.T
      · subst hb; exact u _ (T.kp _ _ q)
      · exact kk b y hb (hd_ne q).2.2 (T.kp _ _ q)
    · obtain ⟨o, vs, file, tf, flags, tg, inF, text, tt, op, a, r1, r2, r3, r4, r5, r6, b, r⟩ := T.code
      exact ⟨o, vs, file, tf, flags, tg, inF, text, tt, op, kk _ _ (by decide) (by decide) a, r1, r2, r3, r4, r5, r6, kk _ _ (by decide) (by decide) b, r⟩
    · obtain ⟨k1, e1⟩ := T.gens
      obtain ⟨k2, e2⟩ := a.gens
      exact ⟨k1 + k2, by rw [e2, e1, Array.replicate_append_replicate]⟩

theorem Ts.main (T : Ts H D O mg ps s) (S : St H) (n4 : mg "__builtins__" = some (.ref 4)) : s.heap.Main mg 13 12 ps :=
  ⟨T.ns, T.code, by decide, ⟨4, _, n4, by decide, by decide, by decide, T.kp _ _ S.bm, rfl, rfl, rfl⟩⟩
end

def niN : List Str := ["isinstance", "unicode", "len", "set", "dict", "enumerate"]
theorem NmI.upd {mg : Str → Option Value} (N : NmI mg) {x : Str} {v : Value} (hx : ∀ y ∈ niN, y ≠ x) : NmI (upd mg x v) :=
  ⟨(upd_ne (hx _ (by decide))).trans N.isi, (upd_ne (hx _ (by decide))).trans N.uni, (upd_ne (hx _ (by decide))).trans N.len, (upd_ne (hx _ (by decide))).trans N.set, (upd_ne (hx _ (by decide))).trans N.dict, (upd_ne (hx _ (by decide))).trans N.enum⟩
/-! V6 -/
def litE1 : { st : Stmt // stmtAt 15 = st } := ⟨_, by
  delta stmtAt prog PySem.Challenge.pw_aj5032_01
  dsimp only [List.getElem?_cons_succ, List.getElem?_cons_zero, Option.getD_some]⟩
def litE2 : { st : Stmt // stmtAt 16 = st } := ⟨_, by
  delta stmtAt prog PySem.Challenge.pw_aj5032_01
  dsimp only [List.getElem?_cons_succ, List.getElem?_cons_zero, Option.getD_some]⟩
def litE3 : { st : Stmt // stmtAt 17 = st } := ⟨_, by
  delta stmtAt prog PySem.Challenge.pw_aj5032_01
  dsimp only [List.getElem?_cons_succ, List.getElem?_cons_zero, Option.getD_some]⟩
def litNm : { st : Stmt // stmtAt 18 = st } := ⟨_, by
  delta stmtAt prog PySem.Challenge.pw_aj5032_01
  dsimp only [List.getElem?_cons_succ, List.getElem?_cons_zero, Option.getD_some]⟩
theorem rest_is : bT.drop 15 = [litE1.1, litE2.1, litE3.1, litNm.1, stCell, stPlaces, stTold, stTaken, stLaid, stLaw] := by kernel_rfl

theorem def_T {w : World} {H : Heap} {D : Drawn} {O : OsState} {mg : Str → Option Value} {ps : Array Value} {s : Shared} {A : Around} {Q : Flow → Shared → Prop} {E : Value → Shared → Prop} {name : Str} {params : Arguments} {body : List Stmt} {scope : Scope} {pos : Pos}
    (T : Ts H D O mg ps s) (S : St H) (n4 : mg "__builtins__" = some (.ref 4))
    (k : ∀ s' a c', Ts H D O (upd mg name (.ref a)) (ps ++ #[rawInt pos.line, rawInt pos.col, .ref c']) s' → FnHi s'.heap a (.FunctionDef name params body [] none [] scope none name pos) name → Up s.heap s'.heap → Q .next s')
    (hkw : params.kwonlyargs = [] := by kernel_rfl) (hkd : params.kw_defaults = [] := by kernel_rfl) (hdf : params.defaults = [] := by kernel_rfl) (hann0 : annTrees params none (mainEnv prog 13 14) = [] := by kernel_rfl)
    (hfree : ∀ x ∈ scope.names, x.2 ≠ .free := by decide) (hloc : prog.main.scope.names.lookup name = some .local := by kernel_rfl)
    (hq : qualnameIn { scope := prog.main.scope, locals := mainGlobals, globals := mainGlobals, cells := [] } name name = name := by kernel_rfl) (hdoc : docOf body = none := by kernel_rfl)
    (hnb : name ≠ "__builtins__" := by decide) (hnf : codeAmong pos ps.toList = none := by kernel_rfl) :
    wpAny (M w) A (exec (.FunctionDef name params body [] none [] scope none name pos) envT) Q E s := by
  have h262 : 262 ≤ s.heap.objs.size := let ⟨o, e⟩ := S.top; Heap.lt_size (T.kp _ _ e)
  refine def_ok hkw hkd hdf hann0 hfree hloc hq (T.main S n4) hdoc (fun a c' h' tk ha hm hf hc kp => ?_) hnb hnf
  have up : Up s.heap h' := fun b o hb e => kp b o (fun z => by rw [z] at hb; exact absurd hb (by decide)) (fun z => by rw [z] at hb; exact absurd hb (by decide)) e
  refine k _ a c' ⟨fun b y e => kp b y (hd_ne e).2.1 (hd_ne e).1 (T.kp b y e), hm.g, hm.code, let ⟨ps', t⟩ := T.tm; ⟨ps', t.at' fun b o hb e => kp b o (by rcases hb with rfl | rfl <;> decide) (by rcases hb with rfl | rfl <;> decide) e⟩, T.gens, T.drawn, T.os⟩ ?_ up
  obtain ⟨hc0, cc, o, vs, t, e, x1, x2, x3⟩ := hc
  cases e
  have hc262 := Nat.le_trans h262 hc0
  have ha262 := Nat.le_trans h262 ha
  exact ⟨_, c', ⟨hf, ⟨c', o, vs, t, rfl, ne_T hc262, x1, x2, x3⟩, ne_T ha262⟩, ha262, hc262⟩

/-- the names that the rest of the top stores -/
def newN : List Str := ["h64", "h64big", "bcrypt64", "__name__", "_law_cell", "_law_places", "_law_told", "_law_taken", "_law_laid", "law"]

set_option maxHeartbeats 4000000 in
theorem rest_ok {w : World} {H : Heap} {D : Drawn} {O : OsState} {s : Shared} {A : Around} {Q : Flow → Shared → Prop} {E : Value → Shared → Prop} (S : St H) (T : Ts H D O (H.nsMap mainGlobals) ps12.toArray s) (hh : A.handled = none) (hroom : A.depth + 6 < recursionLimit)
    (k : ∀ s' mg ps fw fc fp ft fo fl x1 x2 x3, Ts H D O mg ps s' → (∀ y, y ∉ newN → mg y = H.nsMap mainGlobals y) → LawNm mg fc fp ft fo fl x1 x2 x3 → LawFn s'.heap fc fp ft fo fl → EngE w s'.heap x1 → EngE w s'.heap x2 → EngE w s'.heap x3 →
      mg "law" = some (.ref fw) → FnE s'.heap fw stLaw "law" → Q .next s') : wpAny (M w) A (execs (bT.drop 15) envT) Q E s := by
  rw [rest_is]
  generalize hmg : H.nsMap mainGlobals = mg at T
  have N : NmI mg := hmg ▸ S.NI
  have n1 : mg "HASH64_CHARS" = some (.str hashS 229) := hmg ▸ S.n1
  have n2 : mg "BCRYPT_CHARS" = some (.str bcryptS 231) := hmg ▸ S.n2
  have n3 : mg "LazyBase64Engine" = some (.ref 259) := hmg ▸ S.n3
  have n4 : mg "__builtins__" = some (.ref 4) := hmg ▸ S.n4
  refine wpAny_execs_cons ?_
  delta litE1
  dsimp only
  refine xAssign (wpAny_Call_NameR ?_)
  refine rdT T n3 ?_
  refine callWith_K (T.x S) S.kp ?_
  refine xItem (rdT T n1 ?_)
  refine wpAny_items_nil ⟨T.x S, ?_⟩
  dsimp only [List.nil_append]
  refine eng_T (big := false) T S hh hroom N n4 chr_hash fun s₁ x1 T₁ e1 u₁ => ?_
  refine stT T₁ (by kernel_rfl) fun h₁ tk₁ T₁ u₁ => ?_
  replace e1 := e1.up u₁
  refine wpAny_execs_cons ?_
  delta litE2
  dsimp only
  refine xAssign (wpAny_Call_Name_kw ?_)
  refine rdT T₁ ((upd_ne (by decide)).trans n3) ?_
  refine callWith_KW (T₁.x S) S.kp rfl ?_
  refine xItem (rdT T₁ ((upd_ne (by decide)).trans n1) ?_)
  refine wpAny_items_nil (kwAll_cons (wpAny_Constant_bool (kwAll_nil ⟨T₁.x S, ?_⟩)))
  dsimp only [List.nil_append]
  refine eng_T (big := true) T₁ S hh hroom (N.upd (by decide)) ((upd_ne (by decide)).trans n4) chr_hash fun s₂ x2 T₂ e2 u₂ => ?_
  replace e1 := e1.up u₂
  refine stT T₂ (by kernel_rfl) fun h₂ tk₂ T₂ u₂ => ?_
  replace e1 := e1.up u₂
  replace e2 := e2.up u₂
  refine wpAny_execs_cons ?_
  delta litE3
  dsimp only
  refine xAssign (wpAny_Call_Name_kw ?_)
  refine rdT T₂ ((upd_ne (by decide)).trans ((upd_ne (by decide)).trans n3)) ?_
  refine callWith_KW (T₂.x S) S.kp rfl ?_
  refine xItem (rdT T₂ ((upd_ne (by decide)).trans ((upd_ne (by decide)).trans n2)) ?_)
  refine wpAny_items_nil (kwAll_cons (wpAny_Constant_bool (kwAll_nil ⟨T₂.x S, ?_⟩)))
  dsimp only [List.nil_append]
  refine eng_T (big := true) T₂ S hh hroom ((N.upd (by decide)).upd (by decide)) ((upd_ne (by decide)).trans ((upd_ne (by decide)).trans n4)) chr_bcrypt fun s₃ x3 T₃ e3 u₃ => ?_
  replace e1 := e1.up u₃
  replace e2 := e2.up u₃
  refine stT T₃ (by kernel_rfl) fun h₃ tk₃ T₃ u₃ => ?_
  replace e1 := e1.up u₃
  replace e2 := e2.up u₃
  replace e3 := e3.up u₃
  refine wpAny_execs_cons ?_
  delta litNm
  dsimp only
  refine xAssign (Constant_str ?_)
  have T₃' : Ts H D O _ _ { s₃ with heap := h₃, toks := tk₃ + 1 } := ⟨T₃.kp, T₃.ns, T₃.code, T₃.tm, T₃.gens, T₃.drawn, T₃.os⟩
  refine stT T₃' (by kernel_rfl) fun h₄ tk₄ T₄ u₄ => ?_
  replace e1 := e1.up u₄
  replace e2 := e2.up u₄
  replace e3 := e3.up u₄
  clear T₃ T₃' u₃ u₂ u₁
  have n4' : ∀ {v1 v2 v3 v4 : Value}, upd (upd (upd (upd mg "h64" v1) "h64big" v2) "bcrypt64" v3) "__name__" v4 "__builtins__" = some (.ref 4) := (upd_ne (by decide)).trans ((upd_ne (by decide)).trans ((upd_ne (by decide)).trans ((upd_ne (by decide)).trans n4)))
  refine wpAny_execs_cons ?_
  delta stCell litCell
  dsimp only
  refine def_T T₄ S n4' fun s₅ fc c₅ T₅ f1 u₅ => ?_
  replace e1 := e1.up u₅
  replace e2 := e2.up u₅
  replace e3 := e3.up u₅
  replace f1 : FnHi s₅.heap fc stCell "_law_cell" := f1
  have n5 := (upd_ne (x := ("_law_cell" : Str)) (v := Value.ref fc) (y := ("__builtins__" : Str)) (by decide)).trans (n4' (v1 := .ref x1) (v2 := .ref x2) (v3 := .ref x3) (v4 := .str "law_aj5032_01" tk₃))
  refine wpAny_execs_cons ?_
  delta stPlaces litPlaces
  dsimp only
  refine def_T T₅ S n5 fun s₆ fp c₆ T₆ f2 u₆ => ?_
  replace f2 : FnHi s₆.heap fp stPlaces "_law_places" := f2
  have n6 := (upd_ne (x := ("_law_places" : Str)) (v := Value.ref fp) (y := ("__builtins__" : Str)) (by decide)).trans n5
  replace e1 := e1.up u₆
  replace e2 := e2.up u₆
  replace e3 := e3.up u₆
  replace f1 := f1.up u₆
  refine wpAny_execs_cons ?_
  delta stTold litTold
  dsimp only
  refine def_T T₆ S n6 fun s₇ fo c₇ T₇ f3 u₇ => ?_
  replace f3 : FnHi s₇.heap fo stTold "_law_told" := f3
  have n7 := (upd_ne (x := ("_law_told" : Str)) (v := Value.ref fo) (y := ("__builtins__" : Str)) (by decide)).trans n6
  replace e1 := e1.up u₇
  replace e2 := e2.up u₇
  replace e3 := e3.up u₇
  replace f1 := f1.up u₇
  replace f2 := f2.up u₇
  refine wpAny_execs_cons ?_
  delta stTaken litTaken
  dsimp only
  refine def_T T₇ S n7 fun s₈ ft c₈ T₈ f4 u₈ => ?_
  replace f4 : FnHi s₈.heap ft stTaken "_law_taken" := f4
  have n8 := (upd_ne (x := ("_law_taken" : Str)) (v := Value.ref ft) (y := ("__builtins__" : Str)) (by decide)).trans n7
  replace e1 := e1.up u₈
  replace e2 := e2.up u₈
  replace e3 := e3.up u₈
  replace f1 := f1.up u₈
  replace f2 := f2.up u₈
  replace f3 := f3.up u₈
  refine wpAny_execs_cons ?_
  delta stLaid litLaid
  dsimp only
  refine def_T T₈ S n8 fun s₉ fl c₉ T₉ f5 u₉ => ?_
  replace f5 : FnHi s₉.heap fl stLaid "_law_laid" := f5
  have n9 := (upd_ne (x := ("_law_laid" : Str)) (v := Value.ref fl) (y := ("__builtins__" : Str)) (by decide)).trans n8
  replace e1 := e1.up u₉
  replace e2 := e2.up u₉
  replace e3 := e3.up u₉
  replace f1 := f1.up u₉
  replace f2 := f2.up u₉
  replace f3 := f3.up u₉
  replace f4 := f4.up u₉
  refine wpAny_execs_cons ?_
  delta stLaw litLaw
  dsimp only
  refine def_T T₉ S n9 fun s₁₀ fw c₁₀ T₁₀ f6 u₁₀ => ?_
  replace f6 : FnHi s₁₀.heap fw stLaw "law" := f6
  have n10 := (upd_ne (x := ("law" : Str)) (v := Value.ref fw) (y := ("__builtins__" : Str)) (by decide)).trans n9
  replace e1 := e1.up u₁₀
  replace e2 := e2.up u₁₀
  replace e3 := e3.up u₁₀
  replace f1 := f1.up u₁₀
  replace f2 := f2.up u₁₀
  replace f3 := f3.up u₁₀
  replace f4 := f4.up u₁₀
  replace f5 := f5.up u₁₀
  refine wpAny_execs_nil ?_
  refine k s₁₀ _ _ fw fc fp ft fo fl x1 x2 x3 T₁₀ (fun y hy => ?_) ⟨by walk_at "lk", by walk_at "lk", by walk_at "lk", by walk_at "lk", by walk_at "lk", by walk_at "lk", by walk_at "lk", by walk_at "lk"⟩ ⟨f1.e, f2.e, f4.e, f3.e, f5.e⟩ e1 e2 e3 (by walk_at "lk") f6.e
  have ne : ∀ x ∈ newN, y ≠ x := fun x hx q => hy (q ▸ hx)
  rw [hmg]
  repeat refine (upd_ne (ne _ (by decide))).trans ?_
  rfl
/-! V7 -/
def topA : Around := { depth := 400, units := 100 }
theorem top_in : (Ctx.of cT [topFrame qT]).In topA :=
  ⟨rfl, (by decide +kernel), fun l hl => (nomatch hl), fun g hg => (nomatch hg), (by decide +kernel)⟩

theorem mods_none : importedModules prog.main.body = [] := by kernel_rfl
theorem ann_boot : ∀ P : Params, globalOf (boot_heap P) "__annotations__" = some (.ref 6) := by intro P; kernel_rfl
theorem size_boot : ∀ P : Params, (boot_heap P).objs.size = 11 := by intro P; kernel_rfl
theorem new_bound : (newN.all fun x => startupNames.contains x || prog.boundNames.contains x) = true := by decide +kernel
theorem law_def : prog.theDef "law" = some (fnArgs stLaw, fnBody stLaw, fnScope stLaw) := by kernel_rfl

theorem top_ran (w : World) (os : OsState) (hz : (s0 w os).asleep) : ∃ s₁ K mg mb fw fc fp ft fo fl x1 x2 x3, TopRan prog w (s0 w os) s₁ ∧ TopOk w s₁.heap K mg mb fw fc fp ft fo fl x1 x2 x3 ∧ s₁.asleep ∧
    (∀ g ∈ s₁.gens, match g with | .finished => True | _ => False) ∧ isTheDefsW prog s₁.heap "law" := by
  obtain ⟨s, p, g, kb, ok, gs, sn⟩ := start14 w os hz
  have S := st_of ok sn
  have z14 := Shared.asleep_of_life kb.life hz
  unfold okB at ok
  simp only [Bool.and_eq_true] at ok
  obtain ⟨⟨⟨⟨⟨⟨⟨⟨⟨⟨⟨⟨⟨⟨⟨⟨⟨⟨⟨⟨⟨⟨⟨⟨k1, k2⟩, k3⟩, k4⟩, k5⟩, k6⟩, k7⟩, k8⟩, r1⟩, r2⟩, r3⟩, r4⟩, r5⟩, r6⟩, r7⟩, r8⟩, r9⟩, r10⟩, c1⟩, c2⟩, c3⟩, d1⟩, d2⟩, d3⟩, d4⟩ := ok
  have blt : s.heap.bltView = bltViewBooted := congrArg (fun x => x.2.2.2.2.2.2) sn
  have T0 : Ts s.heap s.drawn s.os (s.heap.nsMap mainGlobals) ps12.toArray s := ⟨fun b x e => hd_of e, S.g, S.main, S.tm, ⟨0, by rw [Array.eq_empty_of_size_eq_zero gs]; rfl⟩, rfl, rfl⟩
  obtain ⟨s₁, t', g', ht, ⟨mg, ps, fw, fc, fp, ft, fo, fl, x1, x2, x3, T, hN, nm, fn, e1, e2, e3, lw, lf⟩, hl⟩ := rest_through (p := prog) (w := w) (A := topA) (s := s) (rest := bT.drop 15) (env := envT) (c := cT) (pos := p) (q := qT)
    (P := fun s' => ∃ mg ps fw fc fp ft fo fl x1 x2 x3, Ts s.heap s.drawn s.os mg ps s' ∧ (∀ y, y ∉ newN → mg y = s.heap.nsMap mainGlobals y) ∧ LawNm mg fc fp ft fo fl x1 x2 x3 ∧ LawFn s'.heap fc fp ft fo fl ∧ EngE w s'.heap x1 ∧ EngE w s'.heap x2 ∧ EngE w s'.heap x3 ∧
      mg "law" = some (.ref fw) ∧ FnE s'.heap fw stLaw "law") z14 top_in
    (rest_ok S T0 rfl (by decide +kernel) fun s' mg ps fw fc fp ft fo fl x1 x2 x3 T hN nm fn e1 e2 e3 lw lf => ⟨rfl, ⟨mg, ps, fw, fc, fp, ft, fo, fl, x1, x2, x3, T, hN, nm, fn, e1, e2, e3, lw, lf⟩, fun g hg => by
      obtain ⟨k, e⟩ := T.gens
      rw [e] at hg
      rw [(Array.mem_replicate.mp hg).2]; rfl⟩)
  have hgens : ∀ g ∈ s₁.gens, match g with | .finished => True | _ => False := fun g hg => by
    obtain ⟨k, e⟩ := T.gens
    rw [e] at hg
    rw [(Array.mem_replicate.mp hg).2]; trivial
  have glob : ∀ x, globalOf s₁.heap x = mg x := fun x => Claim2Try.globalOf_of_ns T.ns x
  have n4 : mg "__builtins__" = some (.ref 4) := (hN _ (by decide)).trans S.n4
  have low : ∀ b o, b ∉ [3, 12, 52] → s.heap.get? b = some o → s₁.heap.get? b = some o := fun b o hb e => T.kp b o (hd_in hb e)
  have hst : ∀ key, staticOf s₁.heap key = staticOf s.heap key := fun key => by
    obtain ⟨o, es, ep, ho, _⟩ := Heap.Ns.of_isNs k3
    unfold staticOf
    rw [ho, low _ o (by decide) ho]
  have hst' : staticOf s₁.heap = staticOf s.heap := funext hst
  have hbo : ∀ key, builtinOf s₁.heap key = builtinOf s.heap key := fun key => by
    obtain ⟨o, es, ep, ho, _⟩ := Heap.Ns.of_isNs k2
    unfold builtinOf
    rw [ho, low _ o (by decide) ho]
  have aS : AdvH (Hd s.heap) s₁.gens s₁.drawn s₁.os s₁.heap s₁.gens s₁.drawn s₁.os := AdvH.ext T.kp
  have tran : TopRan prog w (s0 w os) s₁ := by
    obtain ⟨n, hn⟩ := g.trans g'
    refine ⟨⟨n, t', hn, ht⟩, hl.trans kb.life, Shared.rest_eq (T.os.trans kb.os), fun b o e hb => ?_, ?_, ?_, Pin.keysAreStrs_of_ns T.ns, fun x hx => ?_, ⟨4, _, (glob _).trans n4, T.kp _ _ S.bm, rfl, rfl⟩, hgens, fun x v hv => ?_, fun x hx => ?_⟩
    · have hlt : b < 11 := by
        have := Heap.lt_size e
        rwa [show (s0 w os).heap.objs.size = 11 from size_boot _] at this
      have hb3 : b ≠ mainNs := fun q => hb (.inl q)
      refine low b o ?_ (kb.fr b o hlt hb3 (fun q => hb (.inr (.inl q))) (fun q => hb (.inr (.inr ?_))) e)
      · simp only [List.mem_cons, List.not_mem_nil, or_false, not_or]
        exact ⟨hb3, Nat.ne_of_lt (Nat.lt_succ_of_lt hlt), Nat.ne_of_lt (Nat.lt_trans hlt (by decide))⟩
      · rw [← q]; exact ann_boot _
    · rw [mods_none]
      have := Heap.accountedI_of_ok k7
      unfold staticsAccountedI at this ⊢
      rw [hst']
      exact this
    · rw [mods_none]
      have := statics_of_ok k4
      unfold staticsBehindTheTop at this ⊢
      rw [hst']
      exact this
    · rw [hbo]
      exact (Pin.builtinOf_eq k2 x).trans (Heap.of_bltView k2 blt x hx)
    · rw [glob] at hv
      by_cases hx : x ∈ newN
      · have := List.all_eq_true.mp new_bound x hx
        simpa only [Bool.or_eq_true, List.contains_iff_mem] using this
      · rw [hN x hx, ← Pin.globalOf_eq k1] at hv
        exact names_of_bound k5 x v hv
    · have hx' : x ∉ newN := by
        intro q
        have : (laidNames.all fun x => !newN.contains x) = true := by decide +kernel
        have := List.all_eq_true.mp this x hx
        simp only [Bool.not_eq_true'] at this
        rw [List.contains_iff_mem.mpr q] at this
        cases this
      rw [glob, hN x hx', ← Pin.globalOf_eq k1]
      exact laid_of_kept k6 x hx
  refine ⟨s₁, Kof s.heap, mg, s.heap.nsMap builtinsNs, fw, fc, fp, ft, fo, fl, x1, x2, x3, tran, ?_, Shared.asleep_of_life hl z14, hgens, ?_⟩
  · exact {
      G := T.gl S
      N := { isi := (hN _ (by decide)).trans S.N.isi, bytes := (hN _ (by decide)).trans S.N.bytes, len := (hN _ (by decide)).trans S.N.len, divmod := (hN _ (by decide)).trans S.N.divmod, iter := (hN _ (by decide)).trans S.N.iter, range := (hN _ (by decide)).trans S.N.range, zip := (hN _ (by decide)).trans S.N.zip,
             min := (hN _ (by decide)).trans S.N.min, max := (hN _ (by decide)).trans S.N.max, ie := (hN _ (by decide)).trans S.N.ie, te := (hN _ (by decide)).trans S.N.te, py3 := (hN _ (by decide)).trans S.N.py3, nxt := (hN _ (by decide)).trans S.N.nxt, jbe := (hN _ (by decide)).trans S.N.jbe,
             jbv := (hN _ (by decide)).trans S.N.jbv, imap := (hN _ (by decide)).trans S.N.imap }
      C := S.Cl, X := T.x S, F := S.F.adv aS, bm := ⟨4, _, n4, by decide, by decide, T.kp _ _ S.bm, rfl, rfl, rfl⟩, tab := TabOk.keeps S.tab T.kp, M := S.M.adv aS, nm := nm, fn := fn, e1 := e1, e2 := e2, e3 := e3, law := lw, lawF := lf }
  · obtain ⟨pm, code, f⟩ := lf
    exact ⟨fw, _, fd stLaw "law" pm code, fnArgs stLaw, fnBody stLaw, fnScope stLaw, (glob _).trans lw, f.obj, rfl, law_def, by kernel_rfl, rfl, rfl, rfl, rfl, rfl, rfl, rfl, .inl ⟨by kernel_rfl, rfl⟩, [], by kernel_rfl, .inl ⟨rfl, rfl⟩⟩
/-! V8 -/
theorem open_is : opening prog = plainProg prog.main.scope.names := rfl
theorem fence_is : ∀ s, fenceModules? prog s = some s := fun _ => rfl
theorem holds_by : row.toRowW.claim.HoldsOpenBy (callStub row.name) (if row.pinned then [row.name] else []) row.keeps row.writes → row.wellSaid = true → row.toRowW.promised → row.Holds := fun a b c => ⟨b, c, a⟩

theorem open_ok (hp : row.toRowW.promised) : row.toRowW.claim.HoldsOpenBy (callStub row.name) (if row.pinned then [row.name] else []) row.keeps row.writes := by
  refine ⟨⟨⟨rfl, rfl, rfl, rfl, rfl, by decide +kernel⟩, by decide +kernel, rfl⟩, hp.witness, fun w => ?_⟩
  have hb := boot_open (p := prog) (N := 600) open_is rfl fence_is w
  rw [← table_eq_tree] at hb
  obtain ⟨s₀, h2, e⟩ := Option.map_eq_some_iff.mp hb
  obtain ⟨s, h4, h5⟩ := Option.bind_eq_some_iff.mp h2
  have A := AfterImport.of_importEnds h4
  refine ⟨⟨s, A⟩, fun s' hs' => ?_⟩
  obtain rfl : s' = s := AfterImport.unique hs' A
  have z : s₀.asleep := Shared.asleep_of_life (fence_lifeW h5) A.life
  obtain ⟨e1, e⟩ := Prod.mk.inj e
  obtain ⟨e2, e⟩ := Prod.mk.inj e
  obtain ⟨e3, e4⟩ := Prod.mk.inj e
  obtain ⟨hp', g, d, tk, os⟩ := s₀
  dsimp only at e1 e2 e3 e4
  subst e1 e2 e3 e4
  obtain ⟨s₁, K, mg, mb, fw, fc, fp, ft, fo, fl, x1, x2, x3, R, T, hz, hg, hd⟩ := top_ran w os z
  refine ⟨_, h5, rfl, s₁, R, fun n hn => ?_, fun x hx => (nomatch hx), fun x hx => (nomatch hx), law_call T hz hg fun h' q => (nomatch q)⟩
  obtain rfl : n = row.name := by split at hn <;> simp_all
  exact hd
end A5

set_option maxHeartbeats 8000000 in
theorem PySem.Challenge.cw_aj5032_01_holds : PySem.Challenge.rw_aj5032_01.Holds := by
  w_on
  o_law
  rename_i said
  refine A5.holds_by (A5.open_ok ?_) said ?_
  · w_witness2
  · w_witness2
