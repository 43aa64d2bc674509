import PyProof.Rows.All
import Wide.All
import OpenK.AllK
import Wide.FinOn
import Lean
import PySem.Challenge.RW_oc0234_01
open PySem PySem.W PySem.Calls PySem.Spec PyProof.Rows
set_option Elab.async false
set_option maxRecDepth 100000
set_option linter.all false
namespace Mine
noncomputable abbrev prog : Program := PySem.Challenge.pw_oc0234_01

inductive Ex2 {A1 A2 : Type} (P : A1 → A2 → Prop) : Prop
  | mk (a1 : A1) (a2 : A2) (h : P a1 a2) : Ex2 P
inductive Ex3 {A1 A2 A3 : Type} (P : A1 → A2 → A3 → Prop) : Prop
  | mk (a1 : A1) (a2 : A2) (a3 : A3) (h : P a1 a2 a3) : Ex3 P
inductive Ex4 {A1 A2 A3 A4 : Type} (P : A1 → A2 → A3 → A4 → Prop) : Prop
  | mk (a1 : A1) (a2 : A2) (a3 : A3) (a4 : A4) (h : P a1 a2 a3 a4) : Ex4 P
inductive Ex5 {A1 A2 A3 A4 A5 : Type} (P : A1 → A2 → A3 → A4 → A5 → Prop) : Prop
  | mk (a1 : A1) (a2 : A2) (a3 : A3) (a4 : A4) (a5 : A5) (h : P a1 a2 a3 a4 a5) : Ex5 P
inductive Ex6 {A1 A2 A3 A4 A5 A6 : Type} (P : A1 → A2 → A3 → A4 → A5 → A6 → Prop) : Prop
  | mk (a1 : A1) (a2 : A2) (a3 : A3) (a4 : A4) (a5 : A5) (a6 : A6) (h : P a1 a2 a3 a4 a5 a6) : Ex6 P
inductive Ex8 {A1 A2 A3 A4 A5 A6 A7 A8 : Type} (P : A1 → A2 → A3 → A4 → A5 → A6 → A7 → A8 → Prop) : Prop
  | mk (a1 : A1) (a2 : A2) (a3 : A3) (a4 : A4) (a5 : A5) (a6 : A6) (a7 : A7) (a8 : A8) (h : P a1 a2 a3 a4 a5 a6 a7 a8) : Ex8 P
inductive Ex9 {A1 A2 A3 A4 A5 A6 A7 A8 A9 : Type} (P : A1 → A2 → A3 → A4 → A5 → A6 → A7 → A8 → A9 → Prop) : Prop
  | mk (a1 : A1) (a2 : A2) (a3 : A3) (a4 : A4) (a5 : A5) (a6 : A6) (a7 : A7) (a8 : A8) (a9 : A9) (h : P a1 a2 a3 a4 a5 a6 a7 a8 a9) : Ex9 P
inductive Ex10 {A1 A2 A3 A4 A5 A6 A7 A8 A9 A10 : Type} (P : A1 → A2 → A3 → A4 → A5 → A6 → A7 → A8 → A9 → A10 → Prop) : Prop
  | mk (a1 : A1) (a2 : A2) (a3 : A3) (a4 : A4) (a5 : A5) (a6 : A6) (a7 : A7) (a8 : A8) (a9 : A9) (a10 : A10) (h : P a1 a2 a3 a4 a5 a6 a7 a8 a9 a10) : Ex10 P
inductive Ex11 {A1 A2 A3 A4 A5 A6 A7 A8 A9 A10 A11 : Type} (P : A1 → A2 → A3 → A4 → A5 → A6 → A7 → A8 → A9 → A10 → A11 → Prop) : Prop
  | mk (a1 : A1) (a2 : A2) (a3 : A3) (a4 : A4) (a5 : A5) (a6 : A6) (a7 : A7) (a8 : A8) (a9 : A9) (a10 : A10) (a11 : A11) (h : P a1 a2 a3 a4 a5 a6 a7 a8 a9 a10 a11) : Ex11 P
inductive An2 (p1 p2 : Prop) : Prop
  | mk (h1 : p1) (h2 : p2) : An2 p1 p2
inductive An3 (p1 p2 p3 : Prop) : Prop
  | mk (h1 : p1) (h2 : p2) (h3 : p3) : An3 p1 p2 p3
inductive An4 (p1 p2 p3 p4 : Prop) : Prop
  | mk (h1 : p1) (h2 : p2) (h3 : p3) (h4 : p4) : An4 p1 p2 p3 p4
inductive An5 (p1 p2 p3 p4 p5 : Prop) : Prop
  | mk (h1 : p1) (h2 : p2) (h3 : p3) (h4 : p4) (h5 : p5) : An5 p1 p2 p3 p4 p5
inductive An6 (p1 p2 p3 p4 p5 p6 : Prop) : Prop
  | mk (h1 : p1) (h2 : p2) (h3 : p3) (h4 : p4) (h5 : p5) (h6 : p6) : An6 p1 p2 p3 p4 p5 p6
inductive An7 (p1 p2 p3 p4 p5 p6 p7 : Prop) : Prop
  | mk (h1 : p1) (h2 : p2) (h3 : p3) (h4 : p4) (h5 : p5) (h6 : p6) (h7 : p7) : An7 p1 p2 p3 p4 p5 p6 p7
noncomputable abbrev nextQ (w : World) (A : Around) (E : Value → Shared → Prop) (env : Env) (rest : List Stmt) (Q : Flow → Shared → Prop) : Flow → Shared → Prop := fun f s' => match f with
  | .next => wpAny (model prog w) A (execs rest env) Q E s'
  | f => Q f s'
noncomputable abbrev donQ (Q : Flow → Shared → Prop) : Unit → Shared → Prop := fun _ => Q .next
noncomputable abbrev discQ (Q : Flow → Shared → Prop) : Value → Shared → Prop := fun _ => Q .next
noncomputable abbrev notQ (Q : Bool → Shared → Prop) : Bool → Shared → Prop := fun c s' => Q (!c) s'
noncomputable abbrev stQ (w : World) (A : Around) (E : Value → Shared → Prop) (env : Env) (x : Str) (Q : Flow → Shared → Prop) : Value → Shared → Prop := fun v s₁ => wpAny (model prog w) A (storeName env x v) (donQ Q) E s₁
noncomputable abbrev cwQ (w : World) (A : Around) (E : Value → Shared → Prop) (pos : Pos) (args : List Expr) (env : Env) (Q : Value → Shared → Prop) : Value → Shared → Prop := fun f s₁ => wpAny (model prog w) A (callWith pos f [] (backTo pos (starEach args env)) []) Q E s₁
noncomputable abbrev gm2Q (w : World) (A : Around) (E : Value → Shared → Prop) (pos : Pos) (args : List Expr) (env : Env) (Q : Value → Shared → Prop) : Value × List Value → Shared → Prop := fun fx s₂ => wpAny (model prog w) A (callWith pos fx.1 fx.2 (backTo pos (starEach args env)) []) Q E s₂
noncomputable abbrev unQ (w : World) (A : Around) (E : Value → Shared → Prop) (op : UnaryOp) (Q : Value → Shared → Prop) : Value → Shared → Prop := fun v s₁ => wpAny (model prog w) A (unaryOp op v) Q E s₁
noncomputable abbrev gaQ (w : World) (A : Around) (E : Value → Shared → Prop) (attr : Str) (Q : Value → Shared → Prop) : Value → Shared → Prop := fun o s₁ => wpAny (model prog w) A (getAttr o attr true) Q E s₁
noncomputable abbrev as3Q (w : World) (A : Around) (E : Value → Shared → Prop) (v ov : Value) (Q : Flow → Shared → Prop) : Value → Shared → Prop := fun iv s₃ => wpAny (model prog w) A (setItem ov iv v) (donQ Q) E s₃
noncomputable abbrev as2Q (w : World) (A : Around) (E : Value → Shared → Prop) (i : Expr) (env : Env) (v : Value) (Q : Flow → Shared → Prop) : Value → Shared → Prop := fun ov s₂ => wpAny (model prog w) A (eval i env) (as3Q w A E v ov Q) E s₂
noncomputable abbrev as1Q (w : World) (A : Around) (E : Value → Shared → Prop) (o i : Expr) (env : Env) (Q : Flow → Shared → Prop) : Value → Shared → Prop := fun v s₁ => wpAny (model prog w) A (eval o env) (as2Q w A E i env v Q) E s₁
noncomputable abbrev au2Q (w : World) (A : Around) (E : Value → Shared → Prop) (env : Env) (x : Str) (op : Operator) (old : Value) (Q : Flow → Shared → Prop) : Value → Shared → Prop := fun v s₂ => wpAny (model prog w) A (inplaceOp op old v) (stQ w A E env x Q) E s₂
noncomputable abbrev au1Q (w : World) (A : Around) (E : Value → Shared → Prop) (env : Env) (x : Str) (op : Operator) (value : Expr) (Q : Flow → Shared → Prop) : Value → Shared → Prop := fun old s₁ => wpAny (model prog w) A (eval value env) (au2Q w A E env x op old Q) E s₁
noncomputable abbrev dfQ (w : World) (A : Around) (E : Value → Shared → Prop) (f : Addr) (o : Obj) (Q : Value → Shared → Prop) : List Value → Shared → Prop := fun vs s₁ => s₁.heap.get? f = some o ∧ wpAny (model prog w) A (call (.ref f) vs) Q E s₁
noncomputable abbrev gmQ (w : World) (A : Around) (E : Value → Shared → Prop) (name : Str) (pl : Sem Bool) (pos : Pos) (args : List Expr) (env : Env) (Q : Value → Shared → Prop) : Value → Shared → Prop := fun ov s₁ => wpAny (model prog w) A (getMethod ov name pl) (gm2Q w A E pos args env Q) E s₁
noncomputable abbrev bo2Q (w : World) (A : Around) (E : Value → Shared → Prop) (op : Operator) (a : Value) (Q : Value → Shared → Prop) : Value → Shared → Prop := fun b s₂ => wpAny (model prog w) A (binaryOp op a b) Q E s₂
noncomputable abbrev bo1Q (w : World) (A : Around) (E : Value → Shared → Prop) (r : Expr) (env : Env) (op : Operator) (Q : Value → Shared → Prop) : Value → Shared → Prop := fun a s₁ => wpAny (model prog w) A (eval r env) (bo2Q w A E op a Q) E s₁
noncomputable abbrev cm2Q (w : World) (A : Around) (E : Value → Shared → Prop) (op : CmpOp) (a : Value) (Q : Value → Shared → Prop) : Value → Shared → Prop := fun b s₂ => wpAny (model prog w) A (compareOp op a b) Q E s₂
noncomputable abbrev cm1Q (w : World) (A : Around) (E : Value → Shared → Prop) (r : Expr) (env : Env) (op : CmpOp) (Q : Value → Shared → Prop) : Value → Shared → Prop := fun a s₁ => wpAny (model prog w) A (eval r env) (cm2Q w A E op a Q) E s₁
noncomputable abbrev trQ (w : World) (A : Around) (E : Value → Shared → Prop) (Q : Bool → Shared → Prop) : Value → Shared → Prop := fun c s₃ => wpAny (model prog w) A (truthy c) Q E s₃
noncomputable abbrev ifQ (w : World) (A : Around) (E : Value → Shared → Prop) (body orelse : List Stmt) (env : Env) (Q : Flow → Shared → Prop) : Bool → Shared → Prop := fun b s₂ => if b then wpAny (model prog w) A (execs body env) Q E s₂ else wpAny (model prog w) A (execs orelse env) Q E s₂
noncomputable abbrev ieQ (w : World) (A : Around) (E : Value → Shared → Prop) (body orelse : Expr) (env : Env) (Q : Value → Shared → Prop) : Bool → Shared → Prop := fun b s₂ => if b then wpAny (model prog w) A (eval body env) Q E s₂ else wpAny (model prog w) A (eval orelse env) Q E s₂
noncomputable abbrev consQ (v : Value) (Q : List Value → Shared → Prop) : List Value → Shared → Prop := fun vs s₂ => Q (v :: vs) s₂
noncomputable abbrev argQ (w : World) (A : Around) (E : Value → Shared → Prop) (pos : Pos) (rest : List Expr) (env : Env) (Q : List Value → Shared → Prop) : Value → Shared → Prop := fun v s₁ => wpAny (model prog w) A (spliced (backTo pos (starEach rest env))) (consQ v Q) E s₁
noncomputable abbrev biQ (w : World) (A : Around) (E : Value → Shared → Prop) (id : String) (first : List Value) (Q : Value → Shared → Prop) : List Value → Shared → Prop := fun vs s₁ => wpAny (model prog w) A (call (.builtin id) (first ++ vs)) Q E s₁
noncomputable abbrev tyQ (w : World) (A : Around) (E : Value → Shared → Prop) (T : String) (Q : Value → Shared → Prop) : List Value → Shared → Prop := fun vs s₁ => wpAny (model prog w) A (call (.type T) vs) Q E s₁
noncomputable abbrev sb2Q (w : World) (A : Around) (E : Value → Shared → Prop) (value slice : Expr) (o : Value) (Q : Value → Shared → Prop) : Value → Shared → Prop := fun i s₂ => wpAny (model prog w) A (subscriptTail value slice o i) Q E s₂
noncomputable abbrev sb1Q (w : World) (A : Around) (E : Value → Shared → Prop) (value slice : Expr) (env : Env) (Q : Value → Shared → Prop) : Value → Shared → Prop := fun o s₁ => wpAny (model prog w) A (eval slice env) (sb2Q w A E value slice o Q) E s₁
section
variable {w : World} {A : Around} {E : Value → Shared → Prop} {s : Shared} {env : Env}
theorem wpAny_Assign_Name {x : Str} {pos' : Pos} {value : Expr} {pos : Pos} {Q : Flow → Shared → Prop} (h : wpAny (model prog w) A (eval value env) (stQ w A E env x Q) E s)
    (hs : swapsWith value (some (.Name x pos')) pos.line env = pure false := by rfl) : wpAny (model prog w) A (exec (.Assign [.Name x pos'] value pos) env) Q E s := PySem.wpAny_Assign_Name h hs
theorem wpAny_BinOp {l : Expr} {op : Operator} {r : Expr} {pos : Pos} {Q : Value → Shared → Prop} (h : wpAny (model prog w) A (eval l env) (bo1Q w A E r env op Q) E s) : wpAny (model prog w) A (eval (.BinOp l op r pos) env) Q E s := PySem.wpAny_BinOp h
theorem wpAny_Compare1 {l : Expr} {op : CmpOp} {r : Expr} {pos : Pos} {Q : Value → Shared → Prop} (h : wpAny (model prog w) A (eval l env) (cm1Q w A E r env op Q) E s) (hm : behindInMarks op r = false := by with_unfolding_all rfl) :
    wpAny (model prog w) A (eval (.Compare l [op] [r] pos) env) Q E s := PySem.wpAny_Compare1 h hm
theorem wpAny_isTrue_Compare1 {l : Expr} {op : CmpOp} {r : Expr} {pos : Pos} {whole : Sem Value} {Q : Bool → Shared → Prop} (h : wpAny (model prog w) A (eval l env) (cm1Q w A E r env op (trQ w A E Q)) E s) (hm : behindInMarks op r = false := by with_unfolding_all rfl) :
    wpAny (model prog w) A (isTrue (.Compare l [op] [r] pos) env whole) Q E s := PySem.wpAny_isTrue_Compare1 h hm
theorem wpAny_If {test : Expr} {body orelse : List Stmt} {pos : Pos} {Q : Flow → Shared → Prop} (h : wpAny (model prog w) A (isTrue test env (eval test env)) (ifQ w A E body orelse env Q) E s) : wpAny (model prog w) A (exec (.If test body orelse pos) env) Q E s := PySem.wpAny_If h
theorem wpAny_IfExp {test body orelse : Expr} {pos : Pos} {Q : Value → Shared → Prop} (h : wpAny (model prog w) A (isTrue test env (eval test env)) (ieQ w A E body orelse env Q) E s) : wpAny (model prog w) A (eval (.IfExp test body orelse pos) env) Q E s := PySem.wpAny_IfExp h
theorem Call_ {func : Expr} {args : List Expr} {pos : Pos} {Q : Value → Shared → Prop} (h : wpAny (model prog w) A (eval func env) (cwQ w A E pos args env Q) E s)
    (he : eval (.Call func args [] pos) env = (do callWith pos (← eval func env) [] (backTo pos (starEach args env)) (backToKw pos (keywordEach [] env))) := by rfl) : wpAny (model prog w) A (eval (.Call func args [] pos) env) Q E s := PyProof.Rows.Call_ h he
theorem spliced_more {e : Expr} {rest : List Expr} {pos : Pos} {Q : List Value → Shared → Prop} (h : wpAny (model prog w) A (eval e env) (argQ w A E pos rest env Q) E s) (he : starEach (e :: rest) env = (false, eval e env) :: starEach rest env := by rfl) :
    wpAny (model prog w) A (spliced (backTo pos (starEach (e :: rest) env))) Q E s := PyProof.Rows.spliced_more h he
theorem args_cons {e : Expr} {rest : List Expr} {pos : Pos} {Q : List Value → Shared → Prop} (h : wpAny (model prog w) A (eval e env) (argQ w A E pos rest env Q) E s) (he : starEach (e :: rest) env = (false, eval e env) :: starEach rest env := by rfl) :
    wpAny (model prog w) A (spliced (backTo pos (starEach (e :: rest) env))) Q E s := PyProof.Rows.spliced_more h he
theorem callWith_method1 {pos : Pos} {id : String} {first : List Value} {e : Expr} {rest : List Expr} {Q : Value → Shared → Prop} (h : wpAny (model prog w) A (spliced (backTo pos (starEach (e :: rest) env))) (biQ w A E id first Q) E s)
    (he : starEach (e :: rest) env = (false, eval e env) :: starEach rest env := by rfl) (hp : (backTo pos (starEach rest env)).any (·.1) = false := by rfl) :
    wpAny (model prog w) A (callWith pos (.builtin id) first (backTo pos (starEach (e :: rest) env)) []) Q E s := PyProof.Rows.callWith_method1 h he hp
theorem callWith_type1 {pos : Pos} {T : String} {e : Expr} {rest : List Expr} {Q : Value → Shared → Prop} (h : wpAny (model prog w) A (spliced (backTo pos (starEach (e :: rest) env))) (tyQ w A E T Q) E s)
    (he : starEach (e :: rest) env = (false, eval e env) :: starEach rest env := by rfl) (hp : (backTo pos (starEach rest env)).any (·.1) = false := by rfl) :
    wpAny (model prog w) A (callWith pos (.type T) [] (backTo pos (starEach (e :: rest) env)) []) Q E s := PyProof.Rows.callWith_type1 h he hp
theorem Subscript_ {value slice : Expr} {pos : Pos} {Q : Value → Shared → Prop} (h : wpAny (model prog w) A (eval value env) (sb1Q w A E value slice env Q) E s) : wpAny (model prog w) A (eval (.Subscript value slice pos) env) Q E s := PyProof.Rows.Subscript_ h
theorem UnaryOp_ {op : UnaryOp} {x : Expr} {pos : Pos} {Q : Value → Shared → Prop} (h : wpAny (model prog w) A (eval x env) (unQ w A E op Q) E s) : wpAny (model prog w) A (eval (.UnaryOp op x pos) env) Q E s := PyProof.Rows.UnaryOp_ h
theorem isTrue_not {x : Expr} {pos : Pos} {whole : Sem Value} {Q : Bool → Shared → Prop} (h : wpAny (model prog w) A (isTrue x env (eval x env)) (notQ Q) E s) : wpAny (model prog w) A (isTrue (.UnaryOp .Not x pos) env whole) Q E s := PyProof.Rows.isTrue_not h
theorem isTrue_plain {e : Expr} {whole : Sem Value} {Q : Bool → Shared → Prop} (h : wpAny (model prog w) A whole (trQ w A E Q) E s) (he : isTrue e env whole = (do let v ← whole; standAt e.pos; holding [v] (truthy v)) := by rfl) : wpAny (model prog w) A (isTrue e env whole) Q E s := PyProof.Rows.isTrue_plain h he
theorem wpAny_Assign_Subscript {o i : Expr} {pos' : Pos} {value : Expr} {pos : Pos} {Q : Flow → Shared → Prop} (h : wpAny (model prog w) A (eval value env) (as1Q w A E o i env Q) E s) (hs : swapsWith value (some (.Subscript o i pos')) pos.line env = pure false := by rfl) :
    wpAny (model prog w) A (exec (.Assign [.Subscript o i pos'] value pos) env) Q E s := PySem.wpAny_Assign_Subscript h hs
theorem wpAny_AugAssign_Name {x : Str} {pos' : Pos} {op : Operator} {value : Expr} {pos : Pos} {Q : Flow → Shared → Prop} (h : wpAny (model prog w) A (loadName env x) (au1Q w A E env x op value Q) E s) : wpAny (model prog w) A (exec (.AugAssign (.Name x pos') op value pos) env) Q E s := PySem.wpAny_AugAssign_Name h
theorem wpAny_Expr_any {e : Expr} {pos : Pos} {Q : Flow → Shared → Prop} (h : wpAny (model prog w) A (eval e env) (discQ Q) E s) (hi : interactive env = false := by rfl) (hs : swapsWith e none pos.line env = pure false := by rfl) : wpAny (model prog w) A (exec (.Expr e pos) env) Q E s := PySem.wpAny_Expr_any h hi hs
theorem callWith_def {pos : Pos} {f : Addr} {o : Obj} {fd : FuncData} {e : Expr} {rest : List Expr} {Q : Value → Shared → Prop} (hdat : o.data = .func fd) (h : wpAny (model prog w) A (spliced (backTo pos (starEach (e :: rest) env))) (dfQ w A E f o Q) E s)
    (he : starEach (e :: rest) env = (false, eval e env) :: starEach rest env := by rfl) : wpAny (model prog w) A (callWith pos (.ref f) [] (backTo pos (starEach (e :: rest) env)) []) Q E s := PyProof.Rows.callWith_def hdat h he
theorem MethodCall_ {o : Expr} {name : Str} {apos pos : Pos} {args : List Expr} {pl : Sem Bool} {Q : Value → Shared → Prop} (h : wpAny (model prog w) A (eval o env) (gmQ w A E name pl pos args env Q) E s)
    (he : eval (.Call (.Attribute o name apos) args [] pos) env = (do
      let ov ← eval o env
      standAt apos.atName
      let (f, first) ← holding [ov] (getMethod ov name pl)
      callWith pos f first (backTo pos (starEach args env)) []) := by rfl) : wpAny (model prog w) A (eval (.Call (.Attribute o name apos) args [] pos) env) Q E s := PyProof.Rows.MethodCall_ h he
end
noncomputable abbrev retQ (Q : Value → Shared → Prop) : Flow → Shared → Prop := fun fl s'' => Q (match fl with | .ret v => v | _ => .none) s''
theorem x_cons {w : World} {A : Around} {E : Value → Shared → Prop} {s : Shared} {env : Env} {st : Stmt} {rest : List Stmt} {Q : Flow → Shared → Prop} (h : wpAny (model prog w) A (exec st env) (nextQ w A E env rest Q) E s) : wpAny (model prog w) A (execs (st :: rest) env) Q E s :=
  wpAny_execs_cons (wpAny_mono h (fun f _ h => by cases f <;> exact h) fun _ _ x => x)
theorem if_tt {X Y : Prop} (h : X) : if true = true then X else Y := h
theorem if_ff {X Y : Prop} (h : Y) : if false = true then X else Y := h
theorem sub_dec {a j : Nat} (h : j ≤ a) (h' : ¬ j = a) : a - (j + 1) < a - j := Nat.sub_succ_lt_self _ _ (Nat.lt_of_le_of_ne h h')
theorem len_small {a b : Nat} (h : a = b) (h' : b < 64) : a ≤ 1000 := h ▸ Nat.le_of_lt (Nat.lt_trans h' (by decide))
theorem len_small2 {a b c : Nat} (h : a = b) (h2 : b = c) (h' : c < 64) : a ≤ 1000 := len_small (h.trans h2) h'
theorem su_le {e p q n : Nat} (h : e - p ≤ n + 1) (hpq : p < q) : e - q ≤ n := Nat.le_trans (Nat.sub_le_sub_left hpq e) (Nat.pred_le_pred h)
theorem two1 {p : Nat} : p < 2 * p + 1 := by lia
theorem two2 {p : Nat} : p < 2 * p + 2 := by lia
theorem top_lt {n k : Nat} (h : 2 ≤ n) : n - 1 - k < n := Nat.lt_of_le_of_lt (Nat.sub_le _ _) (Nat.sub_lt (Nat.lt_of_lt_of_le (by decide) h) (by decide))
theorem toNat_lt {x : Int} {n : Nat} (h : 0 ≤ x ∧ x < n) : x.toNat < n := (Int.toNat_lt h.1).mpr h.2
theorem sub_ex {k n : Nat} (h1 : k ≤ n) (h2 : ¬ k = n) : n - k = n - k - 1 + 1 := (Nat.sub_add_cancel (Nat.sub_pos_of_lt (Nat.lt_of_le_of_ne h1 h2))).symm
theorem sub_pred {m k n : Nat} (h : m + 1 = n - k) : m = n - (k + 1) := congrArg Nat.pred h
theorem sub_next {k n lf : Nat} (h : n - k = lf + 1) : n - (k + 1) = lf := congrArg Nat.pred h
theorem sub_gt {m k n : Nat} (h : m + 1 = n - k) : k < n := Nat.lt_of_sub_pos (h ▸ Nat.succ_pos m)
theorem sub_end {k n : Nat} (h : 0 = n - k) (hk : k ≤ n) : k = n := Nat.le_antisymm hk (Nat.le_of_sub_eq_zero h.symm)
theorem len_eq {a b c : Nat} (h : a = b) (h' : b < c) : a < c := h ▸ h'
theorem wI_pos {M : Model} {A : Around} {α : Type} {c : Prop} [Decidable c] {x y : Sem α} {Q : α → Shared → Prop} {E : Value → Shared → Prop} {s : Shared} (h : c) (hx : wpAny M A x Q E s) : wpAny M A (if c then x else y) Q E s := by rw [if_pos h]; exact hx
theorem wI_neg {M : Model} {A : Around} {α : Type} {c : Prop} [Decidable c] {x y : Sem α} {Q : α → Shared → Prop} {E : Value → Shared → Prop} {s : Shared} (h : ¬ c) (hy : wpAny M A y Q E s) : wpAny M A (if c then x else y) Q E s := by rw [if_neg h]; exact hy
noncomputable def lk (l : List (Str × Value)) : Str → Option Value := fun x => l.lookup x
noncomputable def put (x : Str) (v : Value) : List (Str × Value) → List (Str × Value)
  | [] => [(x, v)]
  | (y, u) :: r => if y = x then (x, v) :: r else (y, u) :: put x v r
theorem lk_put (x : Str) (v : Value) (l) : lk (put x v l) = fun y => if y = x then some v else lk l y := by
  induction l with
  | nil => funext y; simp [lk, put, List.lookup]; split <;> simp_all
  | cons zu r ih =>
    obtain ⟨z, u⟩ := zu
    funext y
    have ih := congrFun ih y
    unfold put
    by_cases h : z = x
    · subst h
      simp only [lk, if_true, List.lookup_cons]
      by_cases hy : y = z
      · simp [hy]
      · have : (y == z) = false := by simpa using hy
        rw [this]; simp [hy]
    · simp only [lk, h, if_false, List.lookup_cons] at ih ⊢
      by_cases hy : y = z
      · subst hy; simp [h]
      · have : (y == z) = false := by simpa using hy
        rw [this]; exact ih
theorem ofString_inj {a b : String} : Str.ofString a = Str.ofString b ↔ a = b := by
  constructor
  · intro h
    rw [Str.ofString_eq_toList, Str.ofString_eq_toList] at h
    have h1 : (a.toList.map Char.toNat) = b.toList.map Char.toNat := by
      have := congrArg Str.cps h
      simpa using this
    have hinj : ∀ c d : Char, c.toNat = d.toNat → c = d := fun c d e => by
      apply Char.ext; exact UInt32.toNat_inj.mp e
    exact String.toList_injective ((List.map_inj_right hinj).mp h1)
  · intro h; rw [h]

structure Frm (g : Heap) (L : Addr) (h : Heap) (m : Str → Option Value) : Prop where
  ns : h.Ns L m
  keep : ∀ b o, g.get? b = some o → h.get? b = some o
  nl : g.get? L = none
section
variable {g h h' : Heap} {L : Addr} {m m' : Str → Option Value}
theorem Frm.set (F : Frm g L h m) (hn : h'.Ns L m') (hs : Heap.SameBut L h h') : Frm g L h' m' :=
  ⟨hn, fun b o e => (hs.2 b (fun q => by rw [q, F.nl] at e; cases e)).trans (F.keep b o e), F.nl⟩
theorem Frm.change {d : Addr} (F : Frm g L h m) (hs : Heap.SameBut d h h') (hL : d ≠ L) (hn : g.get? d = none) : Frm g L h' m :=
  ⟨F.ns.sameBut hs hL.symm, fun b o e => (hs.2 b (fun q => by rw [q, hn] at e; cases e)).trans (F.keep b o e), F.nl⟩
theorem Frm.push (F : Frm g L h m) (o : Obj) : Frm g L (h.push o) m := ⟨F.ns.push o, fun b o' e => Heap.get?_push_of_some _ (F.keep b o' e), F.nl⟩
theorem Frm.newsPush {N : List (Addr × Obj)} (F : Frm g L h m) (Nw : News g L h N) (o : Obj) (hf : o.isFreed = false) : News g L (h.push o) ((h.objs.size, o) :: N) := by
  intro p hp
  rcases List.mem_cons.mp hp with rfl | hp
  · refine ⟨Heap.get?_push_size _ hf, Nat.ne_of_gt F.ns.lt, ?_⟩
    cases hq : g.get? h.objs.size with
    | none => rfl
    | some o' => exact absurd (Heap.lt_size (F.keep _ _ hq)) (Nat.lt_irrefl _)
  · exact ⟨Heap.get?_push_of_some _ (Nw p hp).1, (Nw p hp).2⟩
end

structure St (g : Heap) (L : Addr) (l : List (Str × Value)) (N : List (Addr × Obj)) (o : OsState) (s : Shared) : Prop where
  fr : ∃ m, Frm g L s.heap m ∧ ∀ x v, l.lookup x = some v → m x = some v
  nw : News g L s.heap N
  nd : (N.map (·.1)).Nodup
  os : s.os = o
  gn : AllBare s.gens

noncomputable def Keeps (h h' : Heap) : Prop := ∀ b o, h.get? b = some o → h'.get? b = some o
noncomputable def KeepsBut (ms : List Addr) (h h' : Heap) : Prop := ∀ b o, b ∉ ms → h.get? b = some o → h'.get? b = some o

theorem Keeps.refl (h : Heap) : Keeps h h := fun _ _ e => e
theorem Keeps.trans {a b c : Heap} (x : Keeps a b) (y : Keeps b c) : Keeps a c := fun p o e => y p o (x p o e)
theorem Keeps.hide {g h : Heap} {ms : List Addr} (k : Keeps g h) (hm : ∀ a ∈ ms, g.get? a = none) : Keeps g (hideAll h ms) :=
  fun b o e => hideAll_get _ (k b o e) fun q => by rw [hm b q] at e; cases e
theorem Keeps.hide2 {h h' : Heap} {ms : List Addr} (k : Keeps (hideAll h ms) h') : Keeps (hideAll h ms) (hideAll h' ms) := k.hide fun _ ha => hideAll_none _ ha
theorem ite_dec {p : Prop} [Decidable p] {X Y : Prop} (h1 : p → X) (h2 : ¬ p → Y) : if decide p = true then X else Y := by
  by_cases h : p
  · rw [if_pos (decide_eq_true h)]; exact h1 h
  · rw [if_neg (by simp [h])]; exact h2 h
theorem ite_bool {b : Bool} {X Y : Prop} (h1 : b = true → X) (h2 : b = false → Y) : if b = true then X else Y := by
  cases b
  · exact h2 rfl
  · exact h1 rfl

structure FnAt (g : Heap) (f : Addr) (fd : FuncData) : Prop where
  ob : g.get? f = some { cls := .type "function", data := .func fd }
  cd : g.CodeRec fd.code fd.qualname
theorem FnAt.keeps {g h : Heap} {f : Addr} {fd : FuncData} (x : FnAt g f fd) (k : Keeps g h) : FnAt h f fd := ⟨k _ _ x.ob, x.cd.keeps k⟩

section
variable {w : World} {A : Around} {E : Value → Shared → Prop} {s : Shared} {g : Heap} {L : Addr} {l : List (Str × Value)} {N : List (Addr × Obj)} {o : OsState} {env : Env} {mg mb : Str → Option Value}

theorem St.tok (S : St g L l N o s) {t : Nat} : St g L l N o { s with toks := t } := ⟨S.fr, S.nw, S.nd, S.os, S.gn⟩
theorem St.kept (S : St g L l N o s) : Keeps g s.heap := by obtain ⟨_, F, _⟩ := S.fr; exact F.keep
theorem St.at (S : St g L l N o s) {a : Addr} {ob : Obj} (hm : (a, ob) ∈ N) : s.heap.get? a = some ob := (S.nw _ hm).1
theorem mem_of_lookup' {x : Str} {v : Value} {l : List (Str × Value)} (h : l.lookup x = some v) : (x, v) ∈ l := by
  induction l with
  | nil => cases h
  | cons p r ih =>
    rw [List.lookup_cons] at h
    cases hb : x == p.1 with
    | true => rw [hb] at h; cases h; rw [eq_of_beq hb]; exact .head _
    | false => rw [hb] at h; exact .tail _ (ih h)
theorem St.weak {l' : List (Str × Value)} (S : St g L l N o s) (h : l'.map (fun p => l.lookup p.1) = l'.map (fun p => some p.2)) : St g L l' N o s := by
  obtain ⟨m, F, hm⟩ := S.fr
  exact ⟨⟨m, F, fun x v e => hm x v (List.map_inj_left.mp h (x, v) (mem_of_lookup' e))⟩, S.nw, S.nd, S.os, S.gn⟩
theorem St.less {N' : List (Addr × Obj)} (S : St g L l N o s) (h : N'.Sublist N) : St g L l N' o s :=
  ⟨S.fr, fun p hp => S.nw p (h.subset hp), (h.map _).nodup S.nd, S.os, S.gn⟩
theorem St.upd {h' : Heap} {a : Addr} {ob ob' : Obj} (S : St g L l N o s) (i : Nat) (hi : N[i]? = some (a, ob)) (hs : Heap.SameBut a s.heap h') (ho : h'.get? a = some ob') : St g L l (N.set i (a, ob')) o { s with heap := h' } := by
  have hm := List.mem_of_getElem? hi
  obtain ⟨_, n2, n3⟩ := S.nw _ hm
  obtain ⟨m, F, hl⟩ := S.fr
  obtain ⟨hlt, he⟩ := List.getElem?_eq_some_iff.mp hi
  have key : (N.set i (a, ob')).map (·.1) = N.map (·.1) := by
    rw [List.map_set]
    apply List.ext_getElem?
    intro j
    by_cases hj : i = j
    · subst hj; simp [hlt, he]
    · simp [hj]
  refine ⟨⟨m, F.change hs n2 n3, hl⟩, fun p hp => ?_, by rw [key]; exact S.nd, S.os, S.gn⟩
  obtain ⟨j, hj⟩ := List.getElem?_of_mem hp
  by_cases hij : i = j
  · subst hij
    rw [List.getElem?_set_self hlt] at hj
    cases hj
    exact ⟨ho, n2, n3⟩
  · rw [List.getElem?_set_ne hij] at hj
    have hpN := List.mem_of_getElem? hj
    have ne : p.1 ≠ a := fun q => by
      obtain ⟨hjl, hje⟩ := List.getElem?_eq_some_iff.mp hj
      have h1 : (N.map (·.1))[i]'(by simpa using hlt) = a := by simp [he]
      have h2 : (N.map (·.1))[j]'(by simpa using hjl) = a := by simp [hje, q]
      exact hij ((List.getElem_inj S.nd).mp (h1.trans h2.symm))
    exact ⟨(hs.2 _ ne).trans (S.nw p hpN).1, (S.nw p hpN).2⟩
theorem St.ne_at {i : Nat} {a : Addr} {ob : Obj} (S : St g L l N o s) (hi : N[i]? = some (a, ob)) {p : Addr × Obj} (hp : p ∈ N.eraseIdx i) : p.1 ≠ a := by
  intro q
  obtain ⟨hlt, he⟩ := List.getElem?_eq_some_iff.mp hi
  obtain ⟨j, hj⟩ := List.getElem?_of_mem hp
  rw [List.getElem?_eraseIdx] at hj
  have key : ∀ k, N[k]? = some p → k ≠ i → False := fun k hk hki => by
    obtain ⟨hkl, hke⟩ := List.getElem?_eq_some_iff.mp hk
    have h1 : (N.map (·.1))[i]'(by simpa using hlt) = a := by simp [he]
    have h2 : (N.map (·.1))[k]'(by simpa using hkl) = a := by simp [hke, q]
    exact hki ((List.getElem_inj S.nd).mp (h2.trans h1.symm))
  split at hj
  · exact key _ hj (by lia)
  · exact key _ hj (by lia)
theorem St.drop {h' : Heap} {a : Addr} {ob : Obj} (S : St g L l N o s) (i : Nat) (hi : N[i]? = some (a, ob)) (hx : Heap.ExtBut a s.heap h') : St g L l (N.eraseIdx i) o { s with heap := h' } := by
  have hm := List.mem_of_getElem? hi
  obtain ⟨_, n2, n3⟩ := S.nw _ hm
  obtain ⟨m, F, hl⟩ := S.fr
  refine ⟨⟨m, ⟨F.ns.extBut hx n2.symm, fun b ob' e => hx b ob' (fun q => by rw [q, n3] at e; cases e) (F.keep b ob' e), F.nl⟩, hl⟩, fun p hp => ?_, ((List.eraseIdx_sublist N i).map _).nodup S.nd, S.os, S.gn⟩
  have hpN := (List.eraseIdx_sublist N i).subset hp
  exact ⟨hx _ _ (S.ne_at hi hp) (S.nw p hpN).1, (S.nw p hpN).2⟩
theorem if_p {c : Prop} [Decidable c] {p q : Prop} (h : c) (hp : p) : if c then p else q := by rw [if_pos h]; exact hp
theorem if_n {c : Prop} [Decidable c] {p q : Prop} (h : ¬ c) (hq : q) : if c then p else q := by rw [if_neg h]; exact hq
theorem nin1 {a b : Addr} (h1 : a ≠ b) : a ∉ [b] := by simp [h1]
theorem nin2 {a b c : Addr} (h1 : a ≠ b) (h2 : a ≠ c) : a ∉ [b, c] := by simp [h1, h2]
theorem nin3 {a b c d : Addr} (h1 : a ≠ b) (h2 : a ≠ c) (h3 : a ≠ d) : a ∉ [b, c, d] := by simp [h1, h2, h3]
theorem St.apart (S : St g L l N o s) (i j : Nat) {p q : Addr × Obj} (hi : N[i]? = some p) (hj : N[j]? = some q) (hij : i ≠ j) : p.1 ≠ q.1 := fun e => by
  have a : (N.map (·.1))[i]? = some p.1 := by rw [List.getElem?_map, hi]; rfl
  have b : (N.map (·.1))[j]? = some q.1 := by rw [List.getElem?_map, hj]; rfl
  obtain ⟨h, _⟩ := List.getElem?_eq_some_iff.mp a
  exact hij ((List.getElem?_inj h S.nd).mp (a.trans ((congrArg some e).trans b.symm)))
theorem St.out0 {p : Addr × Obj} {N' : List (Addr × Obj)} (S : St g L l (p :: N) o s) (h : N'.Sublist N) : p.1 ∉ N'.map (·.1) := fun hm =>
  (List.nodup_cons.mp (show (p.1 :: N.map (·.1)).Nodup from S.nd)).1 ((h.map _).subset hm)
theorem St.outI (S : St g L l N o s) (i : Nat) {p : Addr × Obj} {N' : List (Addr × Obj)} (hi : N[i]? = some p) (h : N'.Sublist (N.eraseIdx i)) : p.1 ∉ N'.map (·.1) := fun hm => by
  obtain ⟨q, hq, e⟩ := List.mem_map.mp hm
  exact S.ne_at hi (h.subset hq) e
theorem St.new (S : St g L l N o s) (ob : Obj) (hf : ob.isFreed = false) : St g L l ((s.heap.objs.size, ob) :: N) o { s with heap := s.heap.push ob } := by
  obtain ⟨m, F, hl⟩ := S.fr
  refine ⟨⟨m, F.push ob, hl⟩, F.newsPush S.nw ob hf, ?_, S.os, S.gn⟩
  rw [List.map_cons]
  refine List.nodup_cons.mpr ⟨fun hm => ?_, S.nd⟩
  obtain ⟨p, hp, he⟩ := List.mem_map.mp hm
  have h2 := Heap.lt_size (S.nw p hp).1
  have h1 : p.1 = s.heap.objs.size := he
  rw [h1] at h2
  exact Nat.lt_irrefl _ h2

theorem e_loc {x : Str} {pos : Pos} {v : Value} {Q : Value → Shared → Prop} (S : St g L l N o s) (hv : l.lookup x = some v) (h : Q v s)
    (hL : env.locals = L := by rfl) (hk : env.scope.kind = .function := by rfl) (hx : env.kindOf x = some .local := by rfl) (hd : (x == ("__debug__" : Str)) = false := by rfl) :
    wpAny (model prog w) A (eval (.Name x pos) env) Q E s := by
  subst hL
  obtain ⟨m, F, hm⟩ := S.fr
  exact wpAny_Name (wpAny_loadName_local hk hx F.ns (hm _ _ hv) h) hd
theorem n_loc {x : Str} {v : Value} {Q : Value → Shared → Prop} (S : St g L l N o s) (hv : l.lookup x = some v) (h : Q v s)
    (hL : env.locals = L := by rfl) (hk : env.scope.kind = .function := by rfl) (hx : env.kindOf x = some .local := by rfl) :
    wpAny (model prog w) A (loadName env x) Q E s := by
  subst hL
  obtain ⟨m, F, hm⟩ := S.fr
  exact wpAny_loadName_local hk hx F.ns (hm _ _ hv) h
theorem e_glob {x : Str} {pos : Pos} {v : Value} {Q : Value → Shared → Prop} (S : St g L l N o s) (hg : g.Ns mainGlobals mg) (hv : mg x = some v) (h : Q v s)
    (hG : env.globals = mainGlobals := by rfl) (hk : env.scope.kind = .function := by rfl) (hx : env.kindOf x = some .globalImplicit := by rfl) (hd : (x == ("__debug__" : Str)) = false := by rfl) :
    wpAny (model prog w) A (eval (.Name x pos) env) Q E s :=
  Name_function_global hk hx (loadGlobal_global (by rw [hG]; exact hg.keeps S.kept) hv h) hd
theorem e_blt {x : Str} {pos : Pos} {v : Value} {Q : Value → Shared → Prop} (S : St g L l N o s) (hg : g.Ns mainGlobals mg) (hb : g.Ns builtinsNs mb) (hn : mg x = none) (hv : mb x = some v) (h : Q v s)
    (hG : env.globals = mainGlobals := by rfl) (hB : env.builtins = builtinsNs := by rfl) (hk : env.scope.kind = .function := by rfl) (hx : env.kindOf x = some .globalImplicit := by rfl) (hd : (x == ("__debug__" : Str)) = false := by rfl) :
    wpAny (model prog w) A (eval (.Name x pos) env) Q E s :=
  Name_function_global hk hx (loadGlobal_builtin (by rw [hG]; exact hg.keeps S.kept) hn (by rw [hB]; exact hb.keeps S.kept) hv h) hd

theorem e_int {i : Int} {k : Nat} {pos : Pos} {Q : Value → Shared → Prop} (S : St g L l N o s) (h : ∀ t s', St g L l N o s' → Q (.int i t) s') :
    wpAny (model prog w) A (eval (.Constant (.int i) k pos) env) Q E s := wpAny_Constant_int (h _ _ S.tok)
theorem e_str {x : Str} {k : Nat} {pos : Pos} {Q : Value → Shared → Prop} (S : St g L l N o s) (h : ∀ t s', St g L l N o s' → Q (.str x t) s') :
    wpAny (model prog w) A (eval (.Constant (.str x) k pos) env) Q E s := Calls.Constant_str (h _ _ S.tok)

theorem s_loc {x : Str} {v : Value} {l' : List (Str × Value)} {Q : Unit → Shared → Prop} (S : St g L l N o s) (h : ∀ s', St g L l' N o s' → Q () s')
    (hL : env.locals = L := by rfl) (hx : env.kindOf x = some .local := by rfl)
    (hp : (env.scope.kind == .class || (env.scope.kind == .module && env.locals != env.globals)) = false := by rfl)
    (hl : put x v l = l' := by walk_at "n") :
    wpAny (model prog w) A (storeName env x v) Q E s := by
  subst hL hl
  obtain ⟨m, F, hm⟩ := S.fr
  refine wpAny_storeName_local hx F.ns (fun h' hn hs => h _ ⟨⟨_, F.set hn hs, fun y u e => ?_⟩, S.nw.set hs, S.nd, S.os, S.gn⟩) hp
  have e' : lk (put x v l) y = some u := e
  rw [lk_put] at e'
  by_cases hy : y = x
  · simp only [hy, if_true] at e' ⊢; exact e'
  · simp only [hy, if_false] at e' ⊢; exact hm y u e'

section
variable {a b : Int} {t u : Tok} {Q : Value → Shared → Prop}
theorem b_add (S : St g L l N o s) (h : ∀ t s', St g L l N o s' → Q (.int (a + b) t) s') : wpAny (model prog w) A (binaryOp .Add (.int a t) (.int b u)) Q E s := PyProof.Rows.add_int (h _ _ S.tok)
theorem b_sub (S : St g L l N o s) (h : ∀ t s', St g L l N o s' → Q (.int (a - b) t) s') : wpAny (model prog w) A (binaryOp .Sub (.int a t) (.int b u)) Q E s := PyProof.Rows.sub_int (h _ _ S.tok)
theorem b_mul (S : St g L l N o s) (hm : IntMulOk a b) (h : ∀ t s', St g L l N o s' → Q (.int (a * b) t) s') : wpAny (model prog w) A (binaryOp .Mult (.int a t) (.int b u)) Q E s := PyProof.Rows.mul_int (h _ _ S.tok) hm
theorem b_and (S : St g L l N o s) (h : ∀ t s', St g L l N o s' → Q (.int (Builtin.bitAnd a b) t) s') : wpAny (model prog w) A (binaryOp .BitAnd (.int a t) (.int b u)) Q E s := PyProof.Rows.and_int (h _ _ S.tok)
theorem b_mod (S : St g L l N o s) (hb : b ≠ 0) (h : ∀ t s', St g L l N o s' → Q (.int (a.fmod b) t) s') : wpAny (model prog w) A (binaryOp .Mod (.int a t) (.int b u)) Q E s := PyProof.Rows.mod_int' hb (h _ _ S.tok)
theorem b_shr1 {n : Nat} (S : St g L l N o s) (hn : a = (n : Int)) (h : ∀ t s', St g L l N o s' → Q (.int ((n / 2 : Nat) : Int) t) s') : wpAny (model prog w) A (binaryOp .RShift (.int a t) (.int 1 u)) Q E s :=
  wpAny_rshift1_int (by lia) (by have := h s.toks _ (S.tok (t := s.toks + 1)); rw [hn]; exact this)
theorem b_fdiv (S : St g L l N o s) (hb : b ≠ 0) (hs : b.natAbs < 1073741824) (h : ∀ t s', St g L l N o s' → Q (.int (a.fdiv b) t) s') : wpAny (model prog w) A (binaryOp .FloorDiv (.int a t) (.int b u)) Q E s :=
  PyProof.Rows.floordiv_int hb (h _ _ S.tok) (Or.inl (PyProof.noPylong_small hs))
theorem u_neg (S : St g L l N o s) (h : ∀ t s', St g L l N o s' → Q (.int (-a) t) s') : wpAny (model prog w) A (unaryOp .USub (.int a t)) Q E s := PyProof.Rows.neg_int (h _ _ S.tok)
end

theorem dd {n m : Nat} (h : A.depth + n < recursionLimit) (hmn : m + 1 ≤ n) : (A.deeper env).depth + m < recursionLimit := by
  show A.depth + 1 + m < recursionLimit; lia
theorem du {n m : Nat} (h : A.units + n < cLine) (hmn : m + 3 ≤ n) : (A.deeper env).units + m < cLine := by
  show A.units + 3 + m < cLine; lia
theorem hbare_tok {s : Shared} {t : Nat} (h : AllBare s.gens) : AllBare ({ s with toks := t } : Shared).gens := h
end

noncomputable def onFn {α : Type} (d : α) (f : Str → Arguments → List Stmt → Scope → Pos → α) : Stmt → α
  | .FunctionDef name args body _ _ _ scope _ _ p => f name args body scope p
  | _ => d
noncomputable def fnOfStmt (dV pm cdv : Value) : Stmt → FuncData :=
  onFn default fun name args body scope _ => { name, qualname := name, params := args, body := .stmts body, scope, globals := 3, closure := [], defaults := dV, kwdefaults := .none, pyModule := pm, code := cdv }
noncomputable def stAt (i : Nat) : Stmt := prog.main.body.getD i (.Pass default)
noncomputable def mHeapq : Value := .str (Str.ofString "cpy313.heapq") 194
noncomputable def mStat : Value := .str (Str.ofString "cpy313.stat") 391
noncomputable def mLaw : Value := .str (Str.ofString "law_oc0234_01") 476
noncomputable def fnAt (i : Nat) (dV pm : Value) (c : Addr) : FuncData := fnOfStmt dV pm (.ref c) (stAt i)

structure Gl (mg mb : Str → Option Value) (g : Heap) : Prop where
  lim : g.NoLimit
  gs : g.Ns mainGlobals mg
  bs : g.Ns builtinsNs mb
  f28 : FnAt g 28 (fnAt 2 .none mHeapq 27)
  f35 : FnAt g 35 (fnAt 3 .none mHeapq 34)
  f42 : FnAt g 42 (fnAt 4 .none mHeapq 41)
  f49 : FnAt g 49 (fnAt 5 .none mHeapq 48)
  f56 : FnAt g 56 (fnAt 6 .none mHeapq 55)
  f63 : FnAt g 63 (fnAt 7 .none mHeapq 62)
  f70 : FnAt g 70 (fnAt 8 .none mHeapq 69)
  f77 : FnAt g 77 (fnAt 9 .none mHeapq 76)
  n28 : mg (Str.ofString "heapreplace") = some (.ref 28)
  n35 : mg (Str.ofString "heapify") = some (.ref 35)
  n42 : mg (Str.ofString "_heapreplace_max") = some (.ref 42)
  n49 : mg (Str.ofString "_heapify_max") = some (.ref 49)
  n56 : mg (Str.ofString "_siftdown") = some (.ref 56)
  n63 : mg (Str.ofString "_siftup") = some (.ref 63)
  n70 : mg (Str.ofString "_siftdown_max") = some (.ref 70)
  n77 : mg (Str.ofString "_siftup_max") = some (.ref 77)
  len0 : mg (Str.ofString "len") = none
  len1 : mb (Str.ofString "len") = some (.builtin "len")
  rev0 : mg (Str.ofString "reversed") = none
  rev1 : mb (Str.ofString "reversed") = some (.type "reversed")
  rng0 : mg (Str.ofString "range") = none
  rng1 : mb (Str.ofString "range") = some (.type "range")
theorem Gl.keeps {mg mb : Str → Option Value} {g h : Heap} (x : Gl mg mb g) (k : Keeps g h) : Gl mg mb h :=
  { x with lim := x.lim.keeps k, gs := x.gs.keeps k, bs := x.bs.keeps k, f28 := x.f28.keeps k, f35 := x.f35.keeps k, f42 := x.f42.keeps k, f49 := x.f49.keeps k,
           f56 := x.f56.keeps k, f63 := x.f63.keeps k, f70 := x.f70.keeps k, f77 := x.f77.keeps k }

section
variable {w : World} {A : Around} {E : Value → Shared → Prop} {s : Shared} {g g₀ : Heap} {L : Addr} {l : List (Str × Value)} {N : List (Addr × Obj)} {o : OsState} {mg mb : Str → Option Value}

theorem call_fn {f : Addr} {fd : FuncData} {body : List Stmt} {args : List Value} {binds : List (Str × Value)} {Q : Value → Shared → Prop}
    (lim : g₀.NoLimit) (K : Keeps g₀ s.heap) (hf : FnAt g₀ f fd) (hroom : A.depth < recursionLimit) (hN : ∀ p ∈ N, s.heap.get? p.1 = some p.2) (hg : AllBare s.gens)
    (hbody : fd.body = .stmts body) (hbind : BindsTo s fd ⟨args, []⟩ binds)
    (hloc : (binds.map (·.1)).all (fun x => fd.scope.names.lookup x == some .local) = true) (hcell : fd.scope.names.all (fun x => x.2 != .cell) = true) (hnd : (N.map (·.1)).Nodup)
    (h : ∀ L s', St (hideAll s.heap (N.map (·.1))) L l N s.os s' →
      wpAny (model prog w) (A.deeper (callEnv fd L f)) (execs body (callEnv fd L f)) (retQ Q) (fun _ _ => False) s')
    (hco : fd.scope.isCoroutine = false := by rfl) (hgen : fd.scope.isGenerator = false := by rfl) (hk : fd.scope.kind = .function := by rfl) (hl : binds.reverse = l := by walk_at "n") :
    wpAny (model prog w) A (call (.ref f) args) Q E s := by
  subst hl
  refine wpAny_call (codeAny_call_def hroom (K _ _ hf.ob) rfl (lim.keeps K) (hf.cd.keeps K) hbody hbind (fun x hx => by simpa using List.all_eq_true.mp hcell x hx)
    (fun x hx => by simpa using List.all_eq_true.mp hloc x.1 (List.mem_map_of_mem hx)) (fun h₁ hns hk₁ => ?_) hco hgen hk)
  refine wpAny_mono (h _ _ ⟨⟨_, ⟨hns, fun b o e => hk₁ b o (of_hideAll _ e), Heap.get?_none_of_le (Nat.le_of_eq (hideAll_size _ _))⟩, fun _ _ e => e⟩, fun p hp => ⟨hk₁ _ _ (hN p hp), Nat.ne_of_lt (Heap.lt_size (hN p hp)), hideAll_none _ (List.mem_map_of_mem hp)⟩, hnd, rfl, hg⟩) (fun _ _ x => x) (fun _ _ x => x.elim)

theorem St.keepsBut {h : Heap} {ms : List Addr} {l : List (Str × Value)} (S : St (hideAll h ms) L l N o s) : KeepsBut ms h s.heap :=
  fun b _ hb e => S.kept b _ (hideAll_get _ e hb)
theorem St.after {s' : Shared} {ms : List Addr} {N' : List (Addr × Obj)} (S : St g L l N o s) (k : KeepsBut ms s.heap s'.heap) (hm : ∀ a ∈ ms, a ≠ L ∧ g.get? a = none)
    (hN' : ∀ p ∈ N', (p ∈ N ∧ p.1 ∉ ms) ∨ (p.1 ∈ ms ∧ s'.heap.get? p.1 = some p.2)) (hnd : (N'.map (·.1)).Nodup) (ho : s'.os = o) (hg : AllBare s'.gens) : St g L l N' o s' := by
  have nL : L ∉ ms := fun q => (hm L q).1 rfl
  obtain ⟨m, F, hl⟩ := S.fr
  refine ⟨⟨m, ⟨?_, fun b o e => k b o (fun q => by rw [(hm b q).2] at e; cases e) (F.keep b o e), F.nl⟩, hl⟩, fun p hp => ?_, hnd, ho, hg⟩
  · obtain ⟨oL, es, ep, h1, h2⟩ := F.ns
    exact ⟨oL, es, ep, k _ _ nL h1, h2⟩
  · rcases hN' p hp with ⟨h1, h2⟩ | ⟨h1, h2⟩
    · exact ⟨k _ _ h2 (S.nw p h1).1, (S.nw p h1).2⟩
    · exact ⟨h2, hm _ h1⟩

theorem St.rebase {N' : List (Addr × Obj)} {l' : List (Str × Value)} (S : St g L l' N o s) (h : N'.Sublist N) : ∃ g', An4 (Keeps g g') (∀ p ∈ N, p.1 ∉ N'.map (·.1) → g'.get? p.1 = some p.2) (Keeps g' s.heap) (St g' L l' N' o s) := by
  obtain ⟨m, F, hl⟩ := S.fr
  refine ⟨hideAll s.heap (L :: N'.map (·.1)), fun b ob e => hideAll_get _ (F.keep b ob e) (fun q => ?_), fun p hp hn => hideAll_get _ (S.nw p hp).1 (fun q => ?_), fun b ob e => of_hideAll _ e,
    ⟨m, ⟨F.ns, fun b ob e => of_hideAll _ e, hideAll_none _ (.head _)⟩, hl⟩, fun p hp => ⟨(S.nw p (h.subset hp)).1, (S.nw p (h.subset hp)).2.1, hideAll_none _ (.tail _ (List.mem_map_of_mem hp))⟩, (h.map _).nodup S.nd, S.os, S.gn⟩
  · rcases List.mem_cons.mp q with q | q
    · rw [q, F.nl] at e; cases e
    · obtain ⟨p, hp, he⟩ := List.mem_map.mp q
      rw [← he, (S.nw p (h.subset hp)).2.2] at e; cases e
  · rcases List.mem_cons.mp q with q | q
    · exact (S.nw p hp).2.1 q
    · exact hn q

theorem w_while {env : Env} {test : Expr} {body : List Stmt} {pos : Pos} {Q : Flow → Shared → Prop} (I : Nat → Shared → Prop) (X : Shared → Prop) (n : Nat) (h : I n s)
    (turn : ∀ n s, I n s → ∀ (Q₁ : Flow → Shared → Prop) (X₁ : Shared → Prop), (∀ f s₃, (match f with
          | .next | .cont => ∃ m, m < n ∧ I m s₃
          | .brk => X s₃
          | .ret v => Q (.ret v) s₃) → Q₁ f s₃) → (∀ s₃, X s₃ → X₁ s₃) → wpAny (model prog w) A (isTrue test env (eval test env)) (fun b s₂ =>
      if b then wpAny (model prog w) A (execs body env) Q₁ (fun _ _ => False) s₂
      else X₁ s₂) (fun _ _ => False) s) (after : ∀ s, X s → Q .next s) : wpAny (model prog w) A (exec (.While test body [] pos) env) Q E s := by
  refine wpAny_While (codeAny_whileLoop I (fun n s hI => ?_) n h)
  refine wpAny_mono (turn n s hI _ _ (fun _ _ x => x) fun _ x => x) (fun b s₂ h₂ => ?_) (fun _ _ x => x.elim)
  cases b with
  | false => exact wpAny_execs_nil (after _ h₂)
  | true => exact wpAny_mono h₂ (fun f s₃ h₃ => by cases f <;> first | exact h₃ | exact after _ h₃) (fun _ _ x => x.elim)

theorem w_for {env : Env} {target iter : Expr} {body : List Stmt} {pos : Pos} {Q : Flow → Shared → Prop} (X : Shared → Prop)
    (h : wpAny (model prog w) A (eval iter env) (fun x s₁ => wpAny (model prog w) A (pyIter x) (fun it s₂ => ∃ (I : Nat → Shared → Prop) (n : Nat), I n s₂ ∧
      ∀ n s, I n s → ∀ (Q₁ : Flow → Shared → Prop) (X₁ : Shared → Prop), (∀ f s₃, (match f with
          | .next | .cont => ∃ m, m < n ∧ I m s₃
          | .brk => X s₃
          | .ret v => Q (.ret v) s₃) → Q₁ f s₃) → (∀ s₃, X s₃ → X₁ s₃) → wpAny (model prog w) A (pyNext it) (fun r s₁ => match r with
        | none => X₁ s₁
        | some v => wpAny (model prog w) A (assign target env v) (fun _ s₂ => wpAny (model prog w) A (execs body env) Q₁ (fun _ _ => False) s₂) (fun _ _ => False) s₁) (fun _ _ => False) s) E s₁) E s)
    (after : ∀ s, X s → Q .next s)
    (hs : ∀ x, foldedSetIterable iter env x = pure x := by intro _; rfl) (ht : ∀ it v, letOwnedTupleGo target it v = pure () := by intro _ _; rfl) :
    wpAny (model prog w) A (exec (.For target iter body [] pos) env) Q E s := by
  refine wpAny_For (wpAny_mono h (fun x s₁ h₁ => wpAny_mono h₁ (fun it s₂ h₂ => ?_) fun _ _ x => x) fun _ _ x => x) hs
  obtain ⟨I, n, hI, turn⟩ := h₂
  refine codeAny_forLoop I (fun n s hI => ?_) n hI (ht it)
  refine wpAny_mono (turn n s hI _ _ (fun _ _ x => x) fun _ x => x) (fun r s₁ h₁ => ?_) (fun _ _ x => x.elim)
  cases r with
  | none => exact wpAny_execs_nil (after _ h₁)
  | some v => exact wpAny_mono h₁ (fun _ s₂ h₂ => wpAny_mono h₂ (fun f s₃ h₃ => by cases f <;> first | exact h₃ | exact after _ h₃) (fun _ _ x => x.elim)) (fun _ _ x => x.elim)

theorem w_cut {env : Env} {st : Stmt} {rest : List Stmt} {Q : Flow → Shared → Prop} (X : Shared → Prop) (h1 : ∀ X₁ : Shared → Prop, (∀ s, X s → X₁ s) → wpAny (model prog w) A (exec st env) (fun f s' => f = .next ∧ X₁ s') (fun _ _ => False) s)
    (h2 : ∀ s, X s → wpAny (model prog w) A (execs rest env) Q E s) : wpAny (model prog w) A (execs (st :: rest) env) Q E s :=
  wpAny_execs_cons (wpAny_mono (h1 _ fun _ x => x) (fun _ s' h => by obtain ⟨rfl, h⟩ := h; exact h2 _ h) (fun _ _ x => x.elim))

theorem i_list {value slice : Expr} {a : Addr} {xs : List Value} {e n : Nat} {k : Int} {u : Tok} {x : Value} {Q : Value → Shared → Prop} (ho : s.heap.get? a = some (seqObj "list" xs.toArray e))
    (hk : k = (n : Int)) (hf : n < 2 ^ 63) (hx : xs[n]? = some x) (h : Q x s)
    (hs : subscripted slice false (.ref a) (.int k u) = operate [.ref a, .int k u] (getItem (.ref a) (.int k u)) := by with_unfolding_all rfl) :
    wpAny (model prog w) A (subscriptTail value slice (.ref a) (.int k u)) Q E s := by
  have hl : s.heap.IsList a xs.toArray := ⟨_, ho, rfl, _, rfl⟩
  subst hk
  exact tail_any hl.typeIs slot_list_getitem.lookup (wpAny_getItem_list hl (by lia) (by lia) (by simpa using hx) h) hs
theorem si_list {a : Addr} {xs : List Value} {e j : Nat} {k : Int} {u : Tok} {v : Value} {Q : Unit → Shared → Prop} (ho : s.heap.get? a = some (seqObj "list" xs.toArray e))
    (hk : k = (j : Int)) (hf : j < 2 ^ 63) (hn : j < xs.length)
    (hQ : ∀ h', Heap.SameBut a s.heap h' → h'.get? a = some (seqObj "list" (xs.set j v).toArray e) → Q () { s with heap := h' }) :
    wpAny (model prog w) A (setItem (.ref a) (.int k u) v) Q E s := by
  have h0 : 0 ≤ k := by lia
  have hfit : k < 2 ^ 63 := by lia
  have hT : s.TypeIs (.ref a) "list" := ⟨_, ho, rfl⟩
  unfold setItem
  try with_reducible refine wpAny_holding ?_
  first | refine wpAny_bind (wpAny_pure ?_) | skip
  refine wpAny_bind (wpAny_sequenceKey hT (by decide) ?_)
  refine wpAny_bind (wpAny_callSpecial?_slot (name := Str.ofString "__setitem__") hT slot_list_setitem
    (wpAny_call_entry slot_list_setitem hT entry_list_setitem ?_ (args_list_setitem _ _ _)))
  show wpAny _ _ (Builtin.List.listSubscript? (.int k u) >>= _) _ _ s
  refine wpAny_bind (wpAny_listSubscript_int (fitsIndex_of h0 hfit) ?_)
  clear hfit
  subst hk
  have hj : j < xs.toArray.size := by simp; lia
  show wpAny _ _ ((seqItemAt a j >>= fun r => pure (r.map (j, ·))) >>= _) _ _ s
  refine wpAny_bind (wpAny_bind (wpAny_seqItemAt ho rfl (wpAny_pure ?_)))
  rw [show xs.toArray[j]? = some xs.toArray[j] from Array.getElem?_eq_getElem hj]
  show wpAny _ _ (setSeqItemAt a j v >>= _) _ _ s
  have e1 : Obj.mapSeq (fun ys => ys.setIfInBounds j v) (seqObj "list" xs.toArray e) = seqObj "list" (xs.set j v).toArray e := by
    simp [Obj.mapSeq]
  have fin : (s.heap.update a (Obj.mapSeq fun ys => ys.setIfInBounds j v)).get? a = some (seqObj "list" (xs.set j v).toArray e) := by
    rw [← e1]; exact Heap.get?_update_self _ ho rfl
  refine wpAny_bind (wpAny_setSeqItemAt ho rfl ?_)
  first
    | exact wpAny_bind (wpAny_pure (wpAny_pure ⟨.none, rfl, wpAny_pure (hQ _ (Heap.SameBut.update ..) fin)⟩))
    | exact wpAny_pure ⟨.none, rfl, wpAny_pure (hQ _ (Heap.SameBut.update ..) fin)⟩
theorem c_len {l' : List (Str × Value)} {a : Addr} {xs : List Value} {e : Nat} {Q : Value → Shared → Prop} (S : St g L l' N o s) (ho : s.heap.get? a = some (seqObj "list" xs.toArray e)) (hf : xs.length < 2 ^ 63)
    (h : ∀ t s', St g L l' N o s' → Q (.int xs.length t) s') : wpAny (model prog w) A (call (.builtin "len") [.ref a]) Q E s := by
  have hl : s.heap.IsList a xs.toArray := ⟨_, ho, rfl, _, rfl⟩
  refine len_list hl (by simp; lia) ?_
  rw [List.size_toArray]
  exact h _ _ S.tok
noncomputable abbrev fnQ (w : World) (A : Around) (E : Value → Shared → Prop) (g : Heap) (f : Addr) (Q : Value → Shared → Prop) : List Value → Shared → Prop := fun vs s₁ => (∃ L l N o, St g L l N o s₁) ∧ wpAny (model prog w) A (call (.ref f) vs) Q E s₁
theorem c_fn {env : Env} {pos : Pos} {f : Addr} {fd : FuncData} {e : Expr} {rest : List Expr} {Q : Value → Shared → Prop} (hf : FnAt g f fd)
    (h : wpAny (model prog w) A (spliced (backTo pos (starEach (e :: rest) env))) (fnQ w A E g f Q) E s)
    (he : starEach (e :: rest) env = (false, eval e env) :: starEach rest env := by rfl) :
    wpAny (model prog w) A (callWith pos (.ref f) [] (backTo pos (starEach (e :: rest) env)) []) Q E s :=
  callWith_def (o := { cls := .type "function", data := .func fd }) rfl (wpAny_mono h (fun vs s₁ h₁ => by obtain ⟨⟨L, l, N, o, S⟩, h₁⟩ := h₁; exact ⟨S.kept _ _ hf.ob, h₁⟩) fun _ _ x => x) he
end
structure Made (T : String) (vs : List Value) (Q : Value → Shared → Prop) (s₁ : Shared) : Prop where
  mk ::
  small : vs.length ≤ 1000
  some' : ∃ g L l N o, St g L l N o s₁ ∧ ∀ a s', St g L l ((a, seqObj T vs.toArray 0) :: N) o s' → s₁.heap.get? a = none → Keeps s₁.heap s'.heap → Q (.ref a) s'
theorem Made.go {T : String} {vs : List Value} {Q : Value → Shared → Prop} {s₁ : Shared} {g : Heap} {L : Addr} {l : List (Str × Value)} {N : List (Addr × Obj)} {o : OsState} (S : St g L l N o s₁) (hs : vs.length ≤ 1000)
    (h : ∀ a s', St g L l ((a, seqObj T vs.toArray 0) :: N) o s' → s₁.heap.get? a = none → Keeps s₁.heap s'.heap → Q (.ref a) s') : Made T vs Q s₁ := ⟨hs, _, _, _, _, _, S, h⟩
theorem Made.give {T : String} {vs : List Value} {Q : Value → Shared → Prop} {s₁ : Shared} (H : Made T vs Q s₁) : vs.length ≤ sizeLine ∧ Q (.ref s₁.heap.objs.size) { s₁ with heap := s₁.heap.push (seqObj T vs.toArray 0) } := by
  obtain ⟨hs, _, _, _, _, _, S, h⟩ := H
  exact ⟨Nat.le_trans hs (by rw [sizeLine_eq]; decide), h _ _ (S.new _ rfl) (Heap.get?_none_of_le (Nat.le_refl _)) fun _ _ e => Heap.get?_push_of_some _ e⟩
section
variable {w : World} {A : Around} {E : Value → Shared → Prop} {s : Shared} {env : Env}
noncomputable abbrev mdQ (T : String) (Q : Value → Shared → Prop) : List Value → Shared → Prop := fun vs s₁ => Made T vs Q s₁
theorem e_tup {elts : List Expr} {k : Nat} {pos : Pos} {Q : Value → Shared → Prop} (h : wpAny (model prog w) A (spliced (backTo pos (starEach elts env))) (mdQ "tuple" Q) E s) :
    wpAny (model prog w) A (eval (.Tuple elts k pos) env) Q E s :=
  wpAny_Tuple_spliced (wpAny_mono h (fun vs s₁ H => H.give) fun _ _ x => x)
theorem e_lst {elts : List Expr} {pos : Pos} {Q : Value → Shared → Prop} (h : wpAny (model prog w) A (spliced (backTo pos (starEach elts env))) (mdQ "list" Q) E s) :
    wpAny (model prog w) A (eval (.List elts pos) env) Q E s :=
  wpAny_List_spliced (wpAny_mono h (fun vs s₁ H => H.give) fun _ _ x => x)
end
set_option compiler.extract_closed false
local macro_rules | `(tactic| walk_at "put") => `(tactic| try simp only [put, ofString_inj, String.reduceEq, if_true, if_false, List.reverse_cons, List.reverse_nil, List.nil_append, List.cons_append, List.map_cons, List.map_nil] at *)
local macro_rules | `(tactic| walk_at "m eval") => `(tactic| first
  | ((with_reducible show wpAny _ _ (eval (.Name ..) _) ..); refine e_loc ‹_› (by rfl) ?_)
  | with_reducible refine Subscript_ ?_
  | with_reducible refine wpAny_BinOp ?_
  | ((with_reducible refine e_int ‹_› ?_); intro _ _ _)
  | ((with_reducible refine e_str ‹_› ?_); intro _ _ _)
  | with_reducible refine wpAny_Constant_none ?_
  | with_reducible refine wpAny_Constant_bool ?_
  | ((with_reducible show wpAny _ _ (eval (.Call (.Attribute ..) ..) _) ..); refine MethodCall_ ?_)
  | ((with_reducible show wpAny _ _ (eval (.Call (.Name ..) ..) _) ..); refine Call_ ?_)
  | ((with_reducible show wpAny _ _ (eval (.Attribute ..) _) ..); refine Attribute_any_ ?_)
  | with_reducible refine e_tup ?_
  | with_reducible refine e_lst ?_
  | with_reducible refine wpAny_IfExp ?_
  | ((with_reducible show wpAny _ _ (eval (.Compare ..) _) ..); refine wpAny_Compare1 ?_)
  | with_reducible refine UnaryOp_ ?_)
local macro_rules | `(tactic| walk_at "m isTrue") => `(tactic| first
  | ((with_reducible show wpAny _ _ (isTrue (.Compare ..) ..) ..); refine wpAny_isTrue_Compare1 ?_)
  | with_reducible refine isTrue_and ?_
  | with_reducible refine isTrue_and_nil ?_
  | with_reducible refine isTrue_or ?_
  | with_reducible refine isTrue_or_nil ?_
  | with_reducible refine isTrue_not ?_)
local macro_rules | `(tactic| walk_at "m exec") => `(tactic| first
  | ((with_reducible show wpAny _ _ (exec (.Assign [.Name ..] ..) _) ..); refine wpAny_Assign_Name ?_)
  | ((with_reducible show wpAny _ _ (exec (.Assign [.Subscript ..] ..) _) ..); refine wpAny_Assign_Subscript ?_)
  | with_reducible refine wpAny_If ?_
  | with_reducible refine wpAny_Return_some ?_
  | ((with_reducible show wpAny _ _ (exec (.Expr ..) _) ..); refine wpAny_Expr_any ?_)
  | with_reducible refine wpAny_Break ?_
  | with_reducible refine wpAny_Continue ?_)
local macro_rules | `(tactic| walk_at "m binop") => `(tactic| first
  | ((with_reducible refine b_add ‹_› ?_); intro _ _ _)
  | ((with_reducible refine b_sub ‹_› ?_); intro _ _ _)
  | ((with_reducible refine b_mul ‹_› ?_ ?_); mul_fits; intro _ _ _)
  | ((with_reducible refine b_fdiv ‹_› ?_ ?_ ?_); decide; decide; intro _ _ _)
  | ((with_reducible refine b_mod ‹_› ?_ ?_); decide; intro _ _ _)
  | ((with_reducible refine b_and ‹_› ?_); intro _ _ _))
local macro_rules | `(tactic| walk_at "m cmp") => `(tactic| first
  | with_reducible refine PyProof.Rows.is_ref_none ?_
  | with_reducible refine PyProof.Rows.is_none_none ?_
  | with_reducible refine PyProof.Rows.lt_int ?_
  | with_reducible refine PyProof.Rows.gt_int ?_
  | with_reducible refine PyProof.Rows.ge_int ?_
  | with_reducible refine PyProof.Rows.le_int ?_
  | with_reducible refine PyProof.Rows.eq_int ?_
  | with_reducible refine PyProof.Rows.ne_int ?_)
local macro_rules | `(tactic| walk_at "e") => `(tactic| first
  | ((with_reducible show wpAny _ _ (eval ..) ..); walk_at "m eval")
  | ((with_reducible show wpAny _ _ (exec ..) ..); walk_at "m exec")
  | ((with_reducible show wpAny _ _ (storeName ..) ..); refine s_loc ‹_› ?_; intro _ _)
  | ((with_reducible show wpAny _ _ (binaryOp ..) ..); walk_at "m binop")
  | ((with_reducible show wpAny _ _ (compareOp ..) ..); walk_at "m cmp")
  | walk_at "m isTrue"
  | with_reducible refine wpAny_truthy_bool ?_
  | with_reducible refine wpAny_assign_Name ?_
  | with_reducible refine wpAny_execs_nil ?_
  | ((with_reducible show wpAny _ _ (callWith _ (.builtin _) ..) ..); first | refine callWith_method1 ?_ | refine callWith_method0 ?_)
  | ((with_reducible show Made ..); refine Made.go ‹_› (by first | decide | (simp; done)) ?_; intro _ _ _ _ _)
  | ((with_reducible show wpAny _ _ (spliced _) ..); first | refine spliced_more ?_ | refine spliced_none ?_)
  | ((with_reducible show wpAny _ _ (callWith _ (.type _) ..) ..); refine callWith_type1 ?_))
local macro_rules | `(tactic| walk_at "1") => `(tactic| first
  | with_reducible refine x_cons ?_
  | walk_at "e")
local macro_rules | `(tactic| walk_at "st") => `(tactic| ((with_reducible refine x_cons ?_); repeat (walk_at "e")))
local macro_rules | `(tactic| walk_at "w") => `(tactic| first
  | with_reducible refine if_ff ?_
  | with_reducible refine if_tt ?_
  | walk_at "1")
local macro_rules | `(tactic| walk_at "n") => `(tactic| first | exact (Eq.refl _ : _ = [_]) | exact (Eq.refl _ : _ = [_, _]) | exact (Eq.refl _ : _ = [_, _, _]) | exact (Eq.refl _ : _ = [_, _, _, _]) | exact (Eq.refl _ : _ = [_, _, _, _, _]) | exact (Eq.refl _ : _ = [_, _, _, _, _, _]) | exact (Eq.refl _ : _ = [_, _, _, _, _, _, _]) | exact (Eq.refl _ : _ = [_, _, _, _, _, _, _, _]) | exact (Eq.refl _ : _ = [_, _, _, _, _, _, _, _, _]) | exact (Eq.refl _ : _ = [_, _, _, _, _, _, _, _, _, _]) | exact (Eq.refl _ : _ = [_, _, _, _, _, _, _, _, _, _, _]))
local macro_rules | `(tactic| walk_at "l") => `(tactic| first
  | with_reducible assumption
  | with_reducible exact Nat.lt_of_le_of_lt (Nat.le_add_right _ _) ‹_›
  | with_reducible exact Nat.lt_of_le_of_ne ‹_› ‹_›
  | with_reducible exact Nat.succ_le_of_lt (Nat.lt_of_le_of_ne ‹_› ‹_›)
  | with_reducible exact sub_dec ‹_› ‹_›
  | with_reducible exact Nat.lt_trans ‹_› ‹_›
  | with_reducible exact Nat.lt_of_lt_of_le ‹_› ‹_›
  | with_reducible exact Nat.lt_of_le_of_lt ‹_› ‹_›
  | with_reducible exact Nat.le_trans ‹_› ‹_›
  | with_reducible exact Nat.le_of_lt ‹_›
  | with_reducible exact Nat.lt_succ_of_lt ‹_›
  | with_reducible exact Nat.le_of_lt_succ ‹_›
  | with_reducible exact Nat.lt_succ_self _
  | with_reducible exact len_small ‹_› ‹_›
  | with_reducible exact len_small2 ‹_› ‹_› ‹_›
  | with_reducible exact len_eq ‹_› ‹_›
  | ((with_reducible refine Nat.lt_of_le_of_lt (Nat.add_le_add_left ?_ _) ‹_›); decide)
  | ((with_reducible refine Nat.le_trans ‹_› ?_); decide)
  | lia)

noncomputable def CmpOk (w : World) (g : Heap) (P : Value → Prop) (lt : Value → Value → Bool) : Prop :=
  ∀ x y, P x → P y → ∀ (A : Around) (E : Value → Shared → Prop) (Q : Value → Shared → Prop) (s : Shared), A.units + 20 < cLine → Keeps g s.heap →
    Q (.bool (lt x y)) s → wpAny (model prog w) A (compareOp .Lt x y) Q E s

theorem CmpOk.keeps {w : World} {g g' : Heap} {P : Value → Prop} {lt : Value → Value → Bool} (C : CmpOk w g P lt) (k : Keeps g g') : CmpOk w g' P lt :=
  fun x y hx hy A E Q s hu hk h => C x y hx hy A E Q s hu (k.trans hk) h

section
variable {α : Type}
noncomputable def sdLoop (lt : α → α → Bool) (new : α) (start pos : Nat) (xs : List α) : List α × Nat :=
  if _h : start < pos then
    match xs[(pos - 1) / 2]? with
    | some parent => if lt new parent then sdLoop lt new start ((pos - 1) / 2) (xs.set pos parent) else (xs, pos)
    | none => (xs, pos)
  else (xs, pos)
termination_by pos
decreasing_by exact Nat.lt_of_le_of_lt (Nat.div_le_self _ _) (Nat.sub_lt (Nat.lt_of_le_of_lt (Nat.zero_le _) ‹_›) (by decide))
noncomputable def sdown (lt : α → α → Bool) (new : α) (start pos : Nat) (xs : List α) : List α :=
  (sdLoop lt new start pos xs).1.set (sdLoop lt new start pos xs).2 new
theorem sdLoop_stop (lt : α → α → Bool) (new : α) (start pos : Nat) (xs : List α) (h : ¬ start < pos) : sdLoop lt new start pos xs = (xs, pos) := by
  rw [sdLoop, dif_neg h]
theorem sdLoop_go (lt : α → α → Bool) (new : α) (start pos : Nat) (xs : List α) (h : start < pos) {parent : α} (hp : xs[(pos - 1) / 2]? = some parent) :
    sdLoop lt new start pos xs = if lt new parent then sdLoop lt new start ((pos - 1) / 2) (xs.set pos parent) else (xs, pos) := by
  rw [sdLoop, dif_pos h, hp]
noncomputable def suLoop (lt : α → α → Bool) (end' pos : Nat) (xs : List α) : List α × Nat :=
  if _h : 2 * pos + 1 < end' then
    match xs[2 * pos + 1]? with
    | some c => match xs[2 * pos + 2]? with
      | some r => if 2 * pos + 2 < end' ∧ lt c r = false then suLoop lt end' (2 * pos + 2) (xs.set pos r) else suLoop lt end' (2 * pos + 1) (xs.set pos c)
      | none => suLoop lt end' (2 * pos + 1) (xs.set pos c)
    | none => (xs, pos)
  else (xs, pos)
termination_by end' - pos
decreasing_by all_goals first | exact Nat.sub_lt_sub_left (Nat.lt_trans two1 ‹_›) two1 | exact Nat.sub_lt_sub_left (Nat.lt_trans two1 ‹_›) two2
noncomputable def sup (lt : α → α → Bool) (pos : Nat) (xs : List α) : List α := match xs[pos]? with
  | some new => sdown lt new pos (suLoop lt xs.length pos xs).2 ((suLoop lt xs.length pos xs).1.set (suLoop lt xs.length pos xs).2 new)
  | none => xs
theorem suLoop_stop (lt : α → α → Bool) (end' pos : Nat) (xs : List α) (h : ¬ 2 * pos + 1 < end') : suLoop lt end' pos xs = (xs, pos) := by
  rw [suLoop, dif_neg h]
theorem suLoop_right (lt : α → α → Bool) (end' pos : Nat) (xs : List α) (h : 2 * pos + 2 < end') {c r : α} (hc : xs[2 * pos + 1]? = some c) (hr : xs[2 * pos + 2]? = some r) (hl : lt c r = false) :
    suLoop lt end' pos xs = suLoop lt end' (2 * pos + 2) (xs.set pos r) := by
  rw [suLoop, dif_pos (by walk_at "l"), hc, hr]
  simp only [h, hl, and_self, if_true]
theorem suLoop_left (lt : α → α → Bool) (end' pos : Nat) (xs : List α) (h : 2 * pos + 1 < end') {c : α} (hc : xs[2 * pos + 1]? = some c) (hr : ∀ r, 2 * pos + 2 < end' → xs[2 * pos + 2]? = some r → lt c r = true) :
    suLoop lt end' pos xs = suLoop lt end' (2 * pos + 1) (xs.set pos c) := by
  rw [suLoop, dif_pos h, hc]
  dsimp only
  cases hq : xs[2 * pos + 2]? with
  | none => rfl
  | some r =>
    dsimp only
    by_cases h2 : 2 * pos + 2 < end'
    · have := hr r h2 hq
      simp [this]
    · simp [h2]
end

section
variable {w : World} {A : Around} {E : Value → Shared → Prop} {s : Shared} {g g₀ : Heap} {L : Addr} {l : List (Str × Value)} {N : List (Addr × Obj)} {o : OsState} {mg mb : Str → Option Value}

theorem siftdown_max_ok {l : Addr} {e : Nat} {xs : List Value} {lt} {P : Value → Prop} {sp p : Nat} {new : Value} {t1 t2 : Tok} {Q : Value → Shared → Prop}
    (G : Gl mg mb g₀) (K : Keeps g₀ s.heap) (hd : A.depth + 5 < recursionLimit) (hu : A.units + 50 < cLine) (hg : AllBare s.gens) (hlo : s.heap.get? l = some (seqObj "list" xs.toArray e))
    (C : CmpOk w (hideAll s.heap [l]) P lt) (hP : ∀ x ∈ xs, P x) (h2 : xs[p]? = some new) (h3 : xs.length < 1000)
    (h : ∀ s', KeepsBut [l] s.heap s'.heap → s'.heap.get? l = some (seqObj "list" (sdown (fun x y => lt y x) new sp p xs).toArray e) → s'.os = s.os → AllBare s'.gens → Q .none s') :
    wpAny (model prog w) A (call (.ref 70) [.ref l, .int sp t1, .int p t2]) Q E s := by
  have hlt : p < xs.length := by obtain ⟨q, _⟩ := List.getElem?_eq_some_iff.mp h2; exact q
  have hPn : P new := hP _ (List.mem_of_getElem? h2)
  refine call_fn (N := [(l, seqObj "list" xs.toArray e)]) (binds := [(Str.ofString "heap", .ref l), (Str.ofString "startpos", .int sp t1), (Str.ofString "pos", .int p t2)]) G.lim K G.f70 (by walk_at "l")
    (by intro q hq; simp at hq; subst hq; exact hlo) hg rfl (.of_eq rfl) rfl rfl (by simp) ?_
  intro L s₁ S
  walk_at "put"
  repeat (walk_at "1")
  refine i_list (S.at (.head _)) rfl (by walk_at "l") h2 ?_
  repeat (walk_at "1")
  refine w_while (fun n s' => Ex3 fun (q : Nat) (t : Tok) (ys : List Value) => An6 (n = q) (St (hideAll s.heap [l]) L [(Str.ofString "pos", .int q t), (Str.ofString "startpos", .int sp t1), (Str.ofString "heap", .ref l), (Str.ofString "newitem", new)]
      [(l, seqObj "list" ys.toArray e)] s.os s') (q < ys.length) (ys.length < 1000) ((∀ x ∈ ys, P x)) (sdLoop (fun x y => lt y x) new sp q ys = sdLoop (fun x y => lt y x) new sp p xs))
    (fun s' => Ex3 fun (q : Nat) (t : Tok) (ys : List Value) => An4 (St (hideAll s.heap [l]) L [(Str.ofString "pos", .int q t), (Str.ofString "heap", .ref l), (Str.ofString "newitem", new)]
      [(l, seqObj "list" ys.toArray e)] s.os s') (q < ys.length) (ys.length < 1000) ((ys, q) = sdLoop (fun x y => lt y x) new sp p xs))
    p ⟨p, t2, xs, rfl, by assumption, hlt, h3, hP, rfl⟩ ?_ ?_
  · intro n s' hI₁ Q₁ X₁ hQ₁ hX₁
    obtain ⟨q, t, ys, rfl, S, hq, hy, hPy, hr⟩ := hI₁
    repeat (walk_at "1")
    refine ite_dec (fun hc => ?_) (fun hc => ?_)
    · repeat (walk_at "1")
      have hn0 : 0 < n := by lia
      have hpp : (n - 1) / 2 < n := Nat.lt_of_le_of_lt (Nat.div_le_self _ _) (Nat.sub_lt hn0 (by decide))
      refine b_shr1 (n := n - 1) (by assumption) (Int.ofNat_sub (Nat.succ_le_of_lt hn0)).symm ?_
      intro _ _ _
      repeat (walk_at "1")
      rename St _ _ _ _ _ _ => S
      have hpl : (n - 1) / 2 < ys.length := Nat.lt_trans hpp ‹_›
      refine i_list (S.at (.head _)) rfl (by walk_at "l") (List.getElem?_eq_getElem hpl) ?_
      repeat (walk_at "1")
      rename St _ _ _ _ _ _ => S
      refine C _ _ (hPy _ (List.getElem_mem hpl)) hPn _ _ _ _ (du hu (by decide)) S.kept ?_
      have S' := S
      rw [sdLoop_go (parent := ys[(n - 1) / 2]) (hp := List.getElem?_eq_getElem hpl) (h := by walk_at "l")] at hr
      walk_at "1"
      refine ite_bool (fun hb => ?_) (fun hb => ?_)
      · rw [if_pos hb] at hr
        repeat (walk_at "1")
        refine si_list (S'.at (.head _)) rfl (by walk_at "l") hq (fun h' hs ho => ?_)
        have S2 := S'.upd 0 rfl hs ho
        repeat (walk_at "1")
        rename St _ _ _ _ _ _ => S3
        refine hQ₁ _ _ ⟨(n - 1) / 2, hpp, (n - 1) / 2, _, ys.set n ys[(n - 1) / 2], rfl, S3.weak rfl, by simpa using hpl, by simpa using hy, ?_, hr⟩
        intro x hx
        rcases List.mem_or_eq_of_mem_set hx with hx | hx
        · exact hPy x hx
        · rw [hx]; exact hPy _ (List.getElem_mem hpl)
      · rw [if_neg (by rw [hb]; exact Bool.false_ne_true)] at hr
        repeat (walk_at "1")
        exact hQ₁ _ _ ⟨n, t, ys, S'.weak rfl, hq, hy, hr⟩
    · exact hX₁ _ ⟨n, t, ys, S.weak rfl, hq, hy, by rw [← hr, sdLoop_stop _ _ _ _ _ (by walk_at "l")]⟩
  · rintro s' ⟨n, t, ys, S, hq, hy, hr⟩
    repeat (walk_at "1")
    refine si_list (S.at (.head _)) rfl (by walk_at "l") hq (fun h' hs ho => ?_)
    have S2 := S.upd 0 rfl hs ho
    repeat (walk_at "1")
    refine h _ S2.keepsBut ?_ S2.os S2.gn
    rw [sdown, ← hr]
    exact ho
theorem siftdown_ok {l : Addr} {e : Nat} {xs : List Value} {lt} {P : Value → Prop} {sp p : Nat} {new : Value} {t1 t2 : Tok} {Q : Value → Shared → Prop}
    (G : Gl mg mb g₀) (K : Keeps g₀ s.heap) (hd : A.depth + 5 < recursionLimit) (hu : A.units + 50 < cLine) (hg : AllBare s.gens) (hlo : s.heap.get? l = some (seqObj "list" xs.toArray e))
    (C : CmpOk w (hideAll s.heap [l]) P lt) (hP : ∀ x ∈ xs, P x) (h2 : xs[p]? = some new) (h3 : xs.length < 1000)
    (h : ∀ s', KeepsBut [l] s.heap s'.heap → s'.heap.get? l = some (seqObj "list" (sdown lt new sp p xs).toArray e) → s'.os = s.os → AllBare s'.gens → Q .none s') :
    wpAny (model prog w) A (call (.ref 56) [.ref l, .int sp t1, .int p t2]) Q E s := by
  have hlt : p < xs.length := by obtain ⟨q, _⟩ := List.getElem?_eq_some_iff.mp h2; exact q
  have hPn : P new := hP _ (List.mem_of_getElem? h2)
  refine call_fn (N := [(l, seqObj "list" xs.toArray e)]) (binds := [(Str.ofString "heap", .ref l), (Str.ofString "startpos", .int sp t1), (Str.ofString "pos", .int p t2)]) G.lim K G.f56 (by walk_at "l")
    (by intro q hq; simp at hq; subst hq; exact hlo) hg rfl (.of_eq rfl) rfl rfl (by simp) ?_
  intro L s₁ S
  walk_at "put"
  repeat (walk_at "1")
  refine i_list (S.at (.head _)) rfl (by walk_at "l") h2 ?_
  repeat (walk_at "1")
  refine w_while (fun n s' => Ex3 fun (q : Nat) (t : Tok) (ys : List Value) => An6 (n = q) (St (hideAll s.heap [l]) L [(Str.ofString "pos", .int q t), (Str.ofString "startpos", .int sp t1), (Str.ofString "heap", .ref l), (Str.ofString "newitem", new)]
      [(l, seqObj "list" ys.toArray e)] s.os s') (q < ys.length) (ys.length < 1000) ((∀ x ∈ ys, P x)) (sdLoop lt new sp q ys = sdLoop lt new sp p xs))
    (fun s' => Ex3 fun (q : Nat) (t : Tok) (ys : List Value) => An4 (St (hideAll s.heap [l]) L [(Str.ofString "pos", .int q t), (Str.ofString "heap", .ref l), (Str.ofString "newitem", new)]
      [(l, seqObj "list" ys.toArray e)] s.os s') (q < ys.length) (ys.length < 1000) ((ys, q) = sdLoop lt new sp p xs))
    p ⟨p, t2, xs, rfl, by assumption, hlt, h3, hP, rfl⟩ ?_ ?_
  · intro n s' hI₁ Q₁ X₁ hQ₁ hX₁
    obtain ⟨q, t, ys, rfl, S, hq, hy, hPy, hr⟩ := hI₁
    repeat (walk_at "1")
    refine ite_dec (fun hc => ?_) (fun hc => ?_)
    · repeat (walk_at "1")
      have hn0 : 0 < n := by lia
      have hpp : (n - 1) / 2 < n := Nat.lt_of_le_of_lt (Nat.div_le_self _ _) (Nat.sub_lt hn0 (by decide))
      refine b_shr1 (n := n - 1) (by assumption) (Int.ofNat_sub (Nat.succ_le_of_lt hn0)).symm ?_
      intro _ _ _
      repeat (walk_at "1")
      rename St _ _ _ _ _ _ => S
      have hpl : (n - 1) / 2 < ys.length := Nat.lt_trans hpp ‹_›
      refine i_list (S.at (.head _)) rfl (by walk_at "l") (List.getElem?_eq_getElem hpl) ?_
      repeat (walk_at "1")
      rename St _ _ _ _ _ _ => S
      refine C _ _ hPn (hPy _ (List.getElem_mem hpl)) _ _ _ _ (du hu (by decide)) S.kept ?_
      have S' := S
      rw [sdLoop_go (parent := ys[(n - 1) / 2]) (hp := List.getElem?_eq_getElem hpl) (h := by walk_at "l")] at hr
      walk_at "1"
      refine ite_bool (fun hb => ?_) (fun hb => ?_)
      · rw [if_pos hb] at hr
        repeat (walk_at "1")
        refine si_list (S'.at (.head _)) rfl (by walk_at "l") hq (fun h' hs ho => ?_)
        have S2 := S'.upd 0 rfl hs ho
        repeat (walk_at "1")
        rename St _ _ _ _ _ _ => S3
        refine hQ₁ _ _ ⟨(n - 1) / 2, hpp, (n - 1) / 2, _, ys.set n ys[(n - 1) / 2], rfl, S3.weak rfl, by simpa using hpl, by simpa using hy, ?_, hr⟩
        intro x hx
        rcases List.mem_or_eq_of_mem_set hx with hx | hx
        · exact hPy x hx
        · rw [hx]; exact hPy _ (List.getElem_mem hpl)
      · rw [if_neg (by rw [hb]; exact Bool.false_ne_true)] at hr
        repeat (walk_at "1")
        exact hQ₁ _ _ ⟨n, t, ys, S'.weak rfl, hq, hy, hr⟩
    · exact hX₁ _ ⟨n, t, ys, S.weak rfl, hq, hy, by rw [← hr, sdLoop_stop _ _ _ _ _ (by walk_at "l")]⟩
  · rintro s' ⟨n, t, ys, S, hq, hy, hr⟩
    repeat (walk_at "1")
    refine si_list (S.at (.head _)) rfl (by walk_at "l") hq (fun h' hs ho => ?_)
    have S2 := S.upd 0 rfl hs ho
    repeat (walk_at "1")
    refine h _ S2.keepsBut ?_ S2.os S2.gn
    rw [sdown, ← hr]
    exact ho
end

section
variable {w : World} {A : Around} {E : Value → Shared → Prop} {s : Shared} {g g₀ : Heap} {L : Addr} {l : List (Str × Value)} {N : List (Addr × Obj)} {o : OsState} {mg mb : Str → Option Value}

theorem siftup_max_ok {l : Addr} {e : Nat} {xs : List Value} {lt} {P : Value → Prop} {p : Nat} {t2 : Tok} {Q : Value → Shared → Prop}
    (G : Gl mg mb g₀) (K : Keeps g₀ s.heap) (hl0 : g₀.get? l = none) (hd : A.depth + 10 < recursionLimit) (hu : A.units + 60 < cLine) (hg : AllBare s.gens) (hlo : s.heap.get? l = some (seqObj "list" xs.toArray e))
    (C : CmpOk w (hideAll s.heap [l]) P lt) (hP : ∀ x ∈ xs, P x) (hlt : p < xs.length) (h3 : xs.length < 1000)
    (h : ∀ s', KeepsBut [l] s.heap s'.heap → s'.heap.get? l = some (seqObj "list" (sup (fun x y => lt y x) p xs).toArray e) → s'.os = s.os → AllBare s'.gens → Q .none s') :
    wpAny (model prog w) A (call (.ref 77) [.ref l, .int p t2]) Q E s := by
  have Kg : Keeps g₀ (hideAll s.heap [l]) := K.hide (by intro a ha; simp at ha; rw [ha]; exact hl0)
  have Gg := G.keeps Kg
  refine call_fn (N := [(l, seqObj "list" xs.toArray e)]) (binds := [(Str.ofString "heap", .ref l), (Str.ofString "pos", .int p t2)]) G.lim K G.f77 (by walk_at "l")
    (by intro q hq; simp at hq; subst hq; exact hlo) hg rfl (.of_eq rfl) rfl rfl (by simp) ?_
  intro L s₁ S
  walk_at "put"
  repeat (walk_at "1")
  refine e_blt S Gg.gs Gg.bs Gg.len0 Gg.len1 ?_
  repeat (walk_at "1")
  refine c_len S (S.at (.head _)) (by walk_at "l") ?_
  intro t3 s₂ S
  repeat (walk_at "1")
  rename St _ _ _ _ _ _ => S
  refine i_list (S.at (.head _)) rfl (by walk_at "l") (List.getElem?_eq_getElem hlt) ?_
  repeat (walk_at "1")
  refine w_while (fun n s' => Ex4 fun (q : Nat) (tq tc : Tok) (ys : List Value) => An6 (n = xs.length - q) (St (hideAll s.heap [l]) L [(Str.ofString "pos", .int q tq), (Str.ofString "heap", .ref l), (Str.ofString "endpos", .int xs.length t3), (Str.ofString "startpos", .int p t2),
        (Str.ofString "newitem", xs[p]), (Str.ofString "childpos", .int (2 * (q : Int) + 1) tc)] [(l, seqObj "list" ys.toArray e)] s.os s') (q < ys.length) (ys.length = xs.length) ((∀ x ∈ ys, P x)) (suLoop (fun x y => lt y x) xs.length q ys = suLoop (fun x y => lt y x) xs.length p xs))
    (fun s' => Ex3 fun (q : Nat) (tq : Tok) (ys : List Value) => An5 (St (hideAll s.heap [l]) L [(Str.ofString "pos", .int q tq), (Str.ofString "heap", .ref l), (Str.ofString "startpos", .int p t2), (Str.ofString "newitem", xs[p])]
        [(l, seqObj "list" ys.toArray e)] s.os s') (q < ys.length) (ys.length = xs.length) ((∀ x ∈ ys, P x)) ((ys, q) = suLoop (fun x y => lt y x) xs.length p xs))
    (xs.length - p) ⟨p, t2, _, xs, rfl, by assumption, hlt, rfl, hP, rfl⟩ ?_ ?_
  · intro n s' hI₁ Q₁ X₁ hQ₁ hX₁
    obtain ⟨q, tq, tc, ys, rfl, S, hq, hy, hPy, hr⟩ := hI₁
    repeat (walk_at "1")
    refine ite_dec (fun hc => ?_) (fun hc => ?_)
    · walk_at "st"
      have hcl : 2 * q + 1 < ys.length := by walk_at "l"
      refine w_cut (fun s' => Ex2 fun (c : Nat) (tc : Tok) => An3 (St (hideAll s.heap [l]) L [(Str.ofString "pos", .int q tq), (Str.ofString "heap", .ref l), (Str.ofString "endpos", .int xs.length t3), (Str.ofString "startpos", .int p t2),
        (Str.ofString "newitem", xs[p]), (Str.ofString "childpos", .int (c : Int) tc)] [(l, seqObj "list" ys.toArray e)] s.os s') (q < c) (∃ hc : c < ys.length, suLoop (fun x y => lt y x) xs.length c (ys.set q ys[c]) = suLoop (fun x y => lt y x) xs.length q ys)) ?_ ?_
      · intro X₂ hX₂
        repeat (walk_at "1")
        rename St _ _ _ _ _ _ => S
        refine ite_dec (fun hc2 => ?_) (fun hc2 => ?_)
        · have hrl : 2 * q + 2 < ys.length := by walk_at "l"
          repeat (walk_at "1")
          refine i_list (n := 2 * q + 2) (S.at (.head _)) (by walk_at "l") (by walk_at "l") (List.getElem?_eq_getElem hrl) ?_
          repeat (walk_at "1")
          refine i_list (n := 2 * q + 1) (S.at (.head _)) (by walk_at "l") (by walk_at "l") (List.getElem?_eq_getElem hcl) ?_
          refine C _ _ (hPy _ (List.getElem_mem _)) (hPy _ (List.getElem_mem _)) _ _ _ _ (du hu (by decide)) S.kept ?_
          have S' := S
          repeat (walk_at "1")
          refine ite_bool (fun hb => ?_) (fun hb => ?_)
          · repeat (walk_at "1")
            refine ite_bool (fun _ => ?_) (fun hx => ?_)
            · repeat (walk_at "1")
              rename St _ _ _ _ _ _ => S3
              refine ⟨rfl, hX₂ _ ⟨2 * q + 2, _, S3.weak rfl, by walk_at "l", hrl, ?_⟩⟩
              exact (suLoop_right _ _ _ _ (by walk_at "l") (List.getElem?_eq_getElem hcl) (List.getElem?_eq_getElem hrl) (by simpa using hb)).symm
            · cases hx
          · refine ite_bool (fun hx => ?_) (fun _ => ?_)
            · cases hx
            · repeat (walk_at "1")
              refine ⟨rfl, hX₂ _ ⟨2 * q + 1, _, S'.weak rfl, by walk_at "l", hcl, ?_⟩⟩
              exact (suLoop_left _ _ _ _ (by walk_at "l") (List.getElem?_eq_getElem hcl) (fun r h1 h2 => by rw [List.getElem?_eq_getElem hrl] at h2; cases h2; simpa using hb)).symm
        · refine ite_bool (fun hx => ?_) (fun _ => ?_)
          · cases hx
          · repeat (walk_at "1")
            refine ⟨rfl, hX₂ _ ⟨2 * q + 1, _, S.weak rfl, by walk_at "l", hcl, ?_⟩⟩
            exact (suLoop_left _ _ _ _ (by walk_at "l") (List.getElem?_eq_getElem hcl) (fun r h1 h2 => by walk_at "l")).symm
      · rintro s₃ ⟨c, tc2, S, hqc, hcy, hr2⟩
        repeat (walk_at "1")
        refine i_list (S.at (.head _)) rfl (by walk_at "l") (List.getElem?_eq_getElem hcy) ?_
        repeat (walk_at "1")
        refine si_list (S.at (.head _)) rfl (by walk_at "l") hq (fun h' hs ho => ?_)
        have S2 := S.upd 0 rfl hs ho
        repeat (walk_at "1")
        rename St _ _ _ _ _ _ => S3
        refine hQ₁ _ _ ⟨xs.length - c, Nat.sub_lt_sub_left (hy ▸ hq) ‹q < c›, c, _, _, ys.set q ys[c], rfl, S3.weak rfl, by simpa using hcy, by simpa using hy, ?_, hr2.trans hr⟩
        intro x hx
        rcases List.mem_or_eq_of_mem_set hx with hx | hx
        · exact hPy x hx
        · rw [hx]; exact hPy _ (List.getElem_mem hcy)
    · exact hX₁ _ ⟨q, tq, ys, S.weak rfl, hq, hy, hPy, by rw [← hr, suLoop_stop _ _ _ _ (by walk_at "l")]⟩
  · rintro s₃ ⟨q, tq, ys, S, hq, hy, hPy, hr⟩
    repeat (walk_at "1")
    refine si_list (S.at (.head _)) rfl (by walk_at "l") hq (fun h' hs ho => ?_)
    have S2 := S.upd 0 rfl hs ho
    repeat (walk_at "1")
    refine e_glob S2 Gg.gs Gg.n70 ?_
    refine c_fn Gg.f70 ?_
    repeat (walk_at "1")
    refine ⟨⟨_, _, _, _, S2⟩, ?_⟩
    refine siftdown_max_ok Gg S2.kept (dd hd (by decide)) (du hu (by decide)) S2.gn (S2.at (.head _)) (C.keeps S2.kept.hide2) ?_ (List.getElem?_set_self hq) (by simpa using (by walk_at "l")) ?_
    · intro x hx
      rcases List.mem_or_eq_of_mem_set hx with hx | hx
      · exact hPy x hx
      · rw [hx]; exact hP _ (List.getElem_mem hlt)
    · intro s₄ k1 k2 k3 k4
      repeat (walk_at "1")
      refine h s₄ (fun b o hb e => k1 b o hb (S2.keepsBut b o hb e)) ?_ (k3.trans S2.os) k4
      rw [k2, sup, List.getElem?_eq_getElem hlt, ← hr]
theorem siftup_ok {l : Addr} {e : Nat} {xs : List Value} {lt} {P : Value → Prop} {p : Nat} {t2 : Tok} {Q : Value → Shared → Prop}
    (G : Gl mg mb g₀) (K : Keeps g₀ s.heap) (hl0 : g₀.get? l = none) (hd : A.depth + 10 < recursionLimit) (hu : A.units + 60 < cLine) (hg : AllBare s.gens) (hlo : s.heap.get? l = some (seqObj "list" xs.toArray e))
    (C : CmpOk w (hideAll s.heap [l]) P lt) (hP : ∀ x ∈ xs, P x) (hlt : p < xs.length) (h3 : xs.length < 1000)
    (h : ∀ s', KeepsBut [l] s.heap s'.heap → s'.heap.get? l = some (seqObj "list" (sup lt p xs).toArray e) → s'.os = s.os → AllBare s'.gens → Q .none s') :
    wpAny (model prog w) A (call (.ref 63) [.ref l, .int p t2]) Q E s := by
  have Kg : Keeps g₀ (hideAll s.heap [l]) := K.hide (by intro a ha; simp at ha; rw [ha]; exact hl0)
  have Gg := G.keeps Kg
  refine call_fn (N := [(l, seqObj "list" xs.toArray e)]) (binds := [(Str.ofString "heap", .ref l), (Str.ofString "pos", .int p t2)]) G.lim K G.f63 (by walk_at "l")
    (by intro q hq; simp at hq; subst hq; exact hlo) hg rfl (.of_eq rfl) rfl rfl (by simp) ?_
  intro L s₁ S
  walk_at "put"
  repeat (walk_at "1")
  refine e_blt S Gg.gs Gg.bs Gg.len0 Gg.len1 ?_
  repeat (walk_at "1")
  refine c_len S (S.at (.head _)) (by walk_at "l") ?_
  intro t3 s₂ S
  repeat (walk_at "1")
  rename St _ _ _ _ _ _ => S
  refine i_list (S.at (.head _)) rfl (by walk_at "l") (List.getElem?_eq_getElem hlt) ?_
  repeat (walk_at "1")
  refine w_while (fun n s' => Ex4 fun (q : Nat) (tq tc : Tok) (ys : List Value) => An6 (n = xs.length - q) (St (hideAll s.heap [l]) L [(Str.ofString "pos", .int q tq), (Str.ofString "heap", .ref l), (Str.ofString "endpos", .int xs.length t3), (Str.ofString "startpos", .int p t2),
        (Str.ofString "newitem", xs[p]), (Str.ofString "childpos", .int (2 * (q : Int) + 1) tc)] [(l, seqObj "list" ys.toArray e)] s.os s') (q < ys.length) (ys.length = xs.length) ((∀ x ∈ ys, P x)) (suLoop lt xs.length q ys = suLoop lt xs.length p xs))
    (fun s' => Ex3 fun (q : Nat) (tq : Tok) (ys : List Value) => An5 (St (hideAll s.heap [l]) L [(Str.ofString "pos", .int q tq), (Str.ofString "heap", .ref l), (Str.ofString "startpos", .int p t2), (Str.ofString "newitem", xs[p])]
        [(l, seqObj "list" ys.toArray e)] s.os s') (q < ys.length) (ys.length = xs.length) ((∀ x ∈ ys, P x)) ((ys, q) = suLoop lt xs.length p xs))
    (xs.length - p) ⟨p, t2, _, xs, rfl, by assumption, hlt, rfl, hP, rfl⟩ ?_ ?_
  · intro n s' hI₁ Q₁ X₁ hQ₁ hX₁
    obtain ⟨q, tq, tc, ys, rfl, S, hq, hy, hPy, hr⟩ := hI₁
    repeat (walk_at "1")
    refine ite_dec (fun hc => ?_) (fun hc => ?_)
    · walk_at "st"
      have hcl : 2 * q + 1 < ys.length := by walk_at "l"
      refine w_cut (fun s' => Ex2 fun (c : Nat) (tc : Tok) => An3 (St (hideAll s.heap [l]) L [(Str.ofString "pos", .int q tq), (Str.ofString "heap", .ref l), (Str.ofString "endpos", .int xs.length t3), (Str.ofString "startpos", .int p t2),
        (Str.ofString "newitem", xs[p]), (Str.ofString "childpos", .int (c : Int) tc)] [(l, seqObj "list" ys.toArray e)] s.os s') (q < c) (∃ hc : c < ys.length, suLoop lt xs.length c (ys.set q ys[c]) = suLoop lt xs.length q ys)) ?_ ?_
      · intro X₂ hX₂
        repeat (walk_at "1")
        rename St _ _ _ _ _ _ => S
        refine ite_dec (fun hc2 => ?_) (fun hc2 => ?_)
        · have hrl : 2 * q + 2 < ys.length := by walk_at "l"
          repeat (walk_at "1")
          refine i_list (n := 2 * q + 1) (S.at (.head _)) (by walk_at "l") (by walk_at "l") (List.getElem?_eq_getElem hcl) ?_
          repeat (walk_at "1")
          refine i_list (n := 2 * q + 2) (S.at (.head _)) (by walk_at "l") (by walk_at "l") (List.getElem?_eq_getElem hrl) ?_
          refine C _ _ (hPy _ (List.getElem_mem _)) (hPy _ (List.getElem_mem _)) _ _ _ _ (du hu (by decide)) S.kept ?_
          have S' := S
          repeat (walk_at "1")
          refine ite_bool (fun hb => ?_) (fun hb => ?_)
          · repeat (walk_at "1")
            refine ite_bool (fun _ => ?_) (fun hx => ?_)
            · repeat (walk_at "1")
              rename St _ _ _ _ _ _ => S3
              refine ⟨rfl, hX₂ _ ⟨2 * q + 2, _, S3.weak rfl, by walk_at "l", hrl, ?_⟩⟩
              exact (suLoop_right _ _ _ _ (by walk_at "l") (List.getElem?_eq_getElem hcl) (List.getElem?_eq_getElem hrl) (by simpa using hb)).symm
            · cases hx
          · refine ite_bool (fun hx => ?_) (fun _ => ?_)
            · cases hx
            · repeat (walk_at "1")
              refine ⟨rfl, hX₂ _ ⟨2 * q + 1, _, S'.weak rfl, by walk_at "l", hcl, ?_⟩⟩
              exact (suLoop_left _ _ _ _ (by walk_at "l") (List.getElem?_eq_getElem hcl) (fun r h1 h2 => by rw [List.getElem?_eq_getElem hrl] at h2; cases h2; simpa using hb)).symm
        · refine ite_bool (fun hx => ?_) (fun _ => ?_)
          · cases hx
          · repeat (walk_at "1")
            refine ⟨rfl, hX₂ _ ⟨2 * q + 1, _, S.weak rfl, by walk_at "l", hcl, ?_⟩⟩
            exact (suLoop_left _ _ _ _ (by walk_at "l") (List.getElem?_eq_getElem hcl) (fun r h1 h2 => by walk_at "l")).symm
      · rintro s₃ ⟨c, tc2, S, hqc, hcy, hr2⟩
        repeat (walk_at "1")
        refine i_list (S.at (.head _)) rfl (by walk_at "l") (List.getElem?_eq_getElem hcy) ?_
        repeat (walk_at "1")
        refine si_list (S.at (.head _)) rfl (by walk_at "l") hq (fun h' hs ho => ?_)
        have S2 := S.upd 0 rfl hs ho
        repeat (walk_at "1")
        rename St _ _ _ _ _ _ => S3
        refine hQ₁ _ _ ⟨xs.length - c, Nat.sub_lt_sub_left (hy ▸ hq) ‹q < c›, c, _, _, ys.set q ys[c], rfl, S3.weak rfl, by simpa using hcy, by simpa using hy, ?_, hr2.trans hr⟩
        intro x hx
        rcases List.mem_or_eq_of_mem_set hx with hx | hx
        · exact hPy x hx
        · rw [hx]; exact hPy _ (List.getElem_mem hcy)
    · exact hX₁ _ ⟨q, tq, ys, S.weak rfl, hq, hy, hPy, by rw [← hr, suLoop_stop _ _ _ _ (by walk_at "l")]⟩
  · rintro s₃ ⟨q, tq, ys, S, hq, hy, hPy, hr⟩
    repeat (walk_at "1")
    refine si_list (S.at (.head _)) rfl (by walk_at "l") hq (fun h' hs ho => ?_)
    have S2 := S.upd 0 rfl hs ho
    repeat (walk_at "1")
    refine e_glob S2 Gg.gs Gg.n56 ?_
    refine c_fn Gg.f56 ?_
    repeat (walk_at "1")
    refine ⟨⟨_, _, _, _, S2⟩, ?_⟩
    refine siftdown_ok Gg S2.kept (dd hd (by decide)) (du hu (by decide)) S2.gn (S2.at (.head _)) (C.keeps S2.kept.hide2) ?_ (List.getElem?_set_self hq) (by simpa using (by walk_at "l")) ?_
    · intro x hx
      rcases List.mem_or_eq_of_mem_set hx with hx | hx
      · exact hPy x hx
      · rw [hx]; exact hP _ (List.getElem_mem hlt)
    · intro s₄ k1 k2 k3 k4
      repeat (walk_at "1")
      refine h s₄ (fun b o hb e => k1 b o hb (S2.keepsBut b o hb e)) ?_ (k3.trans S2.os) k4
      rw [k2, sup, List.getElem?_eq_getElem hlt, ← hr]
end

section
variable {w : World} {A : Around} {E : Value → Shared → Prop} {s : Shared} {g g₀ : Heap} {L : Addr} {l : List (Str × Value)} {N : List (Addr × Obj)} {o : OsState} {mg mb : Str → Option Value}

noncomputable def rngObj (a b c : Int) (t u v : Tok) : Obj := { cls := .type "range", data := .fields #[.int a t, .int b u, .int c v] }
noncomputable def riObj (x left step : Int) : Obj := { cls := .type "range_iterator", data := .fields #[rawInt x, rawInt left, rawInt step] }

theorem c_range1 {n : Int} {t : Tok} {Q : Value → Shared → Prop} (S : St g L l N o s) (h : ∀ a t u v s', St g L l ((a, rngObj 0 n 1 t u v) :: N) o s' → Q (.ref a) s') :
    wpAny (model prog w) A (call (.type "range") [.int n t]) Q E s :=
  call_range_1 (h _ _ _ _ _ (S.new (rngObj 0 n 1 _ _ _) rfl).tok)

theorem range_rev_tree {r : Addr} {n : Nat} {t u v : Tok} {P : Fin → Shared → Prop} (hr : IsRange s.heap r 0 n 1 t u v) (hn : n < 2 ^ 62)
    (h : P (.done (.ret (.ref s.heap.objs.size))) { s with heap := s.heap.push (riObj ((n : Int) - 1) n (-1)) }) :
    wpAny (model prog w) A (Builtin.«range.__reversed__» ⟨[.ref r], []⟩) P E s := by
  have e1 : Builtin.Range.rangeSize 0 n 1 = n := by rw [rangeSize_one]; split <;> lia
  have e2 : (Builtin.Range.rangeFitsLong 0 && Builtin.Range.rangeFitsLong n && Builtin.Range.rangeFitsLong 1 && Builtin.Range.rangeFitsLong (-1) && Builtin.Range.rangeFitsLong (0 - 1) && Builtin.Range.rangeFitsLong n) = true := by
    simp [Builtin.Range.rangeFitsLong]; lia
  unfold Builtin.«range.__reversed__»
  refine wpAny_bind (wpAny_of_eq (a := Value.ref r) rfl ?_)
  refine wpAny_bind (m := Builtin.Range.rangeFields (.ref r)) ?_
  unfold Builtin.Range.rangeFields
  refine wpAny_bind (wpAny_field hr rfl (x := .int 0 t) rfl ?_)
  refine wpAny_bind (wpAny_of_eq (a := some (0 : Int)) rfl ?_)
  refine wpAny_bind (wpAny_field hr rfl (x := .int n u) rfl ?_)
  refine wpAny_bind (wpAny_of_eq (a := some (n : Int)) rfl ?_)
  refine wpAny_bind (wpAny_field hr rfl (x := .int 1 v) rfl ?_)
  have q : asInt? (Value.int 1 v) = pure (some 1) := rfl
  rw [q]
  refine wpAny_bind ?_
  refine wpAny_pure ?_
  dsimp only
  refine wpAny_pure ?_
  dsimp only
  rw [e1, e2]
  refine wpAny_bind (wpAny_newObj_type ?_)
  refine wpAny_pure ?_
  show P (.done (.ret (.ref s.heap.objs.size))) { s with heap := s.heap.push (riObj (0 + ((n : Int) - 1) * 1) n (-1)) }
  rw [show (0 + ((n : Int) - 1) * 1) = (n : Int) - 1 from by walk_at "l"]
  exact h

theorem call_range_reversed {r : Addr} {n : Nat} {t u v : Tok} {Q : Value → Shared → Prop} (hr : IsRange s.heap r 0 n 1 t u v) (hn : n < 2 ^ 62)
    (h : Q (.ref s.heap.objs.size) { s with heap := s.heap.push (riObj ((n : Int) - 1) n (-1)) }) : wpAny (model prog w) A (call (.builtin "range.__reversed__") [.ref r]) Q E s := by
  have hT : s.TypeIs (.ref r) "range" := ⟨_, hr, rfl⟩
  exact wpAny_call_entry F.slot_range_reversed hT F.entry_range_reversed (range_rev_tree hr hn ⟨_, rfl, h⟩) (F.args_range_reversed_1 _)

theorem sub_ri_reversed : isSubtype (.type "range_iterator") (.type "reversed") = pure false := by rw [isSubtype_type]; kernel_rfl

theorem code_reversed_range {r : Addr} {n : Nat} {t u v : Tok} {Q₁ : Value → Shared → Prop} (hr : IsRange s.heap r 0 n 1 t u v) (hn : n < 2 ^ 62)
    (h : Q₁ (.ref s.heap.objs.size) { s with heap := s.heap.push (riObj ((n : Int) - 1) n (-1)) }) :
    codeAny (model prog w) A (.call (.builtin "reversed.__new__") ⟨[.type "reversed", .ref r], []⟩) (wants Q₁ E) s := by
  have hT : s.TypeIs (.ref r) "range" := ⟨_, hr, rfl⟩
  refine codeAny_of_tree ?_
  show wpAny _ A.in1 (do checkBuiltinCall "reversed.__new__" ⟨[.type "reversed", .ref r], []⟩; again (.builtin "reversed.__new__" ⟨[.type "reversed", .ref r], []⟩)) _ _ s
  refine wpAny_bind (wpAny_of_eq (F.newCall_reversed_1 _) (wpAny_pure ⟨plainId_quiet F.plain_reversed_new _, codeAny_builtin F.entry_reversed_new ?_⟩))
  rw [Around.under_plainId F.plain_reversed_new _]
  unfold Builtin.«reversed.__new__»
  refine wpAny_bind (wpAny_of_eq (newClass_reversed _) ?_)
  refine wpAny_bind (wpAny_of_eq (a := ()) (by first | rfl | kernel_rfl) ?_)
  refine wpAny_bind (wpAny_of_eq (a := ()) (by first | rfl | kernel_rfl) ?_)
  refine wpAny_bind (wpAny_specialOf hT F.slot_range_reversed.lookup ?_)
  refine wpAny_bind (wpAny_of_eq (F.slot_range_reversed.bind _) ?_)
  show wpAny _ _ (if (Value.builtin "range.__reversed__" == Value.none) = true then _ else _) _ _ _
  rw [if_neg (show ¬ ((Value.builtin "range.__reversed__" == Value.none) = true) from Bool.false_ne_true)]
  refine wpAny_bind (wpAny_rule ?_)
  refine wpAny_bind (m := runValue (.call (.builtin "range.__reversed__") ⟨[.ref r], []⟩)) (show wpAny _ _ (call (.builtin "range.__reversed__") [.ref r]) _ _ _ from call_range_reversed hr hn ?_)
  first
  | exact wpAny_pure h
  | exact wpAny_bind (wpAny_pure (wpAny_pure h))

theorem c_revrange {r : Addr} {n : Nat} {t u v : Tok} {Q : Value → Shared → Prop} (S : St g L l N o s) (hr : s.heap.get? r = some (rngObj 0 n 1 t u v)) (hn : n < 2 ^ 62)
    (h : ∀ a s', St g L l ((a, riObj ((n : Int) - 1) n (-1)) :: N) o s' → Q (.ref a) s') : wpAny (model prog w) A (call (.type "reversed") [.ref r]) Q E s := by
  refine callType_other (U := "range_iterator") (Q₁ := fun obj s₁ => obj = .ref s.heap.objs.size ∧ s₁ = { s with heap := s.heap.push (riObj ((n : Int) - 1) n (-1)) }) (by decide +kernel) F.create_reversed ⟨_, _, F.mro_reversed⟩ F.made_reversed sub_ri_reversed (F.typeCall_reversed_1 _) (code_reversed_range hr hn ⟨rfl, rfl⟩) ?_
  rintro obj s₁ ⟨rfl, rfl⟩
  exact ⟨⟨_, Heap.get?_push_size _ rfl, rfl⟩, h _ _ (S.new _ rfl)⟩

theorem i_ri {it : Addr} {x left step : Int} {Q : Value → Shared → Prop} (hit : s.heap.get? it = some (riObj x left step)) (h : Q (.ref it) s) : wpAny (model prog w) A (pyIter (.ref it)) Q E s :=
  wpAny_pyIter_rangeiter hit h

theorem n_ri {it : Addr} {x : Int} {left : Nat} {step : Int} {Q : Option Value → Shared → Prop} (S : St g L l N o s) (i : Nat) (hi : N[i]? = some (it, riObj x ((left : Int) + 1) step))
    (h : ∀ t s', St g L l (N.set i (it, riObj (x + step) left step)) o s' → Q (some (.int x t)) s') : wpAny (model prog w) A (pyNext (.ref it)) Q E s := by
  have hit := S.at (List.mem_of_getElem? hi)
  refine wpAny_pyNext_range_item (left := (left : Int) + 1) hit (by walk_at "l") (fun h' h1 hs => ?_)
  have h2 : h'.get? it = some (riObj (x + step) left step) := by
    have : (left : Int) + 1 - 1 = left := by walk_at "l"
    rw [this] at h1; exact h1
  exact h _ _ (S.upd i hi hs h2).tok
theorem n_ri_end {it : Addr} {x : Int} {step : Int} {Q : Option Value → Shared → Prop} (hh : A.handled = none) (S : St g L l N o s) (i : Nat) (hi : N[i]? = some (it, riObj x 0 step))
    (h : ∀ s', St g L l (N.eraseIdx i) o s' → Q none s') : wpAny (model prog w) A (pyNext (.ref it)) Q E s :=
  wpAny_pyNext_range_end hh (S.at (List.mem_of_getElem? hi)) (by walk_at "l") (fun _ h1 => h _ (S.drop i hi h1))
end

section
variable {α : Type}
noncomputable def hfy (lt : α → α → Bool) : Nat → List α → List α
  | 0, xs => xs
  | k + 1, xs => hfy lt k (sup lt k xs)
end

section
variable {α : Type} {lt : α → α → Bool}
theorem sdLoop_length {new : α} {start : Nat} : ∀ {pos : Nat} {xs : List α}, (sdLoop lt new start pos xs).1.length = xs.length := by
  intro pos
  induction pos using Nat.strongRecOn with
  | ind pos ih =>
    intro xs
    rw [sdLoop]
    split
    · split
      · split
        · rw [ih _ (Nat.lt_of_le_of_lt (Nat.div_le_self _ _) (Nat.sub_lt (Nat.lt_of_le_of_lt (Nat.zero_le start) ‹_›) (by decide)))]; simp
        · rfl
      · rfl
    · rfl
theorem sdown_length {new : α} {start pos : Nat} {xs : List α} : (sdown lt new start pos xs).length = xs.length := by
  rw [sdown, List.length_set, sdLoop_length]
theorem suLoop_length {e : Nat} : ∀ (n : Nat) {pos : Nat} {xs : List α}, e - pos ≤ n → (suLoop lt e pos xs).1.length = xs.length := by
  intro n
  induction n with
  | zero =>
    intro pos xs h
    rw [suLoop_stop _ _ _ _ (by walk_at "l")]
  | succ n ih =>
    intro pos xs h
    rw [suLoop]
    split
    · split
      · split
        · split
          · rw [ih (su_le h two2)]; simp
          · rw [ih (su_le h two1)]; simp
        · rw [ih (su_le h two1)]; simp
      · rfl
    · rfl
theorem sup_length {pos : Nat} {xs : List α} : (sup lt pos xs).length = xs.length := by
  unfold sup
  split
  · rw [sdown_length, List.length_set, suLoop_length (xs.length - pos) (Nat.le_refl _)]
  · rfl
theorem mem_sdLoop {new : α} {start : Nat} {x : α} : ∀ {pos : Nat} {xs : List α}, x ∈ (sdLoop lt new start pos xs).1 → x ∈ xs := by
  intro pos
  induction pos using Nat.strongRecOn with
  | ind pos ih =>
    intro xs hx
    rw [sdLoop] at hx
    split at hx
    · split at hx
      · rename_i p hp
        split at hx
        · rcases List.mem_or_eq_of_mem_set (ih _ (by walk_at "l") hx) with q | q
          · exact q
          · rw [q]; exact List.mem_of_getElem? hp
        · exact hx
      · exact hx
    · exact hx
theorem mem_sdown {new x : α} {start pos : Nat} {xs : List α} (hx : x ∈ sdown lt new start pos xs) : x = new ∨ x ∈ xs := by
  rcases List.mem_or_eq_of_mem_set hx with q | q
  · exact .inr (mem_sdLoop q)
  · exact .inl q
theorem mem_suLoop {e : Nat} {x : α} : ∀ (n : Nat) {pos : Nat} {xs : List α}, e - pos ≤ n → x ∈ (suLoop lt e pos xs).1 → x ∈ xs := by
  intro n
  induction n with
  | zero =>
    intro pos xs h hx
    rw [suLoop_stop _ _ _ _ (by walk_at "l")] at hx; exact hx
  | succ n ih =>
    intro pos xs h hx
    rw [suLoop] at hx
    split at hx
    · split at hx
      · rename_i c hc
        have key : ∀ {i : Nat} {v : α}, pos < i → v ∈ xs → x ∈ (suLoop lt e i (xs.set pos v)).1 → x ∈ xs := fun hi hv hx => by
          rcases List.mem_or_eq_of_mem_set (ih (su_le h hi) hx) with q | q
          · exact q
          · rw [q]; exact hv
        split at hx
        · rename_i r hr
          split at hx
          · exact key two2 (List.mem_of_getElem? hr) hx
          · exact key two1 (List.mem_of_getElem? hc) hx
        · exact key two1 (List.mem_of_getElem? hc) hx
      · exact hx
    · exact hx
theorem mem_sup {pos : Nat} {x : α} {xs : List α} (hx : x ∈ sup lt pos xs) : x ∈ xs := by
  unfold sup at hx
  split at hx
  · rename_i new hn
    rcases mem_sdown hx with q | q
    · rw [q]; exact List.mem_of_getElem? hn
    · rcases List.mem_or_eq_of_mem_set q with q | q
      · exact mem_suLoop _ (Nat.le_refl _) q
      · rw [q]; exact List.mem_of_getElem? hn
  · exact hx
end

section
variable {w : World} {A : Around} {E : Value → Shared → Prop} {s : Shared} {g g₀ : Heap} {L : Addr} {l : List (Str × Value)} {N : List (Addr × Obj)} {o : OsState} {mg mb : Str → Option Value}

theorem heapreplace_max_ok {l : Addr} {e : Nat} {x0 : Value} {xs : List Value} {lt} {P : Value → Prop} {new : Value} {Q : Value → Shared → Prop}
    (G : Gl mg mb g₀) (K : Keeps g₀ s.heap) (hl0 : g₀.get? l = none) (hd : A.depth + 15 < recursionLimit) (hu : A.units + 70 < cLine) (hg : AllBare s.gens) (hlo : s.heap.get? l = some (seqObj "list" (x0 :: xs).toArray e))
    (C : CmpOk w (hideAll s.heap [l]) P lt) (hP : ∀ x ∈ new :: xs, P x) (h3 : xs.length + 1 < 1000)
    (h : ∀ s', KeepsBut [l] s.heap s'.heap → s'.heap.get? l = some (seqObj "list" (sup (fun x y => lt y x) 0 (new :: xs)).toArray e) → s'.os = s.os → AllBare s'.gens → Q x0 s') :
    wpAny (model prog w) A (call (.ref 42) [.ref l, new]) Q E s := by
  have Kg : Keeps g₀ (hideAll s.heap [l]) := K.hide (by intro a ha; simp at ha; rw [ha]; exact hl0)
  have Gg := G.keeps Kg
  refine call_fn (N := [(l, seqObj "list" (x0 :: xs).toArray e)]) (binds := [(Str.ofString "heap", .ref l), (Str.ofString "item", new)]) G.lim K G.f42 (by walk_at "l")
    (by intro q hq; simp at hq; subst hq; exact hlo) hg rfl (.of_eq rfl) rfl rfl (by simp) ?_
  intro L s₁ S
  walk_at "put"
  repeat (walk_at "1")
  rename St _ _ _ _ _ _ => S
  refine i_list (n := 0) (S.at (.head _)) rfl (by walk_at "l") rfl ?_
  repeat (walk_at "1")
  rename St _ _ _ _ _ _ => S
  refine si_list (j := 0) (S.at (.head _)) rfl (by walk_at "l") (by simp) (fun h' hs ho => ?_)
  have S2 := S.upd 0 rfl hs ho
  repeat (walk_at "1")
  refine e_glob S2 Gg.gs Gg.n77 ?_
  refine c_fn Gg.f77 ?_
  repeat (walk_at "1")
  rename St _ _ _ _ _ _ => S3
  refine ⟨⟨_, _, _, _, S3⟩, ?_⟩
  refine siftup_max_ok (p := 0) Gg S3.kept (hideAll_none _ (.head _)) (dd hd (by decide)) (du hu (by decide)) S3.gn (S3.at (.head _)) (C.keeps S3.kept.hide2) (by simpa using hP) (by simp) (by simpa using h3) ?_
  intro s₄ k1 k2 k3 k4
  have S4 := S3.after (N' := []) k1 (by intro a ha; simp at ha; subst ha; exact (S3.nw _ (.head _)).2) (by simp) (by simp) (k3.trans S3.os) k4
  repeat (walk_at "1")
  exact h s₄ (fun b o hb e => k1 b o hb (S3.keepsBut b o hb e)) k2 (k3.trans S3.os) k4
theorem heapreplace_ok {l : Addr} {e : Nat} {x0 : Value} {xs : List Value} {lt} {P : Value → Prop} {new : Value} {Q : Value → Shared → Prop}
    (G : Gl mg mb g₀) (K : Keeps g₀ s.heap) (hl0 : g₀.get? l = none) (hd : A.depth + 15 < recursionLimit) (hu : A.units + 70 < cLine) (hg : AllBare s.gens) (hlo : s.heap.get? l = some (seqObj "list" (x0 :: xs).toArray e))
    (C : CmpOk w (hideAll s.heap [l]) P lt) (hP : ∀ x ∈ new :: xs, P x) (h3 : xs.length + 1 < 1000)
    (h : ∀ s', KeepsBut [l] s.heap s'.heap → s'.heap.get? l = some (seqObj "list" (sup lt 0 (new :: xs)).toArray e) → s'.os = s.os → AllBare s'.gens → Q x0 s') :
    wpAny (model prog w) A (call (.ref 28) [.ref l, new]) Q E s := by
  have Kg : Keeps g₀ (hideAll s.heap [l]) := K.hide (by intro a ha; simp at ha; rw [ha]; exact hl0)
  have Gg := G.keeps Kg
  refine call_fn (N := [(l, seqObj "list" (x0 :: xs).toArray e)]) (binds := [(Str.ofString "heap", .ref l), (Str.ofString "item", new)]) G.lim K G.f28 (by walk_at "l")
    (by intro q hq; simp at hq; subst hq; exact hlo) hg rfl (.of_eq rfl) rfl rfl (by simp) ?_
  intro L s₁ S
  walk_at "put"
  repeat (walk_at "1")
  rename St _ _ _ _ _ _ => S
  refine i_list (n := 0) (S.at (.head _)) rfl (by walk_at "l") rfl ?_
  repeat (walk_at "1")
  rename St _ _ _ _ _ _ => S
  refine si_list (j := 0) (S.at (.head _)) rfl (by walk_at "l") (by simp) (fun h' hs ho => ?_)
  have S2 := S.upd 0 rfl hs ho
  repeat (walk_at "1")
  refine e_glob S2 Gg.gs Gg.n63 ?_
  refine c_fn Gg.f63 ?_
  repeat (walk_at "1")
  rename St _ _ _ _ _ _ => S3
  refine ⟨⟨_, _, _, _, S3⟩, ?_⟩
  refine siftup_ok (p := 0) Gg S3.kept (hideAll_none _ (.head _)) (dd hd (by decide)) (du hu (by decide)) S3.gn (S3.at (.head _)) (C.keeps S3.kept.hide2) (by simpa using hP) (by simp) (by simpa using h3) ?_
  intro s₄ k1 k2 k3 k4
  have S4 := S3.after (N' := []) k1 (by intro a ha; simp at ha; subst ha; exact (S3.nw _ (.head _)).2) (by simp) (by simp) (k3.trans S3.os) k4
  repeat (walk_at "1")
  exact h s₄ (fun b o hb e => k1 b o hb (S3.keepsBut b o hb e)) k2 (k3.trans S3.os) k4

theorem heapify_max_ok {l : Addr} {e : Nat} {xs : List Value} {lt} {P : Value → Prop} {Q : Value → Shared → Prop}
    (G : Gl mg mb g₀) (K : Keeps g₀ s.heap) (hl0 : g₀.get? l = none) (hh : A.handled = none) (hd : A.depth + 15 < recursionLimit) (hu : A.units + 70 < cLine) (hg : AllBare s.gens) (hlo : s.heap.get? l = some (seqObj "list" xs.toArray e))
    (C : CmpOk w (hideAll s.heap [l]) P lt) (hP : ∀ x ∈ xs, P x) (h3 : xs.length < 1000)
    (h : ∀ s', KeepsBut [l] s.heap s'.heap → s'.heap.get? l = some (seqObj "list" (hfy (fun x y => lt y x) (xs.length / 2) xs).toArray e) → s'.os = s.os → AllBare s'.gens → Q .none s') :
    wpAny (model prog w) A (call (.ref 49) [.ref l]) Q E s := by
  have Kg : Keeps g₀ (hideAll s.heap [l]) := K.hide (by intro a ha; simp at ha; rw [ha]; exact hl0)
  have Gg := G.keeps Kg
  refine call_fn (N := [(l, seqObj "list" xs.toArray e)]) (binds := [(Str.ofString "x", .ref l)]) G.lim K G.f49 (by walk_at "l")
    (by intro q hq; simp at hq; subst hq; exact hlo) hg rfl (.of_eq rfl) rfl rfl (by simp) ?_
  intro L s₁ S
  walk_at "put"
  repeat (walk_at "1")
  refine e_blt S Gg.gs Gg.bs Gg.len0 Gg.len1 ?_
  repeat (walk_at "1")
  refine c_len S (S.at (.head _)) (by walk_at "l") ?_
  intro t3 s₂ S
  repeat (walk_at "1")
  rename St _ _ _ _ _ _ => S
  refine w_for (fun s' => ∃ s₀, s' = s₀ ∧ St (hideAll s.heap [l]) L [] [(l, seqObj "list" (hfy (fun x y => lt y x) (xs.length / 2) xs).toArray e)] s.os s') ?_ ?_
  · repeat (walk_at "1")
    refine e_blt S Gg.gs Gg.bs Gg.rev0 Gg.rev1 ?_
    repeat (walk_at "1")
    refine e_blt S Gg.gs Gg.bs Gg.rng0 Gg.rng1 ?_
    repeat (walk_at "1")
    rw [show (xs.length : Int).fdiv 2 = ((xs.length / 2 : Nat) : Int) from (Int.ofNat_fdiv xs.length 2).symm]
    refine c_range1 (by assumption) ?_
    intro r _ _ _ s₃ S
    repeat (walk_at "1")
    refine c_revrange S (S.at (.head _)) (by walk_at "l") ?_
    intro it s₄ S
    repeat (walk_at "1")
    refine i_ri (S.at (.head _)) ?_
    have S := S.less (N' := [(it, riObj (((xs.length / 2 : Nat) : Int) - 1) ((xs.length / 2 : Nat) : Int) (-1)), (l, seqObj "list" xs.toArray e)]) (.cons_cons _ (.cons _ (.refl _)))
    refine ⟨fun n s' => Ex2 fun (k : Nat) (ys : List Value) => An6 (n = k) (St (hideAll s.heap [l]) L [(Str.ofString "x", .ref l)] [(it, riObj ((k : Int) - 1) k (-1)), (l, seqObj "list" ys.toArray e)] s.os s') (ys.length = xs.length) (k ≤ xs.length / 2) ((∀ x ∈ ys, P x)) (hfy (fun x y => lt y x) k ys = hfy (fun x y => lt y x) (xs.length / 2) xs), xs.length / 2, ⟨_, xs, rfl, S.weak rfl, rfl, Nat.le_refl _, hP, rfl⟩, ?_⟩
    intro n s' hI₁ Q₁ X₁ hQ₁ hX₁
    obtain ⟨k, ys, rfl, S, hy, hk, hPy, hr⟩ := hI₁
    cases n with
    | zero =>
      refine n_ri_end hh S 0 rfl ?_
      intro s₅ S
      exact hX₁ _ ⟨_, rfl, by rw [← hr]; exact S.weak rfl⟩
    | succ n =>
      refine n_ri S 0 rfl ?_
      intro t5 s₅ S
      rw [show ((n + 1 : Nat) : Int) - 1 = (n : Int) from by walk_at "l"] at S ⊢
      repeat (walk_at "1")
      rename St _ _ _ _ _ _ => S
      refine e_glob S Gg.gs Gg.n77 ?_
      refine c_fn Gg.f77 ?_
      repeat (walk_at "1")
      refine ⟨⟨_, _, _, _, S⟩, ?_⟩
      refine siftup_max_ok (p := n) Gg S.kept (hideAll_none _ (.head _)) (dd hd (by decide)) (du hu (by decide)) S.gn (S.at (.tail _ (.head _))) (C.keeps S.kept.hide2) hPy (by walk_at "l") (by walk_at "l") ?_
      intro s₆ k1 k2 k3 k4
      have S6 := S.after (N' := [(it, riObj ((n : Int) - 1) n (-1)), (l, seqObj "list" (sup (fun x y => lt y x) n ys).toArray e)]) k1 (by intro a ha; simp at ha; subst ha; exact (S.nw _ (.tail _ (.head _))).2)
        (by
          intro p hp
          have nd := S.nd
          simp at hp nd
          rcases hp with rfl | rfl
          · exact .inl ⟨.head _, by simpa using nd⟩
          · exact .inr ⟨.head _, k2⟩) S.nd (k3.trans S.os) k4
      repeat (walk_at "1")
      exact hQ₁ _ _ ⟨n, by walk_at "l", n, sup (fun x y => lt y x) n ys, rfl, S6.weak rfl, by rw [sup_length]; exact hy, by walk_at "l", fun x hx => hPy x (mem_sup hx), hr⟩
  · rintro s₃ ⟨_, rfl, S⟩
    repeat (walk_at "1")
    exact h _ S.keepsBut (S.at (.head _)) S.os S.gn
theorem heapify_ok {l : Addr} {e : Nat} {xs : List Value} {lt} {P : Value → Prop} {Q : Value → Shared → Prop}
    (G : Gl mg mb g₀) (K : Keeps g₀ s.heap) (hl0 : g₀.get? l = none) (hh : A.handled = none) (hd : A.depth + 15 < recursionLimit) (hu : A.units + 70 < cLine) (hg : AllBare s.gens) (hlo : s.heap.get? l = some (seqObj "list" xs.toArray e))
    (C : CmpOk w (hideAll s.heap [l]) P lt) (hP : ∀ x ∈ xs, P x) (h3 : xs.length < 1000)
    (h : ∀ s', KeepsBut [l] s.heap s'.heap → s'.heap.get? l = some (seqObj "list" (hfy lt (xs.length / 2) xs).toArray e) → s'.os = s.os → AllBare s'.gens → Q .none s') :
    wpAny (model prog w) A (call (.ref 35) [.ref l]) Q E s := by
  have Kg : Keeps g₀ (hideAll s.heap [l]) := K.hide (by intro a ha; simp at ha; rw [ha]; exact hl0)
  have Gg := G.keeps Kg
  refine call_fn (N := [(l, seqObj "list" xs.toArray e)]) (binds := [(Str.ofString "x", .ref l)]) G.lim K G.f35 (by walk_at "l")
    (by intro q hq; simp at hq; subst hq; exact hlo) hg rfl (.of_eq rfl) rfl rfl (by simp) ?_
  intro L s₁ S
  walk_at "put"
  repeat (walk_at "1")
  refine e_blt S Gg.gs Gg.bs Gg.len0 Gg.len1 ?_
  repeat (walk_at "1")
  refine c_len S (S.at (.head _)) (by walk_at "l") ?_
  intro t3 s₂ S
  repeat (walk_at "1")
  rename St _ _ _ _ _ _ => S
  refine w_for (fun s' => ∃ s₀, s' = s₀ ∧ St (hideAll s.heap [l]) L [] [(l, seqObj "list" (hfy lt (xs.length / 2) xs).toArray e)] s.os s') ?_ ?_
  · repeat (walk_at "1")
    refine e_blt S Gg.gs Gg.bs Gg.rev0 Gg.rev1 ?_
    repeat (walk_at "1")
    refine e_blt S Gg.gs Gg.bs Gg.rng0 Gg.rng1 ?_
    repeat (walk_at "1")
    rw [show (xs.length : Int).fdiv 2 = ((xs.length / 2 : Nat) : Int) from (Int.ofNat_fdiv xs.length 2).symm]
    refine c_range1 (by assumption) ?_
    intro r _ _ _ s₃ S
    repeat (walk_at "1")
    refine c_revrange S (S.at (.head _)) (by walk_at "l") ?_
    intro it s₄ S
    repeat (walk_at "1")
    refine i_ri (S.at (.head _)) ?_
    have S := S.less (N' := [(it, riObj (((xs.length / 2 : Nat) : Int) - 1) ((xs.length / 2 : Nat) : Int) (-1)), (l, seqObj "list" xs.toArray e)]) (.cons_cons _ (.cons _ (.refl _)))
    refine ⟨fun n s' => Ex2 fun (k : Nat) (ys : List Value) => An6 (n = k) (St (hideAll s.heap [l]) L [(Str.ofString "x", .ref l)] [(it, riObj ((k : Int) - 1) k (-1)), (l, seqObj "list" ys.toArray e)] s.os s') (ys.length = xs.length) (k ≤ xs.length / 2) ((∀ x ∈ ys, P x)) (hfy lt k ys = hfy lt (xs.length / 2) xs), xs.length / 2, ⟨_, xs, rfl, S.weak rfl, rfl, Nat.le_refl _, hP, rfl⟩, ?_⟩
    intro n s' hI₁ Q₁ X₁ hQ₁ hX₁
    obtain ⟨k, ys, rfl, S, hy, hk, hPy, hr⟩ := hI₁
    cases n with
    | zero =>
      refine n_ri_end hh S 0 rfl ?_
      intro s₅ S
      exact hX₁ _ ⟨_, rfl, by rw [← hr]; exact S.weak rfl⟩
    | succ n =>
      refine n_ri S 0 rfl ?_
      intro t5 s₅ S
      rw [show ((n + 1 : Nat) : Int) - 1 = (n : Int) from by walk_at "l"] at S ⊢
      repeat (walk_at "1")
      rename St _ _ _ _ _ _ => S
      refine e_glob S Gg.gs Gg.n63 ?_
      refine c_fn Gg.f63 ?_
      repeat (walk_at "1")
      refine ⟨⟨_, _, _, _, S⟩, ?_⟩
      refine siftup_ok (p := n) Gg S.kept (hideAll_none _ (.head _)) (dd hd (by decide)) (du hu (by decide)) S.gn (S.at (.tail _ (.head _))) (C.keeps S.kept.hide2) hPy (by walk_at "l") (by walk_at "l") ?_
      intro s₆ k1 k2 k3 k4
      have S6 := S.after (N' := [(it, riObj ((n : Int) - 1) n (-1)), (l, seqObj "list" (sup lt n ys).toArray e)]) k1 (by intro a ha; simp at ha; subst ha; exact (S.nw _ (.tail _ (.head _))).2)
        (by
          intro p hp
          have nd := S.nd
          simp at hp nd
          rcases hp with rfl | rfl
          · exact .inl ⟨.head _, by simpa using nd⟩
          · exact .inr ⟨.head _, k2⟩) S.nd (k3.trans S.os) k4
      repeat (walk_at "1")
      exact hQ₁ _ _ ⟨n, by walk_at "l", n, sup lt n ys, rfl, S6.weak rfl, by rw [sup_length]; exact hy, by walk_at "l", fun x hx => hPy x (mem_sup hx), hr⟩
  · rintro s₃ ⟨_, rfl, S⟩
    repeat (walk_at "1")
    exact h _ S.keepsBut (S.at (.head _)) S.os S.gn
end

theorem mle {i j k : Nat} (h : k < j) : k ≤ i + j - 1 := Nat.le_sub_one_of_lt (Nat.lt_of_lt_of_le h (Nat.le_add_left _ _))
theorem mlt {i j p q : Nat} (h : p < q) (hq : q < j) : i + j - 1 - q < i + j - 1 - p := Nat.sub_lt_sub_left (Nat.lt_of_lt_of_le h (mle hq)) h
theorem mtop {i j k : Nat} (h : k < j) : i ≤ i + j - 1 - k := Nat.le_sub_of_add_le (Nat.le_sub_one_of_lt (Nat.add_lt_add_left h i))
theorem mlo {i j k : Nat} (h : i ≤ k ∧ k < j) : i ≤ i + j - 1 - k := mtop h.2
theorem mhi' {i j k : Nat} (hj : 0 < j) (h : i ≤ k) : i + j - 1 - k < j :=
  Nat.lt_of_le_of_lt (Nat.sub_le_sub_left h _) (by rw [Nat.sub_right_comm, Nat.add_sub_cancel_left]; exact Nat.sub_lt hj (by decide))
theorem mhi {i j k : Nat} (h : i ≤ k ∧ k < j) : i + j - 1 - k < j := mhi' (Nat.lt_of_le_of_lt (Nat.zero_le _) h.2) h.1
theorem mhi2 {i j p q : Nat} (h : p < q) (hp : i ≤ p ∧ p < j) : i + j - 1 - q < j := mhi' (Nat.lt_of_le_of_lt (Nat.zero_le _) hp.2) (Nat.le_trans hp.1 (Nat.le_of_lt h))
theorem minj {i j p q : Nat} (hp : i ≤ p ∧ p < j) (hq : i ≤ q ∧ q < j) (e : i + j - 1 - p = i + j - 1 - q) : p = q :=
  (Nat.sub_sub_self (mle hp.2)).symm.trans ((congrArg (i + j - 1 - ·) e).trans (Nat.sub_sub_self (mle hq.2)))
theorem mout {c i x : Nat} (h : ¬ (c ≤ i ∧ i < x)) (hi : i < x) : i < c := Nat.lt_of_not_le fun q => h ⟨q, hi⟩
theorem mup {c i j x : Nat} (h : ¬ (c ≤ j ∧ j < x)) (hij : i < j) (hj : j < x) (hi : c ≤ i ∧ i < x) : False := h ⟨Nat.le_trans hi.1 (Nat.le_of_lt hij), hj⟩
theorem cnt1 {i n : Nat} (h : i < n) : n - 1 - i < n := Nat.lt_of_le_of_lt (Nat.sub_le _ _) (Nat.sub_lt (Nat.lt_of_le_of_lt (Nat.zero_le _) h) (by decide))
theorem cnt2 {i j n : Nat} (h : i < j) (hj : j < n) : n - 1 - j < n - 1 - i := Nat.sub_lt_sub_left (Nat.lt_of_lt_of_le h (Nat.le_sub_one_of_lt hj)) h
theorem pred_lt' {k n : Nat} (h : k < n) : k - 1 < n := Nat.lt_of_le_of_lt (Nat.sub_le _ _) h
theorem pred_lt2 {l k n : Nat} (h : l < k ∧ k ≤ n) : k - 1 < n := Nat.lt_of_lt_of_le (Nat.sub_lt (Nat.lt_of_le_of_lt (Nat.zero_le _) h.1) (by decide)) h.2
theorem pred_ge {l k n : Nat} (h : l < k ∧ k ≤ n) : l ≤ k - 1 := Nat.le_sub_one_of_lt h.1
theorem pred_mono {l k i j : Nat} (h : l < i ∧ i ≤ k) (hij : i < j) : i - 1 < j - 1 := Nat.sub_lt_sub_right (Nat.succ_le_of_lt (Nat.lt_of_le_of_lt (Nat.zero_le _) h.1)) hij
theorem pred_inj {l s p q : Nat} (hp : l < p ∧ p ≤ s) (hq : l < q ∧ q ≤ s) (e : p - 1 = q - 1) : p = q :=
  (Nat.sub_add_cancel (Nat.succ_le_of_lt (Nat.lt_of_le_of_lt (Nat.zero_le _) hp.1))).symm.trans ((congrArg (· + 1) e).trans (Nat.sub_add_cancel (Nat.succ_le_of_lt (Nat.lt_of_le_of_lt (Nat.zero_le _) hq.1))))
theorem pred_out {l s p q : Nat} (hp : l < p ∧ p ≤ s) (hl : ¬ q = l) (hq : ¬ (l < q ∧ q ≤ s)) (e : p - 1 = q) : False :=
  hq (e ▸ ⟨Nat.lt_of_le_of_ne (pred_ge hp) fun h => hl (e ▸ h.symm), Nat.le_of_lt (pred_lt2 hp)⟩)
theorem pred_low {l k i j : Nat} (hij : i < j) (hil : ¬ i = l) (hi : ¬ (l < i ∧ i ≤ k)) (hj : l < j ∧ j ≤ k) : i < j - 1 :=
  Nat.lt_of_lt_of_le (Nat.lt_of_le_of_ne (Nat.le_of_not_lt fun h => hi ⟨h, Nat.le_trans (Nat.le_of_lt hij) hj.2⟩) hil) (pred_ge hj)
local macro_rules | `(tactic| walk_at "l") => `(tactic| first
  | with_reducible exact mlt ‹_› ‹_›
  | with_reducible exact mlo ‹_›
  | with_reducible exact mhi ‹_›
  | with_reducible exact Nat.lt_of_lt_of_le (mhi ‹_›) ‹_›
  | with_reducible exact Nat.le_of_lt (mhi ‹_›)
  | with_reducible exact Nat.le_of_lt (mhi2 ‹_› ‹_›)
  | with_reducible exact pred_lt' ‹_›
  | with_reducible exact Nat.sub_le _ _)
noncomputable def TT (L : Nat → Nat → Bool) (i j : Nat) : Prop := L i j = true ∨ (L j i = false ∧ i < j)
structure WO (n : Nat) (L : Nat → Nat → Bool) : Prop where
  irr : ∀ i, i < n → L i i = false
  tr : ∀ i j k, i < n → j < n → k < n → L i j = true → L j k = true → L i k = true
  neg : ∀ i j k, i < n → j < n → k < n → L i k = true → L i j = true ∨ L j k = true
section
variable {n : Nat} {L : Nat → Nat → Bool}
theorem WO.asy (W : WO n L) {i j : Nat} (hi : i < n) (hj : j < n) (h : L i j = true) : L j i = false := by
  cases q : L j i with
  | false => rfl
  | true => have := W.tr i j i hi hj hi h q; rw [W.irr i hi] at this; cases this
theorem WO.le_tr (W : WO n L) {i j k : Nat} (hi : i < n) (hj : j < n) (hk : k < n) (h1 : L j i = false) (h2 : L k j = false) : L k i = false := by
  cases q : L k i with
  | false => rfl
  | true =>
    rcases W.neg k j i hk hj hi q with h | h
    · rw [h2] at h; cases h
    · rw [h1] at h; cases h
theorem WO.lt_le (W : WO n L) {i j k : Nat} (hi : i < n) (hj : j < n) (hk : k < n) (h1 : L i j = true) (h2 : L k j = false) : L i k = true := by
  rcases W.neg i k j hi hk hj h1 with h | h
  · exact h
  · rw [h2] at h; cases h
theorem WO.le_lt (W : WO n L) {i j k : Nat} (hi : i < n) (hj : j < n) (hk : k < n) (h1 : L j i = false) (h2 : L j k = true) : L i k = true := by
  rcases W.neg j i k hj hi hk h2 with h | h
  · rw [h1] at h; cases h
  · exact h
end

structure SB (a₀ : Array Keyed) (kind : SortKind) (σ : Nat → Nat) (st : SortSt) : Prop where
  size : (arrOf st).size = a₀.size
  arr : ∀ k, k < a₀.size → (arrOf st)[k]? = a₀[σ k]?
  lt : ∀ k, k < a₀.size → σ k < a₀.size
  inj : ∀ i j, i < a₀.size → j < a₀.size → σ i = σ j → i = j
  kind : kindOf st = kind
  failed : failedOf st = none
  pend : pendingOf st = #[]
noncomputable def SortT (L : Nat → Nat → Bool) (σ : Nat → Nat) (k : Nat) : Prop := ∀ i j, i < j → j < k → TT L (σ i) (σ j)
noncomputable def Low (σ : Nat → Nat) (a : Nat) : Prop := (∀ i, i < a → σ i < a) ∧ ∀ i, a ≤ i → σ i = i
noncomputable def mir (σ : Nat → Nat) (i j : Nat) : Nat → Nat := fun k => if i ≤ k ∧ k < j then σ (i + j - 1 - k) else σ k
noncomputable def bub (σ : Nat → Nat) (src l : Nat) : Nat → Nat := fun k => if k = l then σ src else if l < k ∧ k ≤ src then σ (k - 1) else σ k

section
variable {a₀ : Array Keyed} {kind : SortKind} {σ : Nat → Nat} {st : SortSt}
theorem SB.mir (B : SB a₀ kind σ st) {i j : Nat} (hij : i ≤ j) (hj : j ≤ a₀.size) : SB a₀ kind (Mine.mir σ i j) (setArr st (mirror (arrOf st) i j ((j - i) / 2))) := by
  have hj' : j ≤ (arrOf st).size := by rw [B.size]; exact hj
  refine ⟨(mirror_size _ _ _ _).trans B.size, fun k hk => ?_, fun k hk => ?_, fun p q hp hq e => ?_, B.kind, B.failed, B.pend⟩
  · show (mirror (arrOf st) i j ((j - i) / 2))[k]? = _
    rw [getElem?_mirror_all hj']
    unfold Mine.mir
    split
    · rw [B.arr _ (by walk_at "l")]
    · exact B.arr k hk
  · unfold Mine.mir; split
    · exact B.lt _ (by walk_at "l")
    · exact B.lt k hk
  · unfold Mine.mir at e
    split at e <;> rename_i q1 <;> split at e <;> rename_i q2
    · exact minj q1 q2 (B.inj _ _ (by walk_at "l") (by walk_at "l") e)
    · have := B.inj _ _ (by walk_at "l") (by walk_at "l") e
      exact absurd (this ▸ And.intro (mlo q1) (mhi q1)) q2
    · have := B.inj _ _ (by walk_at "l") (by walk_at "l") e
      exact absurd (this.symm ▸ And.intro (mlo q2) (mhi q2)) q1
    · exact B.inj _ _ hp hq e
theorem SB.bub (B : SB a₀ kind σ st) {src l : Nat} (hl : l ≤ src) (hs : src < a₀.size) : SB a₀ kind (Mine.bub σ src l) (setArr st (bubble (arrOf st) src (src - l))) := by
  have hs' : src < (arrOf st).size := by rw [B.size]; exact hs
  refine ⟨(bubble_size _ _ _).trans B.size, fun k hk => ?_, fun k hk => ?_, fun p q hp hq e => ?_, B.kind, B.failed, B.pend⟩
  · show (bubble (arrOf st) src (src - l))[k]? = _
    rw [getElem?_bubble hs' _ (Nat.sub_le _ _), Nat.sub_sub_self hl]
    unfold Mine.bub
    split
    · exact B.arr _ hs
    · split
      · exact B.arr _ (by walk_at "l")
      · exact B.arr k hk
  · unfold Mine.bub; split
    · exact B.lt _ hs
    · split
      · exact B.lt _ (by walk_at "l")
      · exact B.lt k hk
  · unfold Mine.bub at e
    repeat' split at e
    all_goals first
      | (have := B.inj _ _ (by walk_at "l") (by walk_at "l") e; first | exact pred_inj ‹_› ‹_› this | exact (pred_out ‹_› ‹_› ‹_› this).elim | exact (pred_out ‹_› ‹_› ‹_› this.symm).elim | exact absurd this (Nat.ne_of_gt (pred_lt2 ‹_›)) | exact absurd this (Nat.ne_of_lt (pred_lt2 ‹_›)) | lia)
      | lia

variable {prog' : Program} {w : World} {A : Around} {E : Value → Shared → Prop} {s : Shared} {L : Nat → Nat → Bool}
noncomputable def KL (prog' : Program) (w : World) (A : Around) (s : Shared) (a₀ : Array Keyed) (kind : SortKind) (L : Nat → Nat → Bool) : Prop :=
  ∀ i j x y p q, a₀[i]? = some (x, p) → a₀[j]? = some (y, q) → ∀ (E : Value → Shared → Prop) (Q : Bool → Shared → Prop), Q (L i j) s → wpAny (model prog' w) A (keyLt' kind x y) Q E s

theorem s_lt {i j : Nat} {Q : Option Bool → SortSt → Prop} (H : KL prog' w A s a₀ kind L) (B : SB a₀ kind σ st) (hi : i < a₀.size) (hj : j < a₀.size) (h : Q (some (L (σ i) (σ j))) st) :
    wpS (model prog' w) A E s (ltAt' i j) Q st := by
  have e1 : a₀[σ i]? = some (a₀[σ i]'(B.lt i hi)) := Array.getElem?_eq_getElem (B.lt i hi)
  have e2 : a₀[σ j]? = some (a₀[σ j]'(B.lt j hj)) := Array.getElem?_eq_getElem (B.lt j hj)
  rw [ltAt'_eq]
  refine wpS_bind (wpS_get ?_)
  show wpS _ _ _ _ (do let x ← elem' (arrOf st) i; let y ← elem' (arrOf st) j; lt' x y) Q st
  rw [elem'_eq, elem'_eq, B.arr i hi, B.arr j hj, e1, e2]
  refine wpS_bind (wpS_pure (wpS_bind (wpS_pure ?_)))
  rw [lt'_eq]
  refine wpS_bind (wpS_get ?_)
  rw [B.kind]
  refine wpS_bind (wpS_lift (wpAny_attempt (H (σ i) (σ j) _ _ _ _ e1 e2 _ _ ⟨rfl, ?_⟩)))
  exact wpS_pure h

theorem wS_pos {α : Type} {c : Prop} [Decidable c] {x y : StateT SortSt Sem α} {Q : α → SortSt → Prop} {st : SortSt} (h : c) (hx : wpS (model prog' w) A E s x Q st) : wpS (model prog' w) A E s (if c then x else y) Q st := by rw [if_pos h]; exact hx
theorem wS_neg {α : Type} {c : Prop} [Decidable c] {x y : StateT SortSt Sem α} {Q : α → SortSt → Prop} {st : SortSt} (h : ¬ c) (hy : wpS (model prog' w) A E s y Q st) : wpS (model prog' w) A E s (if c then x else y) Q st := by rw [if_neg h]; exact hy
theorem s_binary {n ok : Nat} {Q : Bool → SortSt → Prop} (W : WO a₀.size L) (H : KL prog' w A s a₀ kind L) (hn : n ≤ a₀.size) (hok : ok ≤ n) (B : SB a₀ kind σ st) (hs : SortT L σ ok) (hl : Low σ ok)
    (h : ∀ σ' st', SB a₀ kind σ' st' → SortT L σ' n → Q true st') : wpS (model prog' w) A E s (binarySort' 0 n ok) Q st := by
  rw [binarySort'_eq]
  simp only [Nat.zero_add]
  refine wpS_bind (wpS_mono (wpS_forRange (I := fun k c st' => An2 (c = (none, ())) (∃ σ', An3 (SB a₀ kind σ' st') (SortT L σ' (min k n)) (Low σ' (min k n))))
    (Q := fun c st' => An2 (c = (none, ())) (∃ σ', An2 (SB a₀ kind σ' st') (SortT L σ' n))) ?step ?fin ?init) ?post)
  case post =>
    rintro c st' ⟨rfl, σ', hB', hs'⟩
    exact wpS_pure (h σ' st' hB' hs')
  case init =>
    refine ⟨rfl, σ, B, fun i j hij hj => ?_, ?_⟩
    · exact hs i j hij (by
        rcases Nat.eq_zero_or_pos ok with h0 | h0
        · rw [h0] at hj; exact absurd (Nat.lt_of_lt_of_le hij (Nat.le_of_lt_succ (Nat.lt_of_lt_of_le hj (Nat.min_le_left _ _)))) (Nat.not_lt_zero _)
        · rw [Nat.max_eq_left h0] at hj; exact Nat.lt_of_lt_of_le hj (Nat.min_le_left _ _))
    · by_cases h1 : ok = 0
      · subst h1
        exact ⟨fun i hi => by rw [hl.2 i (by walk_at "l")]; lia, fun i hi => hl.2 i (by walk_at "l")⟩
      · rw [Nat.max_eq_left (Nat.pos_of_ne_zero h1), Nat.min_eq_left hok]; exact hl
  case fin =>
    rintro c st' ⟨hc, σ', hB', hs', _⟩
    refine ⟨hc, σ', hB', ?_⟩
    rwa [Nat.min_eq_right (Nat.le_max_right _ _)] at hs'
  case step =>
    rintro k c st' hak hkn ⟨rfl, σ', hB', hs', hl'⟩
    rw [Nat.min_eq_left (Nat.le_of_lt hkn)] at hs' hl'
    have hk : k < a₀.size := by walk_at "l"
    have hσ : ∀ i, i < k → σ' i < a₀.size := fun i hi => hB'.lt i (by walk_at "l")
    have hσk := hB'.lt k hk
    refine wpS_bind (wpS_mono (wpS_forRange (I := fun x c st'' => An2 (st'' = st') (Ex2 fun (l r : Nat) => An6 (c = (none, l, r)) (l ≤ r) (r ≤ k) (r + x ≤ k + l)
        (∀ i, i < l → L (σ' k) (σ' i) = false) (∀ i, r ≤ i → i < k → L (σ' k) (σ' i) = true)))
      (Q := fun c st'' => An2 (st'' = st') (Ex2 fun (l r : Nat) => An4 (c = (none, l, r)) (l ≤ k)
        (∀ i, i < l → L (σ' k) (σ' i) = false) (∀ i, l ≤ i → i < k → L (σ' k) (σ' i) = true))) ?istep ?ifin ?iinit) ?ipost)
    case iinit => exact ⟨rfl, 0, k, rfl, by walk_at "l", by walk_at "l", by walk_at "l", fun i hi => by walk_at "l", fun i h1 h2 => by walk_at "l"⟩
    case ifin =>
      rintro c st'' ⟨rfl, l, r, rfl, hlr, hrk, hm, hlo, hhi⟩
      have : l = r := by walk_at "l"
      subst this
      exact ⟨rfl, l, l, rfl, hrk, hlo, hhi⟩
    case istep =>
      rintro x c st'' _ hxk ⟨rfl, l, r, rfl, hlr, hrk, hm, hlo, hhi⟩
      dsimp only
      by_cases hge : l ≥ r
      · rw [if_pos hge]
        have : l = r := by walk_at "l"
        subst this
        exact wpS_pure ⟨rfl, l, l, rfl, hrk, hlo, hhi⟩
      · refine wS_neg hge ?_
        refine wpS_bind (s_lt H hB' hk (by walk_at "l") ?_)
        cases hless : L (σ' k) (σ' ((l + r) / 2))
        case true =>
          refine wS_pos rfl ?_
          refine wpS_pure ⟨rfl, l, (l + r) / 2, rfl, by walk_at "l", by walk_at "l", by walk_at "l", hlo, fun i h1 h2 => ?_⟩
          by_cases hi : i = (l + r) / 2
          · subst hi; exact hless
          · have := hs' ((l + r) / 2) i (by walk_at "l") h2
            have hle : L (σ' i) (σ' ((l + r) / 2)) = false := by
              rcases this with q | q
              · exact W.asy (hσ _ (by walk_at "l")) (hσ _ (by walk_at "l")) q
              · exact q.1
            exact W.lt_le hσk (hσ _ (by walk_at "l")) (hσ _ h2) hless hle
        case false =>
          refine wS_neg (by decide) ?_
          refine wpS_pure ⟨rfl, (l + r) / 2 + 1, r, rfl, by walk_at "l", by walk_at "l", by walk_at "l", fun i h1 => ?_, hhi⟩
          by_cases hi : i = (l + r) / 2
          · subst hi; exact hless
          · have := hs' i ((l + r) / 2) (by walk_at "l") (by walk_at "l")
            have hle : L (σ' ((l + r) / 2)) (σ' i) = false := by
              rcases this with q | q
              · exact W.asy (hσ _ (by walk_at "l")) (hσ _ (by walk_at "l")) q
              · exact q.1
            exact W.le_tr (hσ _ (by walk_at "l")) (hσ _ (by walk_at "l")) hσk hle hless
    case ipost =>
      rintro c st'' ⟨rfl, l, r, rfl, hlk, hlo, hhi⟩
      show wpS _ _ _ _ (do moveDown' k l; pure (ForInStep.yield (none, ()))) _ _
      rw [moveDown'_eq]
      refine wpS_bind (wpS_modify (wpS_pure ⟨rfl, bub σ' k l, hB'.bub hlk hk, ?_, ?_⟩))
      · rw [Nat.min_eq_left (Nat.succ_le_of_lt hkn)]
        have hkk : σ' k = k := hl'.2 k (Nat.le_refl _)
        intro i j hij hj
        unfold bub
        repeat' split
        all_goals first
          | exact hs' _ _ (pred_mono ‹_› hij) (pred_lt2 ‹_›)
          | exact hs' _ _ (pred_low hij ‹_› ‹_› ‹_›) (pred_lt2 ‹_›)
          | exact .inl (hhi _ (pred_ge ‹_›) (pred_lt2 ‹_›))
          | (exfalso; lia)
          | exact .inr ⟨hlo _ (by walk_at "l"), by rw [hkk]; exact hl'.1 _ (by first | exact pred_lt2 ‹_› | walk_at "l")⟩
          | exact hs' _ _ (by walk_at "l") (by walk_at "l")
      · rw [Nat.min_eq_left (Nat.succ_le_of_lt hkn)]
        have hkk : σ' k = k := hl'.2 k (Nat.le_refl _)
        refine ⟨fun i hi => ?_, fun i hi => ?_⟩
        · unfold bub
          split
          · lia
          · split
            · have := hl'.1 (i - 1) (by walk_at "l"); lia
            · by_cases hik : i < k
              · have := hl'.1 i hik; lia
              · have : i = k := by walk_at "l"
                subst this; lia
        · unfold bub
          rw [if_neg (by walk_at "l"), if_neg (by walk_at "l")]
          exact hl'.2 i (by walk_at "l")

theorem s_asc {a nrem : Nat} {Q : AscSt → SortSt → Prop} (W : WO a₀.size L) (H : KL prog' w A s a₀ kind L) (hn : nrem ≤ a₀.size) (ha : 1 ≤ a) (han : a ≤ nrem) (B : SB a₀ kind σ st) (hs : SortT L σ a) (hl : Low σ a)
    (h : ∀ n, a ≤ n → n ≤ nrem → SortT L σ n → Low σ n → (n = nrem ∨ L (σ n) (σ (n - 1)) = true) → Q (none, n) st) :
    wpS (model prog' w) A E s (ascLoop a nrem) Q st := by
  unfold ascLoop
  have lows : ∀ x, a ≤ x → Low σ x := fun x hx => ⟨fun i hi => by
    by_cases hia : i < a
    · have := hl.1 i hia; lia
    · rw [hl.2 i (by walk_at "l")]; exact hi, fun i hi => hl.2 i (by walk_at "l")⟩
  refine wpS_forRange (I := fun x c st' => st' = st ∧ c = (none, x) ∧ SortT L σ x) ?step ?fin ⟨rfl, rfl, hs⟩
  case fin =>
    rintro c st' ⟨rfl, rfl, hs'⟩
    rw [Nat.max_eq_right han] at hs' ⊢
    exact h nrem han (Nat.le_refl _) hs' (lows _ han) (.inl rfl)
  case step =>
    rintro x c st' hax hxn ⟨rfl, rfl, hs'⟩
    dsimp only
    refine wpS_bind (s_lt H B (by walk_at "l") (by walk_at "l") ?_)
    cases hless : L (σ x) (σ (x - 1))
    case true =>
      refine wS_pos rfl ?_
      exact wpS_pure (h x hax (by walk_at "l") hs' (lows x hax) (.inr hless))
    case false =>
      refine wS_neg (by decide) ?_
      refine wpS_pure ⟨rfl, rfl, fun i j hij hj => ?_⟩
      by_cases hjx : j < x
      · exact hs' i j hij hjx
      · have hj' : j = x := by walk_at "l"
        subst hj'
        have hlow := (lows j hax).1 i hij
        have hj2 : σ j = j := hl.2 j hax
        refine .inr ⟨?_, by walk_at "l"⟩
        by_cases hi' : i = j - 1
        · subst hi'; exact hless
        · have := hs' i (j - 1) (by walk_at "l") (by walk_at "l")
          have hle : L (σ (j - 1)) (σ i) = false := by
            rcases this with q | q
            · exact W.asy (B.lt _ (by walk_at "l")) (B.lt _ (by walk_at "l")) q
            · exact q.1
          exact W.le_tr (B.lt _ (by walk_at "l")) (B.lt _ (by walk_at "l")) (B.lt _ (by walk_at "l")) hle hless

noncomputable def DescT (L : Nat → Nat → Bool) (σ : Nat → Nat) (m g : Nat) : Prop :=
  (∀ i j, i < j → j < m → L (σ j) (σ i) = true ∨ (L (σ i) (σ j) = false ∧ L (σ j) (σ i) = false ∧ if m - g ≤ i then σ i < σ j else σ j < σ i)) ∧
  (∀ i, m - g ≤ i → i < m → L (σ i) (σ (m - 1)) = false ∧ L (σ (m - 1)) (σ i) = false) ∧
  ∀ i j, i < m - g → m - g ≤ j → j < m → L (σ j) (σ i) = true

theorem s_tail {n nrem : Nat} {Q : Option Nat → SortSt → Prop} (W : WO a₀.size L) (H : KL prog' w A s a₀ kind L) (hn : nrem ≤ a₀.size) (h1 : 1 ≤ n) (hnn : n ≤ nrem) (B : SB a₀ kind σ st)
    (hd : ∀ i j, i < j → j < n → L (σ j) (σ i) = true ∨ (L (σ i) (σ j) = false ∧ σ j < σ i)) (hl : Low σ n)
    (h : ∀ m σ' st', SB a₀ kind σ' st' → 1 ≤ m → m ≤ nrem → SortT L σ' m → Low σ' m → Q (some m) st') :
    wpS (model prog' w) A E s (tail3 n nrem) Q st := by
  unfold tail3
  refine wpS_bind (wpS_reverse ?_)
  have B' := B.mir (i := 0) (j := n) (by walk_at "l") (by walk_at "l")
  refine wpS_bind (s_asc W H hn h1 hnn B' ?_ ?_ fun m hm1 hm2 hsm hlm _ => wpS_pure (h m _ _ B' (by walk_at "l") hm2 hsm hlm))
  · intro i j hij hj
    unfold mir
    rw [if_pos (by walk_at "l"), if_pos (by walk_at "l")]
    rcases hd (0 + n - 1 - j) (0 + n - 1 - i) (by walk_at "l") (by walk_at "l") with q | q
    · exact .inl q
    · exact .inr q
  · refine ⟨fun i hi => ?_, fun i hi => ?_⟩
    · unfold mir; rw [if_pos (by walk_at "l")]; exact hl.1 _ (by walk_at "l")
    · unfold mir; rw [if_neg (by walk_at "l")]; exact hl.2 i hi

theorem s_desc {n nrem : Nat} {Q : DescSt → SortSt → Prop} (W : WO a₀.size L) (H : KL prog' w A s a₀ kind L) (hn : nrem ≤ a₀.size) (h1 : 1 ≤ n) (hnn : n ≤ nrem) (B : SB a₀ kind σ st)
    (hd : DescT L σ n 1) (hl : Low σ n)
    (h : ∀ m neq σ' st', SB a₀ kind σ' st' → n ≤ m → m ≤ nrem → DescT L σ' m (neq + 1) → neq + 1 ≤ m → Low σ' m → Q (none, m, neq) st') :
    wpS (model prog' w) A E s (descLoop n nrem) Q st := by
  unfold descLoop
  refine wpS_forRange (I := fun x c st' => Ex2 fun (neq : Nat) (σ' : Nat → Nat) => An5 (c = (none, x, neq)) (SB a₀ kind σ' st') (DescT L σ' x (neq + 1)) (neq + 1 ≤ x) (Low σ' x)) ?step ?fin ⟨0, σ, rfl, B, hd, by walk_at "l", hl⟩
  case fin =>
    rintro c st' ⟨neq, σ', rfl, B', hd', hq, hl'⟩
    rw [Nat.max_eq_right hnn] at hd' hq hl' ⊢
    exact h nrem neq σ' st' B' hnn (Nat.le_refl _) hd' hq hl'
  case step =>
    rintro x c st' hax hxn ⟨neq, σ', rfl, B', hd', hq, hl'⟩
    dsimp only
    have hx : σ' x = x := hl'.2 x (Nat.le_refl _)
    have hσ : ∀ i, i ≤ x → σ' i < a₀.size := fun i hi => B'.lt i (by walk_at "l")
    refine wpS_bind (s_lt H B' (by walk_at "l") (by walk_at "l") ?_)
    cases hless : L (σ' x) (σ' (x - 1))
    case true =>
      first | refine wI_pos rfl ?_ | simp only [if_true]
      -- the last group is turned round; x stands alone below all
      have below : ∀ i, i < x → L (σ' x) (σ' i) = true := fun i hi => by
        by_cases hi' : i = x - 1
        · subst hi'; exact hless
        · rcases hd'.1 i (x - 1) (by walk_at "l") (by walk_at "l") with q | q
          · exact W.tr _ _ _ (hσ _ (Nat.le_refl _)) (hσ _ (by walk_at "l")) (hσ _ (by walk_at "l")) hless q
          · exact W.lt_le (hσ _ (Nat.le_refl _)) (hσ _ (by walk_at "l")) (hσ _ (by walk_at "l")) hless q.1
      by_cases hneq : neq > 0
      · refine wS_pos hneq ?_
        refine wpS_bind (wpS_reverse (wpS_pure ⟨0, mir σ' (x - (neq + 1)) x, rfl, B'.mir (by walk_at "l") (by walk_at "l"), ⟨fun i j hij hj => ?_, fun i h1 h2 => ?_, fun i j h1 h2 h3 => ?_⟩, by walk_at "l", ?_⟩))
        · by_cases hjx : j = x
          · subst hjx
            left
            unfold mir
            rw [if_neg (by walk_at "l")]
            split
            · exact below _ (by walk_at "l")
            · exact below _ (by walk_at "l")
          · have hj2 : j < x := Nat.lt_of_le_of_ne (Nat.le_of_lt_succ hj) hjx
            unfold mir
            have key : ∀ p q, p < q → q < x → L (σ' q) (σ' p) = true ∨ (L (σ' p) (σ' q) = false ∧ L (σ' q) (σ' p) = false ∧ if x - (neq + 1) ≤ p then σ' p < σ' q else σ' q < σ' p) := fun p q => hd'.1 p q
            split <;> split
            · -- both in the group
              rcases key (x - (neq + 1) + x - 1 - j) (x - (neq + 1) + x - 1 - i) (by walk_at "l") (by walk_at "l") with q | q
              · have e := hd'.2.1 (x - (neq + 1) + x - 1 - i) (by walk_at "l") (by walk_at "l")
                have e' := hd'.2.1 (x - (neq + 1) + x - 1 - j) (mtop hj2) (mhi2 hij ‹_›)
                have := W.le_tr (hσ _ (by walk_at "l")) (hσ (x - 1) (by walk_at "l")) (hσ _ (by walk_at "l")) e'.2 e.1
                rw [q] at this; cases this
              · rw [if_pos (by walk_at "l")] at q
                exact .inr ⟨q.2.1, q.1, by rw [if_neg (by walk_at "l")]; exact q.2.2⟩
            · rcases key i (x - (neq + 1) + x - 1 - j) (Nat.lt_of_lt_of_le (mout ‹_› (Nat.lt_trans hij hj2)) (mtop hj2)) (mhi ‹_›) with q | q
              · exact .inl q
              · rw [if_neg (by walk_at "l")] at q
                exact .inr ⟨q.1, q.2.1, by rw [if_neg (by walk_at "l")]; exact q.2.2⟩
            · exact (mup ‹_› hij hj2 ‹_›).elim
            · rcases key i j hij (by walk_at "l") with q | q
              · exact .inl q
              · rw [if_neg (by walk_at "l")] at q
                exact .inr ⟨q.1, q.2.1, by rw [if_neg (by walk_at "l")]; exact q.2.2⟩
        · have hi : i = x + 1 - 1 := by walk_at "l"
          have e := W.irr (mir σ' (x - (neq + 1)) x (x + 1 - 1)) ((B'.mir (i := x - (neq + 1)) (j := x) (by walk_at "l") (by walk_at "l")).lt _ (by walk_at "l"))
          rw [hi]
          exact ⟨e, e⟩
        · have hj : j = x := by walk_at "l"
          unfold mir
          rw [hj, if_neg (by walk_at "l")]
          split
          · exact below _ (by walk_at "l")
          · exact below _ (by walk_at "l")
        · refine ⟨fun i hi => ?_, fun i hi => ?_⟩
          · unfold mir
            split
            · have := hl'.1 (x - (neq + 1) + x - 1 - i) (by walk_at "l"); lia
            · by_cases hix : i < x
              · have := hl'.1 i hix; lia
              · have : i = x := by walk_at "l"
                subst this; lia
          · unfold mir; rw [if_neg (by walk_at "l")]; exact hl'.2 i (by walk_at "l")
      · rw [if_neg hneq]
        have hn0 : neq = 0 := by walk_at "l"
        subst hn0
        refine wpS_pure ⟨0, σ', rfl, B', ⟨fun i j hij hj => ?_, fun i h1 h2 => ?_, fun i j h1 h2 h3 => ?_⟩, by walk_at "l", ?_⟩
        · by_cases hjx : j = x
          · subst hjx; exact .inl (below _ (by walk_at "l"))
          · rcases hd'.1 i j hij (by walk_at "l") with q | q
            · exact .inl q
            · rw [if_neg (by walk_at "l")] at q
              exact .inr ⟨q.1, q.2.1, by rw [if_neg (by walk_at "l")]; exact q.2.2⟩
        · have hi : i = x + 1 - 1 := by walk_at "l"
          have e := W.irr (σ' (x + 1 - 1)) (hσ _ (by walk_at "l"))
          rw [hi]
          exact ⟨e, e⟩
        · have hj : j = x := by walk_at "l"
          rw [hj]
          exact below _ (by walk_at "l")
        · exact ⟨fun i hi => by
            by_cases hix : i < x
            · have := hl'.1 i hix; lia
            · have : i = x := by walk_at "l"
              subst this; lia, fun i hi => hl'.2 i (by walk_at "l")⟩
    case false =>
      refine wS_neg (by decide) ?_
      refine wpS_bind (s_lt H B' (by walk_at "l") (by walk_at "l") ?_)
      cases hlarger : L (σ' (x - 1)) (σ' x)
      case true =>
        refine wS_pos rfl ?_
        exact wpS_pure (h x neq σ' st' B' hax (by walk_at "l") hd' hq hl')
      case false =>
        refine wS_neg (by decide) ?_
        refine wpS_pure ⟨neq + 1, σ', rfl, B', ⟨fun i j hij hj => ?_, fun i h1 h2 => ?_, fun i j h1 h2 h3 => ?_⟩, by walk_at "l", ?_⟩
        · by_cases hjx : j = x
          · subst hjx
            have hil := hl'.1 i (by walk_at "l")
            by_cases hi' : j - (neq + 1) ≤ i
            · have e := hd'.2.1 i hi' (by walk_at "l")
              refine .inr ⟨W.le_tr (hσ _ (by walk_at "l")) (hσ (j - 1) (by walk_at "l")) (hσ _ (by walk_at "l")) hlarger e.1, W.le_tr (hσ _ (by walk_at "l")) (hσ (j - 1) (by walk_at "l")) (hσ _ (by walk_at "l")) e.2 hless, ?_⟩
              rw [if_pos (by walk_at "l")]; lia
            · exact .inl (W.le_lt (hσ _ (by walk_at "l")) (hσ (j - 1) (by walk_at "l")) (hσ _ (by walk_at "l")) hlarger (hd'.2.2 i (j - 1) (by walk_at "l") (Nat.sub_le_sub_left (Nat.le_add_left 1 neq) _) (by walk_at "l")))
          · rcases hd'.1 i j hij (by walk_at "l") with q | q
            · exact .inl q
            · refine .inr ⟨q.1, q.2.1, ?_⟩
              have e3 : (x + 1 - (neq + 1 + 1) ≤ i) ↔ (x - (neq + 1) ≤ i) := by walk_at "l"
              simp only [e3]; exact q.2.2
        · rw [show x + 1 - 1 = x by walk_at "l"]
          by_cases hix : i = x
          · subst hix; have e := W.irr (σ' i) (hσ _ (by walk_at "l")); exact ⟨e, e⟩
          · have e := hd'.2.1 i (by walk_at "l") (by walk_at "l")
            exact ⟨W.le_tr (hσ _ (by walk_at "l")) (hσ (x - 1) (by walk_at "l")) (hσ _ (by walk_at "l")) hlarger e.1, W.le_tr (hσ _ (by walk_at "l")) (hσ (x - 1) (by walk_at "l")) (hσ _ (by walk_at "l")) e.2 hless⟩
        · by_cases hjx : j = x
          · rw [hjx]
            exact W.le_lt (hσ _ (by walk_at "l")) (hσ (x - 1) (by walk_at "l")) (hσ _ (by walk_at "l")) hlarger (hd'.2.2 i (x - 1) (by walk_at "l") (Nat.sub_le_sub_left (Nat.le_add_left 1 neq) _) (by walk_at "l"))
          · exact hd'.2.2 i j (by walk_at "l") (by walk_at "l") (by walk_at "l")
        · exact ⟨fun i hi => by
            by_cases hix : i < x
            · have := hl'.1 i hix; lia
            · have : i = x := by walk_at "l"
              subst this; lia, fun i hi => hl'.2 i (by walk_at "l")⟩

theorem s_descPart {n nrem : Nat} {Q : Option Nat → SortSt → Prop} (W : WO a₀.size L) (H : KL prog' w A s a₀ kind L) (hn : nrem ≤ a₀.size) (hnn : n + 1 ≤ nrem) (B : SB a₀ kind σ st)
    (hd : DescT L σ (n + 1) 1) (hl : Low σ (n + 1)) (h : ∀ m σ' st', SB a₀ kind σ' st' → 1 ≤ m → m ≤ nrem → SortT L σ' m → Low σ' m → Q (some m) st') :
    wpS (model prog' w) A E s (descPart n nrem) Q st := by
  unfold descPart
  refine wpS_bind (wpS_lift (wpAny_rule ⟨rfl, ?_⟩))
  refine wpS_bind (s_desc W H hn (by walk_at "l") hnn B hd hl fun m neq σ' st' B' hm1 hm2 hd' hq hl' => ?_)
  dsimp only
  have hσ : ∀ i, i < m → σ' i < a₀.size := fun i hi => B'.lt i (by walk_at "l")
  by_cases hneq : neq > 0
  · refine wS_pos hneq ?_
    refine wpS_bind (wpS_reverse (s_tail W H hn (by walk_at "l") hm2 (B'.mir (i := m - (neq + 1)) (j := m) (by walk_at "l") (by walk_at "l")) ?_ ?_ h))
    · intro i j hij hj
      unfold mir
      split <;> split
      · rcases hd'.1 (m - (neq + 1) + m - 1 - j) (m - (neq + 1) + m - 1 - i) (by walk_at "l") (by walk_at "l") with q | q
        · have e := hd'.2.1 (m - (neq + 1) + m - 1 - i) (by walk_at "l") (by walk_at "l")
          have e' := hd'.2.1 (m - (neq + 1) + m - 1 - j) (by walk_at "l") (by walk_at "l")
          have := W.le_tr (hσ _ (by walk_at "l")) (hσ (m - 1) (by walk_at "l")) (hσ _ (by walk_at "l")) e'.2 e.1
          rw [q] at this; cases this
        · rw [if_pos (by walk_at "l")] at q
          exact .inr ⟨q.2.1, q.2.2⟩
      · exact .inl (hd'.2.2 i _ (by walk_at "l") (by walk_at "l") (by walk_at "l"))
      · exact (mup ‹_› hij hj ‹_›).elim
      · rcases hd'.1 i j hij (by walk_at "l") with q | q
        · exact .inl q
        · rw [if_neg (by walk_at "l")] at q
          exact .inr ⟨q.1, q.2.2⟩
    · refine ⟨fun i hi => ?_, fun i hi => ?_⟩
      · unfold mir
        split
        · exact hl'.1 _ (by walk_at "l")
        · exact hl'.1 i hi
      · unfold mir; rw [if_neg (by walk_at "l")]; exact hl'.2 i hi
  · rw [if_neg hneq]
    refine s_tail W H hn (by walk_at "l") hm2 B' ?_ hl' h
    intro i j hij hj
    rcases hd'.1 i j hij hj with q | q
    · exact .inl q
    · rw [if_neg (by walk_at "l")] at q
      exact .inr ⟨q.1, q.2.2⟩

theorem s_count {nrem : Nat} {Q : Option Nat → SortSt → Prop} (W : WO a₀.size L) (H : KL prog' w A s a₀ kind L) (hn : nrem ≤ a₀.size) (h1 : 1 ≤ nrem) (B : SB a₀ kind id st)
    (h : ∀ m σ' st', SB a₀ kind σ' st' → 1 ≤ m → m ≤ nrem → SortT L σ' m → Low σ' m → Q (some m) st') :
    wpS (model prog' w) A E s (countRun' 0 nrem) Q st := by
  rw [countRun0_eq]
  have low : ∀ a, Low id a := fun a => ⟨fun i hi => hi, fun i _ => rfl⟩
  refine wpS_bind (s_asc W H hn (Nat.le_refl 1) h1 B (fun i j hij hj => by walk_at "l") (low 1) fun n hn1 hn2 hsn _ hor => ?_)
  dsimp only
  by_cases hnn : n = nrem
  · refine wS_pos (by simpa using hnn) ?_
    exact wpS_pure (h n id st B hn1 hn2 hsn (low n))
  · rw [if_neg (by simpa using hnn)]
    have hlt : L n (n - 1) = true := hor.resolve_left hnn
    by_cases hgt : n > 1
    · refine wS_pos hgt ?_
      refine wpS_bind (s_lt H B (by walk_at "l") (by walk_at "l") ?_)
      cases hrose : L (id 0) (id (n - 1))
      case true =>
        refine wS_pos rfl ?_
        exact wpS_pure (h n id st B hn1 hn2 hsn (low n))
      case false =>
        first | refine wI_neg (by decide) ?_ | simp only [Bool.false_eq_true, if_false]
        have hle : ∀ i j, i < j → j < n → L j i = false := fun i j hij hj => by
          rcases hsn i j hij hj with q | q
          · exact W.asy (by show i < _; lia) (by show j < _; lia) q
          · exact q.1
        have ge : ∀ k, k < n → L k (n - 1) = false := fun k hk => by
          by_cases h0 : k = 0
          · subst h0; exact hrose
          · exact W.le_tr (by walk_at "l") (by walk_at "l") (by walk_at "l") (show L 0 (n - 1) = false from hrose) (hle 0 k (by walk_at "l") hk)
        have hall : ∀ i j, i < n → j < n → L i j = false := fun i j hi hj => by
          by_cases hj' : j = n - 1
          · subst hj'; exact ge i hi
          · have e := hle j (n - 1) (by walk_at "l") (by walk_at "l")
            exact W.le_tr (by walk_at "l") (by walk_at "l") (by walk_at "l") e (ge i hi)
        have hbelow : ∀ i, i < n → L n i = true := fun i hi => W.lt_le (by walk_at "l") (by walk_at "l") (by walk_at "l") hlt (hall i (n - 1) hi (by walk_at "l"))
        have em : ∀ k, k < n → mir id 0 n k = n - 1 - k := fun k hk => by unfold mir; rw [if_pos (by walk_at "l")]; show 0 + n - 1 - k = _; lia
        have en : mir id 0 n n = n := by unfold mir; rw [if_neg (by walk_at "l")]; rfl
        refine wpS_bind (wpS_reverse (s_descPart W H hn (by walk_at "l") (B.mir (i := 0) (j := n) (by walk_at "l") (by walk_at "l")) ⟨fun i j hij hj => ?_, fun i h1 h2 => ?_, fun i j h1 h2 h3 => ?_⟩ ⟨fun i hi => ?_, fun i hi => ?_⟩ h))
        · by_cases hjn : j = n
          · subst hjn; rw [en, em i (by walk_at "l")]; exact .inl (hbelow _ (cnt1 hij))
          · rw [em i (by walk_at "l"), em j (by walk_at "l")]
            have hj2 : j < n := Nat.lt_of_le_of_ne (Nat.le_of_lt_succ hj) hjn
            exact .inr ⟨hall _ _ (cnt1 (Nat.lt_trans hij hj2)) (cnt1 hj2), hall _ _ (cnt1 hj2) (cnt1 (Nat.lt_trans hij hj2)), by rw [if_neg (by walk_at "l")]; exact cnt2 hij hj2⟩
        · have hi : i = n := by walk_at "l"
          rw [show n + 1 - 1 = n by walk_at "l", hi, en]
          have e := W.irr n (by walk_at "l")
          exact ⟨e, e⟩
        · have hj : j = n := by walk_at "l"
          rw [hj, en, em i (by walk_at "l")]; exact hbelow _ (by walk_at "l")
        · by_cases hin : i = n
          · rw [hin, en]; lia
          · rw [em i (by walk_at "l")]; exact Nat.lt_succ_of_le (Nat.le_trans (Nat.sub_le _ _) (Nat.sub_le _ _))
        · unfold mir; rw [if_neg (by walk_at "l")]; rfl
    · rw [if_neg hgt]
      have hn1' : n = 1 := by walk_at "l"
      subst hn1'
      refine s_descPart W H hn (by walk_at "l") B ⟨fun i j hij hj => ?_, fun i h1 h2 => ?_, fun i j h1 h2 h3 => ?_⟩ (low 2) h
      · have hi0 : i = 0 := by walk_at "l"
        have hj1 : j = 1 := by walk_at "l"
        rw [hi0, hj1]; exact .inl hlt
      · have hi : i = 1 := by walk_at "l"
        rw [hi]
        have e := W.irr 1 (by walk_at "l")
        exact ⟨e, e⟩
      · have hi0 : i = 0 := by walk_at "l"
        have hj1 : j = 1 := by walk_at "l"
        rw [hi0, hj1]; exact hlt

theorem s_runs {Q : Unit → SortSt → Prop} (W : WO a₀.size L) (H : KL prog' w A s a₀ kind L) (B : SB a₀ kind id st) (h2 : 2 ≤ a₀.size) (h64 : a₀.size < 64)
    (h : ∀ σ' st', failedOf st' = none → (arrOf st').size = a₀.size → (∀ k, k < a₀.size → (arrOf st')[k]? = a₀[σ' k]?) → (∀ k, k < a₀.size → σ' k < a₀.size) → SortT L σ' a₀.size → Q () st') :
    wpS (model prog' w) A E s sortRuns' Q st := by
  rw [sortRuns'_eq]
  refine wpS_bind (wpS_get ?_)
  dsimp only
  have hmr : minRun' a₀.size a₀.size 0 = a₀.size := by
    obtain ⟨f, hf⟩ : ∃ f, a₀.size = f + 1 := ⟨a₀.size - 1, by walk_at "l"⟩
    have : minRun' (f + 1) a₀.size 0 = a₀.size := by rw [minRun'_succ, if_pos h64]; rfl
    rwa [← hf] at this
  rw [B.size, hmr]
  refine wpS_bind (wpS_mono (wpS_forRange
    (I := fun x c st' => (x = 0 ∧ c = (none, 0) ∧ SB a₀ kind id st') ∨ (1 ≤ x ∧ c = (none, a₀.size) ∧ ∃ σ' st2, SB a₀ kind σ' st2 ∧ SortT L σ' a₀.size ∧ st' = setPending st2 ((pendingOf st2).push (0, a₀.size, 0))))
    (Q := fun c st' => c = (none, a₀.size) ∧ ∃ σ' st2, SB a₀ kind σ' st2 ∧ SortT L σ' a₀.size ∧ st' = setPending st2 ((pendingOf st2).push (0, a₀.size, 0))) ?step ?fin (.inl ⟨rfl, rfl, B⟩)) ?post)
  case fin =>
    rintro c st' (⟨hx, _, _⟩ | ⟨_, hc, hD⟩)
    · lia
    · exact ⟨hc, hD⟩
  case step =>
    rintro x c st' _ hx (⟨rfl, rfl, hB'⟩ | ⟨hx1, rfl, hD⟩)
    · dsimp only
      first | refine wI_neg (by walk_at "l") ?_ | rw [if_neg (by walk_at "l")]
      simp only [Nat.sub_zero, Nat.min_self, Nat.zero_add]
      refine wpS_bind (s_count W H (Nat.le_refl _) (by walk_at "l") hB' fun m σ2 st2 hB2 hm1 hm2 hs2 hl2 => ?_)
      dsimp only
      by_cases hlt : m < a₀.size
      · refine wS_pos hlt ?_
        refine wpS_bind (wpS_lift (wpAny_rule ⟨rfl, ?_⟩))
        refine wpS_bind (s_binary W H (Nat.le_refl _) hm2 hB2 hs2 hl2 fun σ3 st3 hB3 hs3 => ?_)
        simp only [Bool.not_true, Bool.false_eq_true, if_false]
        refine wpS_bind (wpS_get ?_)
        have hb : (pendingOf st3).back? = none := by rw [hB3.pend]; rfl
        rw [hb]
        dsimp only
        exact wpS_bind (wpS_modify (wpS_pure (.inr ⟨by walk_at "l", rfl, σ3, st3, hB3, hs3, rfl⟩)))
      · rw [if_neg hlt]
        have hm : m = a₀.size := by walk_at "l"
        subst hm
        refine wpS_bind (wpS_get ?_)
        have hb : (pendingOf st2).back? = none := by rw [hB2.pend]; rfl
        rw [hb]
        dsimp only
        exact wpS_bind (wpS_modify (wpS_pure (.inr ⟨by walk_at "l", rfl, σ2, st2, hB2, hs2, rfl⟩)))
    · dsimp only
      refine wS_pos (Nat.le_refl _) ?_
      exact wpS_pure ⟨rfl, hD⟩
  case post =>
    rintro c st' ⟨rfl, σ', st2, hB2, hs2, rfl⟩
    dsimp only
    refine wpS_bind (wpS_mono (wpS_forRange (I := fun _ c st'' => st'' = setPending st2 ((pendingOf st2).push (0, a₀.size, 0)) ∧ c = (none, ())) (Q := fun c st'' => st'' = setPending st2 ((pendingOf st2).push (0, a₀.size, 0)) ∧ c = (none, ())) ?_ (fun _ _ hh => hh) ⟨rfl, rfl⟩) ?_)
    · rintro x c st'' _ _ ⟨rfl, rfl⟩
      refine wpS_bind (wpS_get ?_)
      have hz : (pendingOf (setPending st2 ((pendingOf st2).push (0, a₀.size, 0)))).size ≤ 1 := by
        show ((pendingOf st2).push (0, a₀.size, 0)).size ≤ 1
        rw [hB2.pend]; exact Nat.le_refl 1
      refine wS_pos hz ?_
      exact wpS_pure ⟨rfl, rfl⟩
    · rintro c st'' ⟨rfl, rfl⟩
      exact wpS_pure (h σ' _ hB2.failed hB2.size hB2.arr hB2.lt hs2)
end

noncomputable def Ans {α : Type} (w : World) (g : Heap) (n : Nat) (t : Sem α) (r : α) : Prop :=
  ∀ (A : Around) (E : Value → Shared → Prop) (Q : α → Shared → Prop) (s : Shared), A.units + n < cLine → Keeps g s.heap → Q r s → wpAny (model prog w) A t Q E s
theorem Ans.keeps {α : Type} {w : World} {g g' : Heap} {n : Nat} {t : Sem α} {r : α} (x : Ans w g n t r) (k : Keeps g g') : Ans w g' n t r := fun A E Q s hu hk h => x A E Q s hu (k.trans hk) h
theorem Ans.more {α : Type} {w : World} {g : Heap} {n m : Nat} {t : Sem α} {r : α} (x : Ans w g n t r) (h : n ≤ m) : Ans w g m t r := fun A E Q s hu hk hq => x A E Q s (by walk_at "l") hk hq

section
variable {w : World} {g : Heap}
theorem a_eq_str (x y : Str) (t u : Tok) : Ans w g 0 (eqBool (.str x t) (.str y u)) (x == y) := fun _ _ _ _ _ _ h => eqBool_str h
theorem a_lt_str (x y : Str) (t u : Tok) : Ans w g 0 (richCompare .Lt (.str x t) (.str y u)) (.bool (decide (x.cps.toList < y.cps.toList))) := fun A E Q s _ _ h =>
  show wpAny _ A (compareOp .Lt _ _) Q E s from P.lt_str h
theorem a_gt_str (x y : Str) (t u : Tok) : Ans w g 0 (richCompare .Gt (.str x t) (.str y u)) (.bool (decide (y.cps.toList < x.cps.toList))) := fun A E Q s _ _ h =>
  show wpAny _ A (compareOp .Gt _ _) Q E s from P.gt_str h
theorem a_lt_int (a b : Int) (t u : Tok) : Ans w g 0 (richCompare .Lt (.int a t) (.int b u)) (.bool (decide (a < b))) := fun A E Q s _ _ h =>
  show wpAny _ A (compareOp .Lt _ _) Q E s from PyProof.Rows.lt_int h
theorem a_gt_int (a b : Int) (t u : Tok) : Ans w g 0 (richCompare .Gt (.int a t) (.int b u)) (.bool (decide (b < a))) := fun A E Q s _ _ h =>
  show wpAny _ A (compareOp .Gt _ _) Q E s from PyProof.Rows.gt_int h
theorem a_eq_int (a b : Int) (t u : Tok) : Ans w g 0 (eqBool (.int a t) (.int b u)) (a == b) := fun A E Q s _ _ h => by
  unfold eqBool
  show wpAny _ _ (if (Value.int a t == Value.int b u) = true then _ else _) Q E s
  by_cases hab : (Value.int a t == Value.int b u) = true
  · rw [if_pos hab]
    have e : a = b := by have := eq_of_beq hab; injection this
    subst e
    exact wpAny_bind (wpAny_rule (wpAny_pure (by simpa using h)))
  · rw [if_neg hab]
    exact wpAny_bind (show wpAny _ A (compareOp .Eq _ _) _ E s from PyProof.Rows.eq_int (wpAny_truthy_bool h))

structure Two (w : World) (g : Heap) (n : Nat) (op : CmpOp) (v v' : Value) (e r : Bool) : Prop where
  eq : Ans w g n (eqBool v v') e
  cm : e = false → Ans w g n (richCompare op v v') (.bool r)
theorem Two.keeps {g' : Heap} {n : Nat} {op : CmpOp} {v v' : Value} {e r : Bool} (x : Two w g n op v v' e r) (k : Keeps g g') : Two w g' n op v v' e r := ⟨x.eq.keeps k, fun h => (x.cm h).keeps k⟩
theorem Two.more {n m : Nat} {op : CmpOp} {v v' : Value} {e r : Bool} (x : Two w g n op v v' e r) (h : n ≤ m) : Two w g m op v v' e r := ⟨x.eq.more h, fun q => (x.cm q).more h⟩

inductive Twos (w : World) (g : Heap) (n : Nat) (op : CmpOp) : List Value → List Value → List (Bool × Bool) → Prop where
  | nil : Twos w g n op [] [] []
  | cons {v v' : Value} {e r : Bool} {vs vs' : List Value} {l : List (Bool × Bool)} : Two w g n op v v' e r → Twos w g n op vs vs' l → Twos w g n op (v :: vs) (v' :: vs') ((e, r) :: l)
theorem Twos.len {n : Nat} {op : CmpOp} {vs vs' : List Value} {l : List (Bool × Bool)} (h : Twos w g n op vs vs' l) : vs.length = vs'.length := by
  induction h with
  | nil => rfl
  | cons _ _ ih => simp [ih]
noncomputable def lex : List (Bool × Bool) → Bool
  | [] => false
  | (e, r) :: t => if e then lex t else r
noncomputable def alike : List (Bool × Bool) → Bool
  | [] => true
  | (e, _) :: t => e && alike t

section
variable {A : Around} {E : Value → Shared → Prop} {s : Shared} {n : Nat}
theorem zip_fst_snd {vs vs' : List Value} (h : vs.length = vs'.length) : (vs.zip vs').map Prod.fst = vs ∧ (vs.zip vs').map Prod.snd = vs' :=
  ⟨List.map_fst_zip (by walk_at "l"), List.map_snd_zip (by walk_at "l")⟩

theorem tup_lt_tree {P : Fin → Shared → Prop} {a b : Addr} {xs ys : List Value} {na nb : Nat} {l : List (Bool × Bool)} (ha : s.heap.get? a = some (seqObj "tuple" xs.toArray na)) (hb : s.heap.get? b = some (seqObj "tuple" ys.toArray nb))
    (hu : A.units + n < cLine) (hk : Keeps g s.heap) (ht : Twos w g n .Lt xs ys l) (h : P (.done (.ret (.bool (lex l)))) s) : wpAny (model prog w) A (Builtin.«tuple.__lt__» ⟨[.ref a, .ref b], []⟩) P E s := by
  show wpAny _ _ (isInstance (.ref b) (.type "tuple") >>= _) _ _ s
  refine wpAny_bind (wpAny_isInstance (T := "tuple") (b := true) ⟨_, hb, rfl⟩ F.sub_tuple_tuple ?_)
  show wpAny _ _ (Builtin.Tuple.tupleItemsOf (.ref a) >>= _) _ _ s
  refine wpAny_bind (wpAny_tupleItemsOf ha rfl ?_)
  refine wpAny_bind (wpAny_tupleItemsOf hb rfl ?_)
  have hz := ht.len
  refine wpAny_bind (wpAny_forIn_list _ (fun rest b s' => b = (none, ()) ∧ s' = s ∧ ∃ l, Twos w g n .Lt (rest.map Prod.fst) (rest.map Prod.snd) l ∧ P (.done (.ret (.bool (lex l)))) s) _ ?_ ?_ _ _ ⟨rfl, rfl, l, ?_, h⟩)
  · rintro ⟨x, y⟩ rest b s' ⟨rfl, rfl, l, hl, hP⟩
    rw [List.map_cons, List.map_cons] at hl
    cases hl with
    | @cons _ _ e r _ _ l hv hl =>
    refine wpAny_bind (hv.eq A _ _ s' hu hk ?_)
    cases e with
    | true =>
      simp only [Bool.not_true, Bool.false_eq_true, if_false]
      exact wpAny_pure ⟨rfl, rfl, l, hl, hP⟩
    | false =>
      simp only [Bool.not_false, if_true]
      refine wpAny_bind (wpAny_rule ?_)
      refine wpAny_bind (hv.cm rfl A _ _ s' hu hk ?_)
      exact wpAny_bind (wpAny_pure (wpAny_pure (wpAny_pure hP)))
  · rintro b s' ⟨rfl, rfl, l, hl, hP⟩
    cases hl
    refine wpAny_pure ?_
    simp only [List.size_toArray, hz]
    simpa [Builtin.Tuple.tupleCompareSizes, lex, alike] using hP
  · simp only
    rw [(zip_fst_snd hz).1, (zip_fst_snd hz).2]; exact ht

theorem tup_gt_tree {P : Fin → Shared → Prop} {a b : Addr} {xs ys : List Value} {na nb : Nat} {l : List (Bool × Bool)} (ha : s.heap.get? a = some (seqObj "tuple" xs.toArray na)) (hb : s.heap.get? b = some (seqObj "tuple" ys.toArray nb))
    (hu : A.units + n < cLine) (hk : Keeps g s.heap) (ht : Twos w g n .Gt xs ys l) (h : P (.done (.ret (.bool (lex l)))) s) : wpAny (model prog w) A (Builtin.«tuple.__gt__» ⟨[.ref a, .ref b], []⟩) P E s := by
  show wpAny _ _ (isInstance (.ref b) (.type "tuple") >>= _) _ _ s
  refine wpAny_bind (wpAny_isInstance (T := "tuple") (b := true) ⟨_, hb, rfl⟩ F.sub_tuple_tuple ?_)
  show wpAny _ _ (Builtin.Tuple.tupleItemsOf (.ref a) >>= _) _ _ s
  refine wpAny_bind (wpAny_tupleItemsOf ha rfl ?_)
  refine wpAny_bind (wpAny_tupleItemsOf hb rfl ?_)
  have hz := ht.len
  refine wpAny_bind (wpAny_forIn_list _ (fun rest b s' => b = (none, ()) ∧ s' = s ∧ ∃ l, Twos w g n .Gt (rest.map Prod.fst) (rest.map Prod.snd) l ∧ P (.done (.ret (.bool (lex l)))) s) _ ?_ ?_ _ _ ⟨rfl, rfl, l, ?_, h⟩)
  · rintro ⟨x, y⟩ rest b s' ⟨rfl, rfl, l, hl, hP⟩
    rw [List.map_cons, List.map_cons] at hl
    cases hl with
    | @cons _ _ e r _ _ l hv hl =>
    refine wpAny_bind (hv.eq A _ _ s' hu hk ?_)
    cases e with
    | true =>
      simp only [Bool.not_true, Bool.false_eq_true, if_false]
      exact wpAny_pure ⟨rfl, rfl, l, hl, hP⟩
    | false =>
      simp only [Bool.not_false, if_true]
      refine wpAny_bind (wpAny_rule ?_)
      refine wpAny_bind (hv.cm rfl A _ _ s' hu hk ?_)
      exact wpAny_bind (wpAny_pure (wpAny_pure (wpAny_pure hP)))
  · rintro b s' ⟨rfl, rfl, l, hl, hP⟩
    cases hl
    refine wpAny_pure ?_
    simp only [List.size_toArray, hz]
    simpa [Builtin.Tuple.tupleCompareSizes, lex, alike] using hP
  · simp only
    rw [(zip_fst_snd hz).1, (zip_fst_snd hz).2]; exact ht

theorem tup_eq_tree {op : CmpOp} {P : Fin → Shared → Prop} {a b : Addr} {xs ys : List Value} {na nb : Nat} {l : List (Bool × Bool)} (ha : s.heap.get? a = some (seqObj "tuple" xs.toArray na)) (hb : s.heap.get? b = some (seqObj "tuple" ys.toArray nb))
    (hu : A.units + n < cLine) (hk : Keeps g s.heap) (ht : Twos w g n op xs ys l) (h : P (.done (.ret (.bool (alike l)))) s) : wpAny (model prog w) A (Builtin.«tuple.__eq__» ⟨[.ref a, .ref b], []⟩) P E s := by
  show wpAny _ _ (isInstance (.ref b) (.type "tuple") >>= _) _ _ s
  refine wpAny_bind (wpAny_isInstance (T := "tuple") (b := true) ⟨_, hb, rfl⟩ F.sub_tuple_tuple ?_)
  show wpAny _ _ (Builtin.Tuple.tupleItemsOf (.ref a) >>= _) _ _ s
  refine wpAny_bind (wpAny_tupleItemsOf ha rfl ?_)
  refine wpAny_bind (wpAny_tupleItemsOf hb rfl ?_)
  have hz := ht.len
  refine wpAny_bind (wpAny_forIn_list _ (fun rest b s' => b = (none, ()) ∧ s' = s ∧ ∃ l, Twos w g n op (rest.map Prod.fst) (rest.map Prod.snd) l ∧ P (.done (.ret (.bool (alike l)))) s) _ ?_ ?_ _ _ ⟨rfl, rfl, l, ?_, h⟩)
  · rintro ⟨x, y⟩ rest b s' ⟨rfl, rfl, l, hl, hP⟩
    rw [List.map_cons, List.map_cons] at hl
    cases hl with
    | @cons _ _ e r _ _ l hv hl =>
    refine wpAny_bind (hv.eq A _ _ s' hu hk ?_)
    cases e with
    | true =>
      simp only [Bool.not_true, Bool.false_eq_true, if_false]
      exact wpAny_pure ⟨rfl, rfl, l, hl, hP⟩
    | false =>
      simp only [Bool.not_false, if_true]
      exact wpAny_bind (wpAny_pure (wpAny_pure (wpAny_pure hP)))
  · rintro b s' ⟨rfl, rfl, l, hl, hP⟩
    cases hl
    refine wpAny_pure ?_
    simp only [List.size_toArray, hz]
    simpa [Builtin.Tuple.tupleCompareSizes, lex, alike] using hP
  · simp only
    rw [(zip_fst_snd hz).1, (zip_fst_snd hz).2]; exact ht

theorem a_tup_eq {op : CmpOp} {a b : Addr} {xs ys : List Value} {na nb : Nat} {l : List (Bool × Bool)} (ha : g.get? a = some (seqObj "tuple" xs.toArray na)) (hb : g.get? b = some (seqObj "tuple" ys.toArray nb))
    (ht : Twos w g n op xs ys l) (hr : a = b → alike l = true) : Ans w g (n + 2) (eqBool (.ref a) (.ref b)) (alike l) := fun A E Q s hu hk h => by
  unfold eqBool
  refine wpAny_holding ?_
  show wpAny _ _ (if (Value.ref a == Value.ref b) = true then _ else _) Q E s
  by_cases hab : (Value.ref a == Value.ref b) = true
  · rw [if_pos hab]
    have e : a = b := by have := eq_of_beq hab; injection this
    exact wpAny_bind (wpAny_rule (wpAny_pure (by rw [hr e] at h; exact h)))
  · rw [if_neg hab]
    refine wpAny_bind (wpAny_richCompare_same_or (op := .Eq) (T := "tuple") ⟨_, hk _ _ ha, rfl⟩ ⟨_, hk _ _ hb, rfl⟩ F.slot_tuple_eq ?_ (Or.inr (by walk_at "l")))
    exact wpAny_call_entry F.slot_tuple_eq ⟨_, hk _ _ ha, rfl⟩ F.entry_tuple_eq (tup_eq_tree (hk _ _ ha) (hk _ _ hb) (by show A.units + 1 + n < cLine; lia) hk ht ⟨_, rfl, by simp, wpAny_truthy_bool h⟩) (F.args_tuple_eq_2 _ _)
theorem a_tup_lt {a b : Addr} {xs ys : List Value} {na nb : Nat} {l : List (Bool × Bool)} (ha : g.get? a = some (seqObj "tuple" xs.toArray na)) (hb : g.get? b = some (seqObj "tuple" ys.toArray nb))
    (ht : Twos w g n .Lt xs ys l) : Ans w g (n + 2) (richCompare .Lt (.ref a) (.ref b)) (.bool (lex l)) := fun A E Q s hu hk h => by
  refine wpAny_richCompare_same_or (op := .Lt) (T := "tuple") ⟨_, hk _ _ ha, rfl⟩ ⟨_, hk _ _ hb, rfl⟩ F.slot_tuple_lt ?_ (Or.inr (by walk_at "l"))
  exact wpAny_call_entry F.slot_tuple_lt ⟨_, hk _ _ ha, rfl⟩ F.entry_tuple_lt (tup_lt_tree (hk _ _ ha) (hk _ _ hb) (by show A.units + 1 + n < cLine; lia) hk ht ⟨_, rfl, by simp, h⟩) (F.args_tuple_lt_2 _ _)
theorem a_tup_gt {a b : Addr} {xs ys : List Value} {na nb : Nat} {l : List (Bool × Bool)} (ha : g.get? a = some (seqObj "tuple" xs.toArray na)) (hb : g.get? b = some (seqObj "tuple" ys.toArray nb))
    (ht : Twos w g n .Gt xs ys l) : Ans w g (n + 2) (richCompare .Gt (.ref a) (.ref b)) (.bool (lex l)) := fun A E Q s hu hk h => by
  refine wpAny_richCompare_same_or (op := .Gt) (T := "tuple") ⟨_, hk _ _ ha, rfl⟩ ⟨_, hk _ _ hb, rfl⟩ F.slot_tuple_gt ?_ (Or.inr (by walk_at "l"))
  exact wpAny_call_entry F.slot_tuple_gt ⟨_, hk _ _ ha, rfl⟩ F.entry_tuple_gt (tup_gt_tree (hk _ _ ha) (hk _ _ hb) (by show A.units + 1 + n < cLine; lia) hk ht ⟨_, rfl, by simp, h⟩) (F.args_tuple_gt_2 _ _)

noncomputable def Fst (w : World) (g : Heap) (n : Nat) (first : Bool) (xs ys : List Value) (l : List (Bool × Bool)) : Prop :=
  ∀ v v' e r vs vs' l', xs = v :: vs → ys = v' :: vs' → l = (e, r) :: l' → e = false → Ans w g n (oneLt' first v v') r
theorem k_tup_lt {first : Bool} {a b : Addr} {xs ys : List Value} {na nb : Nat} {l : List (Bool × Bool)} (ha : g.get? a = some (seqObj "tuple" xs.toArray na)) (hb : g.get? b = some (seqObj "tuple" ys.toArray nb))
    (ht : Twos w g n .Lt xs ys l) (h1 : Fst w g n first xs ys l) :
    Ans w g n (keyLt' (tuples' first) (.ref a) (.ref b)) (lex l) := fun A E Q s hu hk h => by
  rw [kat_lt_eq]
  refine wpAny_bind (listItems_at (hk _ _ ha) rfl ?_)
  refine wpAny_bind (listItems_at (hk _ _ hb) rfl ?_)
  have hz := ht.len
  simp only
  refine wpAny_bind (wpAny_forIn_list _ (fun rest b s' => b = (none, ()) ∧ s' = s ∧ ∃ (i : Nat) (vs vs' : List Value) (l : List (Bool × Bool)), rest = (vs.zip vs').zipIdx i ∧ Twos w g n .Lt vs vs' l ∧ Q (lex l) s ∧ Fst w g n (first && i == 0) vs vs' l) _ ?_ ?_ _ _ ⟨rfl, rfl, 0, xs, ys, l, rfl, ht, h, fun v v' e r ts ts' l' q1 q2 q3 q4 => ?_⟩)
  · rintro ⟨⟨x, y⟩, j⟩ rest b s' ⟨rfl, rfl, i, vs, vs', l, hr, hl, hP, h1⟩
    cases hl with
    | nil => simp at hr
    | @cons v v' e r vs vs' l hv hl =>
    rw [List.zip_cons_cons, List.zipIdx_cons] at hr
    injection hr with hr1 hr2
    injection hr1 with hr3 hr4
    injection hr3 with hr5 hr6
    subst hr5 hr6 hr4 hr2
    dsimp only
    refine wpAny_bind (hv.eq A _ _ s' hu hk ?_)
    cases e with
    | true =>
      simp only [Bool.not_true, Bool.false_eq_true, if_false]
      refine wpAny_pure ⟨rfl, rfl, j + 1, vs, vs', l, rfl, hl, hP, fun p p' e r ts ts' l' q1 q2 q3 q4 => ?_⟩
      subst q1 q2 q3
      rw [show (first && (j + 1 == 0)) = false by simp]
      cases hl with
      | cons hv' _ =>
        subst q4
        intro A E Q s hu hk h
        rw [oneLt'_eq]
        first | refine wI_neg (by decide) ?_ | simp only [Bool.false_eq_true, if_false]
        exact wpAny_bind (hv'.cm rfl A _ _ s hu hk (wpAny_truthy_bool h))
    | false =>
      simp only [Bool.not_false, if_true]
      refine wpAny_bind (h1 _ _ _ _ _ _ _ rfl rfl rfl rfl A _ _ s' hu hk ?_)
      exact wpAny_pure (wpAny_pure hP)
  · rintro b s' ⟨rfl, rfl, i, vs, vs', l, hr, hl, hP, _⟩
    cases hl with
    | cons => simp at hr
    | nil =>
      refine wpAny_pure ?_
      simpa [lex, hz] using hP
  · simpa using h1 v v' e r ts ts' l' q1 q2 q3 q4
end
end

section
variable {w : World} {A : Around} {E : Value → Shared → Prop} {s : Shared} {g g₀ : Heap} {L : Addr} {l : List (Str × Value)} {N : List (Addr × Obj)} {o : OsState} {mg mb : Str → Option Value}

theorem St.turn {s' : Shared} {a : Addr} {ob ob' : Obj} (S : St g L l N o s) (i : Nat) (hi : N[i]? = some (a, ob)) (hx : Heap.ExtBut a s.heap s'.heap) (ho : s'.heap.get? a = some ob') (h1 : s'.os = s.os) (h2 : s'.gens = s.gens) : St g L l (N.set i (a, ob')) o s' := by
  have hm := List.mem_of_getElem? hi
  obtain ⟨_, n2, n3⟩ := S.nw _ hm
  obtain ⟨m, F, hl⟩ := S.fr
  obtain ⟨hlt, he⟩ := List.getElem?_eq_some_iff.mp hi
  have key : (N.set i (a, ob')).map (·.1) = N.map (·.1) := by
    rw [List.map_set]
    apply List.ext_getElem?
    intro j
    by_cases hj : i = j
    · subst hj; simp [hlt, he]
    · simp [hj]
  refine ⟨⟨m, ⟨F.ns.extBut hx n2.symm, fun b ob' e => hx b ob' (fun q => by rw [q, n3] at e; cases e) (F.keep b ob' e), F.nl⟩, hl⟩, fun p hp => ?_, by rw [key]; exact S.nd, h1.trans S.os, by rw [h2]; exact S.gn⟩
  obtain ⟨j, hj⟩ := List.getElem?_of_mem hp
  by_cases hij : i = j
  · subst hij
    rw [List.getElem?_set_self hlt] at hj
    cases hj
    exact ⟨ho, n2, n3⟩
  · rw [List.getElem?_set_ne hij] at hj
    have hpN := List.mem_of_getElem? hj
    have ne : p.1 ≠ a := fun q => by
      obtain ⟨hjl, hje⟩ := List.getElem?_eq_some_iff.mp hj
      have h1 : (N.map (·.1))[i]'(by simpa using hlt) = a := by simp [he]
      have h2 : (N.map (·.1))[j]'(by simpa using hjl) = a := by simp [hje, q]
      exact hij ((List.getElem_inj S.nd).mp (h1.trans h2.symm))
    exact ⟨hx _ _ ne (S.nw p hpN).1, (S.nw p hpN).2⟩
theorem St.grown {s' : Shared} (S : St g L l N o s) (hx : Keeps s.heap s'.heap) (h1 : s'.os = s.os) (h2 : s'.gens = s.gens) : St g L l N o s' := by
  obtain ⟨m, F, hl⟩ := S.fr
  refine ⟨⟨m, ⟨?_, Keeps.trans F.keep hx, F.nl⟩, hl⟩, fun p hp => ⟨hx _ _ (S.nw p hp).1, (S.nw p hp).2⟩, S.nd, h1.trans S.os, by rw [h2]; exact S.gn⟩
  obtain ⟨oL, es, ep, h1, h2⟩ := F.ns
  exact ⟨oL, es, ep, hx _ _ h1, h2⟩

theorem t_field {a : Addr} {ob : Obj} {vs : Array Value} {k : Nat} {x : Value} {Q : Value → Shared → Prop} (S : St g L l N o s) (i : Nat) (hi : N[i]? = some (a, ob)) (hd : ob.data = .fields vs) (hx : vs[k]? = some x) (h : Q x s) :
    wpAny (model prog w) A (field (.ref a) k) Q E s := wpAny_field (S.at (List.mem_of_getElem? hi)) hd hx h
theorem t_setField {a : Addr} {c : Value} {vs : Array Value} {k : Nat} {x : Value} {Q : Unit → Shared → Prop} (S : St g L l N o s) (i : Nat) (hi : N[i]? = some (a, { cls := c, data := .fields vs })) (hk : k < vs.size)
    (h : ∀ s', St g L l (N.set i (a, { cls := c, data := .fields (vs.setIfInBounds k x) })) o s' → Q () s') : wpAny (model prog w) A (setField (.ref a) k x) Q E s :=
  wpAny_setField_rec (S.at (List.mem_of_getElem? hi)) hk fun _ h1 hs => h _ (S.upd i hi hs h1)
theorem t_new {T : String} {d : Data} {Q : Value → Shared → Prop} (S : St g L l N o s) (hf : ({ cls := .type T, data := d } : Obj).isFreed = false) (h : ∀ a s', St g L l ((a, { cls := .type T, data := d }) :: N) o s' → Q (.ref a) s')
    (hn : sizeOk d := by size_fits) : wpAny (model prog w) A (newObj (.type T) d) Q E s :=
  wpAny_newObj_type (h _ _ (S.new _ hf)) hn
theorem t_stop {α : Type} {Q : α → Shared → Prop} (hh : A.handled = none) (S : St g L l N o s)
    (h : ∀ e s', St g L l N o s' → s'.TypeIs (.ref e) "StopIteration" → E (.ref e) s') : wpAny (model prog w) A (Builtin.SmallTypes.stopIteration : Sem α) Q E s := by
  show wpAny _ _ (newExc (.type "StopIteration") [] >>= _) _ _ _
  refine wpAny_bind ?_
  simp only [newExc, newTuple]
  refine wpAny_bind (wpAny_newObj_type ?_ (by size_fits))
  refine wpAny_bind (m := firstArgMember _ _) (wpAny_of_eq (a := Value.none) (by first | rfl | (simp only [firstArgMember]; rfl)) ?_)
  refine wpAny_newObj_type ?_ (by size_fits)
  simp only [raiseNew]
  refine wpAny_bind (wpAny_handled ?_)
  rw [hh]
  refine wpAny_bind (wpAny_pure (wpAny_throw ?_))
  refine h _ _ (S.grown (fun b ob e => Heap.get?_push_of_some _ (Heap.get?_push_of_some _ e)) rfl rfl) ⟨_, Heap.get?_push_size _ rfl, rfl⟩

noncomputable def SeqAt (h : Heap) (x : Addr) (xs : List Value) : Prop := Ex2 fun (ob : Obj) (n : Nat) => An2 (h.get? x = some ob) (ob.data = .seq xs.toArray n)
noncomputable def liObj (x : Addr) (k : Nat) : Obj := { cls := .type "list_iterator", data := .fields #[.ref x, rawInt k] }
noncomputable def liEnd (k : Nat) : Obj := { cls := .type "list_iterator", data := .fields #[.none, rawInt k] }

theorem pyNext_of {it : Value} {Q : Option Value → Shared → Prop} {X : Value → Shared → Prop} (h : wpAny (model prog w) A (callSpecial? it (Str.ofString "__next__")) (fun r s' => ∃ v, r = some v ∧ Q (some v) s') X s)
    (he : ∀ e s', X e s' → ∃ a, e = .ref a ∧ s'.TypeIs (.ref a) "StopIteration" ∧ Q none s') : wpAny (model prog w) A (pyNext it) Q E s := by
  unfold pyNext
  refine wpAny_bind (wpAny_attempt (wpAny_mono h (fun r s' h' => ?_) fun e s' h' => ?_))
  · obtain ⟨v, rfl, hq⟩ := h'; exact wpAny_pure hq
  · obtain ⟨a, rfl, hT, hq⟩ := he e s' h'
    exact wpAny_bind (wpAny_isInstance (T := "StopIteration") (b := true) hT isSubtype_stop (wpAny_pure hq))
theorem nextOf_of {it : Value} {Q : Value → Shared → Prop} (h : wpAny (model prog w) A (callSpecial? it (Str.ofString "__next__")) (fun r s' => ∃ v, r = some v ∧ Q v s') E s) : wpAny (model prog w) A (Builtin.SmallTypes.nextOf it) Q E s := by
  unfold Builtin.SmallTypes.nextOf
  refine wpAny_bind (wpAny_mono h (fun r s' h' => ?_) fun _ _ x => x)
  obtain ⟨v, rfl, hq⟩ := h'; exact wpAny_pure hq

theorem c_li {it x : Addr} {k : Nat} {xs : List Value} {v : Value} {Q : Option Value → Shared → Prop} (S : St g L l N o s) (i : Nat) (hi : N[i]? = some (it, liObj x k)) (hx : SeqAt s.heap x xs) (hv : xs[k]? = some v)
    (h : ∀ s', St g L l (N.set i (it, liObj x (k + 1))) o s' → Q (some v) s') : wpAny (model prog w) A (callSpecial? (.ref it) (Str.ofString "__next__")) Q E s := by
  have hit := S.at (List.mem_of_getElem? hi)
  obtain ⟨ob, n, hob, hdl⟩ := hx
  have hT : s.TypeIs (.ref it) "list_iterator" := ⟨_, hit, rfl⟩
  refine wpAny_callSpecial?_slot (name := Str.ofString "__next__") hT slot_listiter_next (wpAny_call_entry slot_listiter_next hT entry_listiter_next ?_ (args_listiter_next _))
  show wpAny _ _ (field (.ref it) 0 >>= _) _ _ s
  refine wpAny_bind (wpAny_field hit rfl (x := .ref x) rfl ?_)
  show wpAny _ _ (if (Value.ref x == Value.none) = true then _ else _) _ _ s
  rw [if_neg (show ¬ ((Value.ref x == Value.none) = true) from Bool.false_ne_true)]
  show wpAny _ _ (field (.ref it) 1 >>= _) _ _ s
  refine wpAny_bind (wpAny_field hit rfl (x := .int k 0) rfl ?_)
  show wpAny _ _ (seqItems? (.ref x) >>= _) _ _ s
  refine wpAny_bind (wpAny_seqItems hob hdl ?_)
  simp only [Int.toNat_natCast, List.getElem?_toArray, hv]
  refine wpAny_bind (t_setField (c := .type "list_iterator") (vs := #[.ref x, rawInt k]) S i hi (by simp) fun s' S' => ?_)
  exact wpAny_pure ⟨v, rfl, h _ S'⟩
theorem c_li_end {it x : Addr} {k : Nat} {xs : List Value} {Q : Option Value → Shared → Prop} (hh : A.handled = none) (S : St g L l N o s) (i : Nat) (hi : N[i]? = some (it, liObj x k)) (hx : SeqAt s.heap x xs) (hv : xs.length ≤ k)
    (h : ∀ e s', St g L l (N.set i (it, liEnd k)) o s' → s'.TypeIs (.ref e) "StopIteration" → E (.ref e) s') : wpAny (model prog w) A (callSpecial? (.ref it) (Str.ofString "__next__")) Q E s := by
  have hit := S.at (List.mem_of_getElem? hi)
  obtain ⟨ob, n, hob, hdl⟩ := hx
  have hT : s.TypeIs (.ref it) "list_iterator" := ⟨_, hit, rfl⟩
  refine wpAny_callSpecial?_slot (name := Str.ofString "__next__") hT slot_listiter_next (wpAny_call_entry slot_listiter_next hT entry_listiter_next ?_ (args_listiter_next _))
  show wpAny _ _ (field (.ref it) 0 >>= _) _ _ s
  refine wpAny_bind (wpAny_field hit rfl (x := .ref x) rfl ?_)
  show wpAny _ _ (if (Value.ref x == Value.none) = true then _ else _) _ _ s
  rw [if_neg (show ¬ ((Value.ref x == Value.none) = true) from Bool.false_ne_true)]
  show wpAny _ _ (field (.ref it) 1 >>= _) _ _ s
  refine wpAny_bind (wpAny_field hit rfl (x := .int k 0) rfl ?_)
  show wpAny _ _ (seqItems? (.ref x) >>= _) _ _ s
  refine wpAny_bind (wpAny_seqItems hob hdl ?_)
  have hn : xs[k]? = none := List.getElem?_eq_none hv
  simp only [Int.toNat_natCast, List.getElem?_toArray, hn]
  refine wpAny_bind (wpAny_rule ?_)
  refine wpAny_bind (t_setField (c := .type "list_iterator") (vs := #[.ref x, rawInt k]) S i hi (by simp) fun s' S' => ?_)
  exact t_stop hh S' h
theorem c_li_over {it : Addr} {k : Nat} {Q : Option Value → Shared → Prop} (hh : A.handled = none) (S : St g L l N o s) (i : Nat) (hi : N[i]? = some (it, liEnd k))
    (h : ∀ e s', St g L l N o s' → s'.TypeIs (.ref e) "StopIteration" → E (.ref e) s') : wpAny (model prog w) A (callSpecial? (.ref it) (Str.ofString "__next__")) Q E s := by
  have hit := S.at (List.mem_of_getElem? hi)
  have hT : s.TypeIs (.ref it) "list_iterator" := ⟨_, hit, rfl⟩
  refine wpAny_callSpecial?_slot (name := Str.ofString "__next__") hT slot_listiter_next (wpAny_call_entry slot_listiter_next hT entry_listiter_next ?_ (args_listiter_next _))
  show wpAny _ _ (field (.ref it) 0 >>= _) _ _ s
  refine wpAny_bind (wpAny_field hit rfl (x := .none) rfl ?_)
  show wpAny _ _ (if (Value.none == Value.none) = true then _ else _) _ _ s
  first | refine wI_pos (show (Value.none == Value.none) = true from by decide) ?_ | rw [if_pos (show (Value.none == Value.none) = true from by decide)]
  refine wpAny_bind (wpAny_rule ?_)
  exact wpAny_bind (t_stop hh S h)
theorem n_li {it x : Addr} {k : Nat} {xs : List Value} {v : Value} {Q : Option Value → Shared → Prop} (S : St g L l N o s) (i : Nat) (hi : N[i]? = some (it, liObj x k)) (hx : SeqAt s.heap x xs) (hv : xs[k]? = some v)
    (h : ∀ s', St g L l (N.set i (it, liObj x (k + 1))) o s' → Q (some v) s') : wpAny (model prog w) A (pyNext (.ref it)) Q E s :=
  pyNext_of (X := fun _ _ => False) (c_li S i hi hx hv fun s' S' => ⟨_, rfl, h _ S'⟩) (fun _ _ x => x.elim)
theorem n_li_end {it x : Addr} {k : Nat} {xs : List Value} {Q : Option Value → Shared → Prop} (hh : A.handled = none) (S : St g L l N o s) (i : Nat) (hi : N[i]? = some (it, liObj x k)) (hx : SeqAt s.heap x xs) (hv : xs.length ≤ k)
    (h : ∀ s', St g L l (N.set i (it, liEnd k)) o s' → Q none s') : wpAny (model prog w) A (pyNext (.ref it)) Q E s :=
  pyNext_of (X := fun e s' => ∃ a, e = .ref a ∧ s'.TypeIs (.ref a) "StopIteration" ∧ Q none s') (c_li_end hh S i hi hx hv fun e s' S' hT => ⟨e, rfl, hT, h _ S'⟩) (fun _ _ x => x)
theorem n_li_over {it : Addr} {k : Nat} {Q : Option Value → Shared → Prop} (hh : A.handled = none) (S : St g L l N o s) (i : Nat) (hi : N[i]? = some (it, liEnd k))
    (h : ∀ s', St g L l N o s' → Q none s') : wpAny (model prog w) A (pyNext (.ref it)) Q E s :=
  pyNext_of (X := fun e s' => ∃ a, e = .ref a ∧ s'.TypeIs (.ref a) "StopIteration" ∧ Q none s') (c_li_over hh S i hi fun e s' S' hT => ⟨e, rfl, hT, h _ S'⟩) (fun _ _ x => x)
end

structure Cl (K : Frag) (g : Heap) : Prop where
  X : K.In g
  ga : findIn K (.ref 167) "__getattribute__" = some (some (.builtin "list.__getattribute__"))
  sa : findIn K (.ref 167) "__setattr__" = some (some (.builtin "object.__setattr__"))
  ini2 : findIn K (.ref 167) "_initial_size" = some none
  cd : ∃ cd, An5 (clsIn K 167 = some cd) (cd.mro = [.ref 167, .type "list", .type "object"]) (cd.hasDict = true) (cd.abstract = false) (cd.hasDel = false)
  gat : findIn K (.ref 167) "__getattr__" = some none
  iter : findIn K (.ref 167) "__iter__" = some (some (.builtin "list.__iter__"))
  len : findIn K (.ref 167) "__len__" = some (some (.ref 135))
  len' : typeIn K (.ref 135) = some (.type "function")
  ini : findIn K (.ref 167) "__init__" = some (some (.ref 106))
  ini' : typeIn K (.ref 106) = some (.type "function")
  psh : findIn K (.ref 167) "push" = some (some (.ref 113))
  psh' : typeIn K (.ref 113) = some (.type "function")
  rst : findIn K (.ref 167) "reset" = some (some (.ref 150))
  rst' : typeIn K (.ref 150) = some (.type "function")
  app : findIn K (.ref 167) "append" = some (some (.builtin "list.append"))
  app' : typeIn K (.builtin "list.append") = some (.type "method_descriptor")
  sit : findIn K (.ref 167) "__setitem__" = some (some (.builtin "list.__setitem__"))
  sub : mroIn K 167 (.type "list") = some true
  mk4 : ∃ oc od cd sl, K.lookup 167 = some ⟨oc, od, .cls cd, sl⟩ ∧ (sl.toList[4]?).join = some (.builtin "list.__new__")
  seqs : (seqItemTypes.all fun n => subIn K (.ref 167) (.type n) == some false) = true
  call' : specialIn K (.ref 167) "__call__" = some (some (.builtin "type.__call__"))
  typ' : instIn K (.ref 167) (.type "type") = some true
theorem Cl.keeps {K : Frag} {g h : Heap} (c : Cl K g) (k : Keeps g h) : Cl K h := { c with X := c.X.keeps k }

noncomputable def accObj (xs : List Value) (n : Nat) (dx : Addr) : Obj := { cls := .ref 167, dict := some dx, data := .seq xs.toArray n }
structure AccAt (h : Heap) (x : Addr) (xs : List Value) (n : Nat) (dx : Addr) (od : Obj) : Prop where
  ob : h.get? x = some (accObj xs n dx)
  di : h.get? dx = some od
theorem AccAt.inst {h : Heap} {x : Addr} {xs : List Value} {n : Nat} {dx : Addr} {od : Obj} (a : AccAt h x xs n dx od) : InstAt h x (accObj xs n dx) 167 (some od) := ⟨a.ob, rfl, rfl, a.di⟩
theorem AccAt.keeps {h h' : Heap} {x : Addr} {xs : List Value} {n : Nat} {dx : Addr} {od : Obj} (a : AccAt h x xs n dx od) (k : Keeps h h') : AccAt h' x xs n dx od := ⟨k _ _ a.ob, k _ _ a.di⟩
theorem AccAt.seq {h : Heap} {x : Addr} {xs : List Value} {n : Nat} {dx : Addr} {od : Obj} (a : AccAt h x xs n dx od) : SeqAt h x xs := ⟨_, _, a.ob, rfl⟩

section
variable {w : World} {A : Around} {E : Value → Shared → Prop} {s : Shared} {g g₀ : Heap} {L : Addr} {l : List (Str × Value)} {N : List (Addr × Obj)} {o : OsState} {mg mb : Str → Option Value} {K : Frag} {x dx : Addr} {xs : List Value} {n : Nat} {od : Obj}

theorem acc_check {id nm : String} {rest : List Value} {kw : List (Str × Value)} {Q : Unit → Shared → Prop} (C : Cl K s.heap) (a : AccAt s.heap x xs n dx od)
    (hk : builtinKind id = some .slot ∨ builtinKind id = some .method) (hs : splitId id = some ("list", nm)) (ha : argsOk id ⟨.ref x :: rest, kw⟩) (q : Q () s) : wpAny (model prog w) A (checkBuiltinCall id ⟨.ref x :: rest, kw⟩) Q E s := by
  have hi : Looks (model prog w) s.heap (isInstance (.ref x) (.type "list")) true := a.inst.type.andThen (looks_mroIn C.X C.sub)
  rcases hk with hk | hk <;>
  · simp only [checkBuiltinCall, hk, hs]
    refine wpAny_bind (hi.here ?_)
    simp only [Bool.not_true, Bool.false_eq_true, if_false]
    cases hsig : Manifest.signature? id with
    | none => exact wpAny_pure q
    | some sig =>
      simp only [argsOk, hsig] at ha
      have h2 : Bind.checkArgs id sig ⟨.ref x :: rest, kw⟩ = pure () := ha
      show wpAny _ A (Bind.checkArgs id sig ⟨.ref x :: rest, kw⟩) Q E s
      rw [h2]; exact wpAny_pure q
theorem acc_call {id nm : String} {b : Builtin} {rest : List Value} {Q : Value → Shared → Prop} (C : Cl K s.heap) (a : AccAt s.heap x xs n dx od)
    (hk : builtinKind id = some .slot ∨ builtinKind id = some .method) (hs : splitId id = some ("list", nm)) (hp : plainId id = true) (he : entryFor table id = some b) (ha : argsOk id ⟨.ref x :: rest, []⟩)
    (h : wpAny (model prog w) A.in1 (b ⟨.ref x :: rest, []⟩) (fun fin s' => ∃ v, fin = .done (.ret v) ∧ Q v s') E s) : wpAny (model prog w) A (call (.builtin id) (.ref x :: rest)) Q E s := by
  refine wpAny_call (codeAny_call_builtin hp he (acc_check C a hk hs ha (wpAny_mono h (fun fin s' h' => ?_) fun _ _ h' => h')))
  obtain ⟨v, rfl, hv⟩ := h'; exact hv

theorem kind_list_iter : builtinKind "list.__iter__" = some .slot := by decide +kernel
theorem split_list_iter : splitId "list.__iter__" = some ("list", "__iter__") := by decide +kernel
theorem bind_list_iter (self : Value) : bindSpecial (.builtin "list.__iter__") self = pure (.builtin "list.__iter__", [self]) := slot_list_iter.bind self

theorem i_acc {Q : Value → Shared → Prop} (C : Cl K g) (S : St g L l N o s) (a : AccAt s.heap x xs n dx od) (h : ∀ it s', St g L l ((it, liObj x 0) :: N) o s' → Q (.ref it) s') : wpAny (model prog w) A (pyIter (.ref x)) Q E s := by
  have C' := C.keeps S.kept
  have L1 := (looks_findIn (M := model prog w) C'.X C'.iter)
  have hcall : wpAny (model prog w) A (call (.builtin "list.__iter__") [.ref x]) (fun v s' => ∃ it, v = .ref it ∧ St g L l ((it, liObj x 0) :: N) o s') E s := by
    refine acc_call C' a (.inl kind_list_iter) split_list_iter slot_list_iter.plain entry_list_iter (args_list_iter _) ?_
    show wpAny _ _ (do ret (← newFields "list_iterator" [.ref x, rawInt 0])) _ _ s
    exact wpAny_bind (t_new (T := "list_iterator") S rfl fun it s' S' => wpAny_pure ⟨_, rfl, it, rfl, S'⟩)
  have one : ∀ refuse : Sem Value, wpAny (model prog w) A (callSpecialIfBoundUnlessNone? (.ref x) "__iter__" refuse) (fun r s' => ∃ v, r = some v ∧ ∃ it, v = .ref it ∧ St g L l ((it, liObj x 0) :: N) o s') E s := by
    intro refuse
    simp only [callSpecialIfBoundUnlessNone?, bindSpecialIfBound?]
    refine wpAny_holding (wpAny_bind (wpAny_bind (wpAny_bind (a.inst.type.here (L1.here ?_)))))
    simp only [bind_list_iter]
    refine wpAny_bind (wpAny_askSetting (wpAny_ite ?_))
    have fin : wpAny (model prog w) A (if (Value.builtin "list.__iter__" == Value.none) = true then (refuse >>= fun v => pure (some v)) else (call (.builtin "list.__iter__") [.ref x] >>= fun v => pure (some v))) (fun r s' => ∃ v, r = some v ∧ ∃ it, v = .ref it ∧ St g L l ((it, liObj x 0) :: N) o s') E s := by
      simp only [builtin_beq_none, Bool.false_eq_true, if_false]
      exact wpAny_bind (wpAny_mono hcall (fun v s' h' => wpAny_pure ⟨v, rfl, h'⟩) fun _ _ h' => h')
    split
    · exact wpAny_bind (wpAny_pure (wpAny_pure fin))
    · exact wpAny_tryCatch (wpAny_bind (wpAny_pure (wpAny_pure fin)))
  unfold pyIter
  refine wpAny_bind (wpAny_bind (a.inst.type.here (L1.here ?_)))
  show wpAny _ A (callSpecialIfBoundUnlessNone? (.ref x) "__iter__" _ >>= _) Q E s
  refine wpAny_bind (wpAny_mono (one _) (fun r s' hr => ?_) fun _ _ z => z)
  obtain ⟨v, rfl, it, rfl, S'⟩ := hr
  have hT : s'.TypeIs (.ref it) "list_iterator" := ⟨_, S'.at (.head _), rfl⟩
  exact wpAny_bind (wpAny_specialOf hT slot_listiter_next.lookup (wpAny_pure (h _ _ S')))

theorem m_acc {name : Str} {f : Value} {T : String} {pl : Sem Bool} {Q : Value × List Value → Shared → Prop} (C : Cl K s.heap) (a : AccAt s.heap x xs n dx od) (hf : findIn K (.ref 167) name = some (some f)) (ht : typeIn K f = some (.type T))
    (hT : T = "function" ∨ T = "method_descriptor" ∨ T = "wrapper_descriptor") (hs : lookIn name od = some none) (h : Q (f, [.ref x]) s) : wpAny (model prog w) A (getMethod (.ref x) name pl) Q E s := by
  have hcan := canon_list_getattribute
  have I := a.inst
  unfold getMethod specialOf
  refine wpAny_bind (wpAny_bind (I.type.here ((looks_findIn C.X C.ga).here ?_)))
  dsimp only
  rw [hcan, if_neg (by decide)]
  refine wpAny_bind (wpAny_bind (I.type.here ((looks_findIn C.X C.gat).here ?_)))
  refine wpAny_bind (wpAny_bind (I.type.here ((looks_findIn C.X hf).here (wpAny_bind ((looks_typeIn C.X ht).here ?_)))))
  first | refine wI_neg (by rcases hT with rfl | rfl | rfl <;> decide +kernel) ?_ | rw [if_neg (by rcases hT with rfl | rfl | rfl <;> decide +kernel)]
  refine wpAny_bind (wpAny_loadPart I.at_ ?_)
  show wpAny _ _ (nsGet dx name >>= _) _ _ _
  refine wpAny_bind (wpAny_bind (wpAny_loadPart a.di ?_))
  rw [nsLook_of hs]
  exact wpAny_pure (wpAny_bind (wpAny_rule (wpAny_pure h)))

theorem kind_list_ga : builtinKind "list.__getattribute__" = some .slot := by decide +kernel
theorem split_list_ga : splitId "list.__getattribute__" = some ("list", "__getattribute__") := by decide +kernel
theorem g_acc' {name : Str} {v : Value} {expr : Bool} {Q : Value → Shared → Prop} (C' : Cl K s.heap) (a : AccAt s.heap x xs n dx od) (hf : findObj K 167 (some od) name = some (.value v)) (hh : handedIn v = true)
    (h : Q v { s with toks := s.toks + 1 }) : wpAny (model prog w) A (getAttr (.ref x) name expr) Q E s := by
  have I := a.inst
  obtain ⟨hh', gg, d, t, os⟩ := s
  dsimp only at C' I a h
  have L0 := I.type (M := model prog w)
  have L1 := looks_findIn (M := model prog w) C'.X C'.ga
  have L2 := looks_findIn (M := model prog w) C'.X C'.gat
  have L3 := looks_find (M := model prog w) C'.X I hf
  unfold getAttr getAttrBy
  refine wpAny_bind (wpAny_mkText (wpAny_holding (wpAny_bind (L0.at (wpAny_bind (L1.at ?_))))))
  show wpAny _ _ (getAttrByItsOwn _ _ _ _ _ _) _ _ _
  unfold getAttrByItsOwn
  refine wpAny_bind (m := hookBefore (.ref 167)) (show wpAny _ _ (typeLookup (.ref 167) "__getattr__") _ _ _ from L2.at ?_)
  refine wpAny_bind (wpAny_attempt (wpAny_holding ?_))
  unfold callGetattribute
  rw [show (expr && onTheHeap (Value.builtin "list.__getattribute__")) = false from Bool.and_false _, if_neg (by decide)]
  unfold boundAndCalled
  rw [PySem.F.slot_list_getattribute.bind]
  refine wpAny_bind (wpAny_pure ?_)
  show wpAny _ _ (call (.builtin "list.__getattribute__") [.ref x, .str name t]) _ _ _
  refine acc_call (s := ⟨hh', gg, d, t + 1, os⟩) C' a (.inl kind_list_ga) split_list_ga PySem.F.slot_list_getattribute.plain PySem.F.entry_list_ga (PySem.F.args_list_getattribute_2 _ _) ?_
  refine wpAny_bind (wpAny_pure (wpAny_bind (wpAny_pure (wpAny_bind (L0.at (wpAny_bind (L3.at ?_)))))))
  refine wpAny_pure ⟨_, rfl, ?_⟩
  show wpAny _ _ (handedOut v) _ _ _
  rw [handedOut_of hh]; exact wpAny_pure h

theorem g_acc {name : Str} {v : Value} {expr : Bool} {Q : Value → Shared → Prop} (C : Cl K g) (S : St g L l N o s) (a : AccAt s.heap x xs n dx od) (hf : findObj K 167 (some od) name = some (.value v)) (hh : handedIn v = true)
    (h : ∀ s', St g L l N o s' → Q v s') : wpAny (model prog w) A (getAttr (.ref x) name expr) Q E s := g_acc' (C.keeps S.kept) a hf hh (h _ S.tok)

theorem passes_list (self : Value) : refuseLoop self "__setattr__" [.type "list", .type "object"] = pure () := by kernel_rfl
theorem sa_acc {name : Str} {v : Value} {es₀ : List DictEntry} {n₀ : Nat} {Q : Unit → Shared → Prop} (C : Cl K g) (S : St g L l N o s) (a : AccAt s.heap x xs n dx od) (i : Nat) (hi : N[i]? = some (dx, od)) (hf : findIn K (.ref 167) name = some none)
    (hl : (lookIn name od).isSome = true) (hod : od.data = .dict es₀.toArray n₀) (hz : es₀.length ≤ 1)
    (h : ∀ t s', St g L l (N.set i (dx, Obj.putName name (PyData.keyHash w.params name) (.str name t) v od)) o s' → Q () s') : wpAny (model prog w) A (setAttr (.ref x) name v) Q E s := by
  have C' := C.keeps S.kept
  have I := a.inst
  have SF := PySem.F.store_object
  obtain ⟨cd, hc, hmro, hdict, _, _⟩ := C'.cd
  have hm : Looks (model prog w) s.heap (mroOf (.ref 167)) cd.mro := (looks_clsIn C'.X hc).andThen .now
  have sub : Looks (model prog w) s.heap (isInstance (.ref x) (.type "object")) true := I.type.andThen (looks_mroIn C'.X (by unfold mroIn; rw [hc, Option.bind_some, hmro]; rfl))
  unfold setAttr
  refine wpAny_bind (wpAny_mkText ?_)
  unfold callSpecial? specialOf
  refine wpAny_bind (wpAny_bind (wpAny_bind (I.type _ _ _ _ (fun _ _ e => e) ((looks_findIn C'.X C'.sa) _ _ _ _ (fun _ _ e => e) (wpAny_holding ?_)))))
  rw [SF.slot.bind]
  refine wpAny_bind (wpAny_pure (wpAny_bind ?_))
  show wpAny _ _ (call (.builtin "object.__setattr__") [.ref x, .str name s.toks, v]) _ _ { s with toks := s.toks + 1 }
  refine wpAny_call (codeAny_call_builtin SF.slot.plain SF.entry (@check_slot (model prog w) _ _ { s with toks := s.toks + 1 } "object.__setattr__" "object" "__setattr__" (.ref x) [.str name s.toks, v] [] _ SF.kind SF.split sub (SF.args (.ref x) (.str name s.toks) v) ?_))
  rw [osa_eq, refuse_eq]
  refine wpAny_bind (wpAny_bind (I.type _ _ _ _ (fun _ _ e => e) (wpAny_bind (hm _ _ _ _ (fun _ _ e => e) ?_))))
  rw [hmro, refuseLoop_ref, passes_list]
  refine wpAny_pure (wpAny_bind (I.type _ _ _ _ (fun _ _ e => e) (wpAny_bind ((looks_findIn C'.X hf) _ _ _ _ (fun _ _ e => e) (wpAny_bind (wpAny_pure ?_))))))
  refine wpAny_bind (wpAny_pure (wpAny_bind (wpAny_bind (wpAny_loadPart a.ob (wpAny_bind ((looks_clsIn C'.X hc) _ _ _ _ (fun _ _ e => e) ?_))))))
  rw [hdict]
  refine wpAny_pure (a := some dx) (wpAny_bind (wpAny_pure (wpAny_bind ?_)))
  unfold nsSet
  refine wpAny_bind (wpAny_bind (wpAny_askSetting (wpAny_pure (wpAny_bind (wpAny_mkText (wpAny_bind (wpAny_loadPart a.di ?_)))))))
  rw [hod]
  dsimp only
  have c : (!es₀.toArray.any (·.key.isStr name) && es₀.toArray.any (·.refKey)) = false := by
    unfold lookIn at hl
    rw [hod] at hl
    dsimp only at hl
    rw [← Array.any_toList, ← Array.any_toList]
    split at hl
    · rename_i en he
      rw [List.any_eq_true.mpr ⟨en, List.mem_of_find?_eq_some he, List.find?_some he⟩]; rfl
    · split at hl
      · cases hl
      · rename_i z; rw [Bool.not_eq_true] at z; rw [z, Bool.and_false]
  rw [aRefKeyMayBeTheName_at, c]
  have hfr : (Obj.putName name (PyData.keyHash w.params name) (.str name (s.toks + 1)) v od).isFreed = false ∧ ∃ es : List DictEntry, es.length ≤ 2 ∧ ∃ k, (Obj.putName name (PyData.keyHash w.params name) (.str name (s.toks + 1)) v od).data = .dict es.toArray k := by
    obtain ⟨oc, odi, oda, osl⟩ := od
    dsimp only at hod
    subst hod
    rw [Obj.putName_eq]
    unfold Obj.putNameByArray
    dsimp only
    split
    · refine And.intro rfl (Exists.intro _ (And.intro ?_ (Exists.intro _ (congrArg (fun a => Data.dict a _) (Array.toArray_toList).symm))))
      simp; lia
    · refine And.intro rfl (Exists.intro _ (And.intro ?_ (Exists.intro _ (congrArg (fun a => Data.dict a _) (Array.toArray_toList).symm))))
      simp; lia
  obtain ⟨hfr, es, hz', k, he⟩ := hfr
  have D' : (s.heap.update dx (Obj.putName name (PyData.keyHash w.params name) (.str name (s.toks + 1)) v)).get? dx = some (Obj.putName name (PyData.keyHash w.params name) (.str name (s.toks + 1)) v od) := Heap.get?_update_self _ a.di hfr
  refine wpAny_updatePart a.di ?_
  refine wpAny_bind (wpAny_lookBehind D' (by rw [he]; exact pastItsLine_dict (by rw [List.size_toArray, sizeLine_eq]; lia)) ?_)
  exact wpAny_pure (wpAny_pure (wpAny_pure (h _ _ ((S.upd i hi (Heap.SameBut.update ..) D').tok))))
end

section
variable {w : World} {A : Around} {E : Value → Shared → Prop} {s : Shared} {g g₀ : Heap} {L : Addr} {l : List (Str × Value)} {N : List (Addr × Obj)} {o : OsState} {mg mb : Str → Option Value} {env : Env}

theorem St.next {s' : Shared} {ms : List Addr} {N' : List (Addr × Obj)} (S : St g L l N o s) (k : KeepsBut ms s.heap s'.heap) (hm : ∀ a ∈ ms, a ≠ L ∧ g.get? a = none)
    (hN' : ∀ p ∈ N', s'.heap.get? p.1 = some p.2 ∧ p.1 ≠ L ∧ g.get? p.1 = none) (hnd : (N'.map (·.1)).Nodup) (ho : s'.os = o) (hg : AllBare s'.gens) : St g L l N' o s' := by
  have nL : L ∉ ms := fun q => (hm L q).1 rfl
  obtain ⟨m, F, hl⟩ := S.fr
  refine ⟨⟨m, ⟨?_, fun b o e => k b o (fun q => by rw [(hm b q).2] at e; cases e) (F.keep b o e), F.nl⟩, hl⟩, fun p hp => hN' p hp, hnd, ho, hg⟩
  obtain ⟨oL, es, ep, h1, h2⟩ := F.ns
  exact ⟨oL, es, ep, k _ _ nL h1, h2⟩
theorem St.frameAt (S : St g L l N o s) : ∃ ob, s.heap.get? L = some ob := by
  obtain ⟨m, F, hl⟩ := S.fr
  obtain ⟨oL, es, ep, h1, h2⟩ := F.ns
  exact ⟨oL, h1⟩
theorem St.fresh (S : St g L l N o s) {a : Addr} (h : s.heap.get? a = none) : a ≠ L ∧ g.get? a = none := by
  refine ⟨fun q => ?_, ?_⟩
  · obtain ⟨ob, e⟩ := S.frameAt; rw [q, e] at h; cases h
  · cases e : g.get? a with
    | none => rfl
    | some ob => rw [S.kept _ _ e] at h; cases h
theorem St.base {G : Heap} (S : St g L l N o s) (k : Keeps G s.heap) (hL : G.get? L = none) (hN : ∀ p ∈ N, G.get? p.1 = none) : St G L l N o s := by
  obtain ⟨m, F, hl⟩ := S.fr
  exact ⟨⟨m, ⟨F.ns, k, hL⟩, hl⟩, fun p hp => ⟨(S.nw p hp).1, (S.nw p hp).2.1, hN p hp⟩, S.nd, S.os, S.gn⟩

theorem St.outer {C : Addr} {g'' : Heap} {l' : List (Str × Value)} {N' : List (Addr × Obj)} {s₁ : Shared} (S : St g L l N o s) (S' : St g'' C l' N' o s₁) (hk : Keeps (hideAll s.heap (N.map (·.1))) g'') :
    ∃ G, Keeps g G ∧ (∀ b ob, g''.get? b = some ob → b ≠ L → G.get? b = some ob) ∧ G.get? C = none ∧ L ≠ C ∧ (∀ p ∈ N', p.1 ≠ C) ∧ St G L l N' o s₁ := by
  have fr : ∀ a, g''.get? a = none → a ≠ L ∧ (g.get? a = none) := fun a ha => by
    have h1 : (hideAll s.heap (N.map (·.1))).get? a = none := by
      cases e : (hideAll s.heap (N.map (·.1))).get? a with
      | none => rfl
      | some ob => rw [hk _ _ e] at ha; cases ha
    refine ⟨fun q => ?_, ?_⟩
    · obtain ⟨ob, e⟩ := S.frameAt
      subst q
      have hn : a ∉ N.map (·.1) := fun hm => by
        obtain ⟨p, hp, he⟩ := List.mem_map.mp hm
        exact (S.nw p hp).2.1 he
      rw [hideAll_get _ e hn] at h1; cases h1
    · cases e : g.get? a with
      | none => rfl
      | some ob =>
        have hn : a ∉ N.map (·.1) := fun hm => by
          obtain ⟨p, hp, he⟩ := List.mem_map.mp hm
          rw [← he, (S.nw p hp).2.2] at e; cases e
        rw [hideAll_get _ (S.kept _ _ e) hn] at h1; cases h1
  have hLN : L ∉ N.map (·.1) := fun hm => by
    obtain ⟨p, hp, he⟩ := List.mem_map.mp hm
    exact (S.nw p hp).2.1 he
  obtain ⟨m', F', _⟩ := S'.fr
  have hCg : g''.get? C = none := F'.nl
  have hCL := fr C hCg
  refine ⟨hideAll s₁.heap (L :: C :: N'.map (·.1)), fun b ob e => ?_, fun b ob e hb => ?_, hideAll_none _ (.tail _ (.head _)), hCL.1.symm, fun p hp => (S'.nw p hp).2.1, ?_⟩
  · have hbN : b ∉ N.map (·.1) := fun hm => by
      obtain ⟨p, hp, he⟩ := List.mem_map.mp hm
      rw [← he, (S.nw p hp).2.2] at e; cases e
    have e2 := hk _ _ (hideAll_get _ (S.kept _ _ e) hbN)
    refine hideAll_get _ (S'.kept _ _ e2) fun q => ?_
    rcases List.mem_cons.mp q with q | q
    · obtain ⟨_, F, _⟩ := S.fr; rw [q, F.nl] at e; cases e
    · rcases List.mem_cons.mp q with q | q
      · rw [q, hCL.2] at e; cases e
      · obtain ⟨p, hp, he⟩ := List.mem_map.mp q
        rw [← he, (S'.nw p hp).2.2] at e2; cases e2
  · refine hideAll_get _ (S'.kept _ _ e) fun q => ?_
    rcases List.mem_cons.mp q with q | q
    · exact hb q
    · rcases List.mem_cons.mp q with q | q
      · rw [q, hCg] at e; cases e
      · obtain ⟨p, hp, he⟩ := List.mem_map.mp q
        rw [← he, (S'.nw p hp).2.2] at e; cases e
  · obtain ⟨m, F, hl⟩ := S.fr
    obtain ⟨oL, es, ep, h1, h2⟩ := F.ns
    have hL : s₁.heap.get? L = some oL := S'.kept _ _ (hk _ _ (hideAll_get _ h1 hLN))
    exact ⟨⟨m, ⟨⟨oL, es, ep, hL, h2⟩, fun b ob e => of_hideAll _ e, hideAll_none _ (.head _)⟩, hl⟩,
      fun p hp => ⟨(S'.nw p hp).1, (fr _ (S'.nw p hp).2.2).1, hideAll_none _ (.tail _ (.tail _ (List.mem_map_of_mem hp)))⟩, S'.nd, S'.os, S'.gn⟩
theorem St.aside {C : Addr} {h' : Heap} (S : St g L l N o s) (hs : Heap.SameBut C s.heap h') (h1 : L ≠ C) (h2 : g.get? C = none) (h3 : ∀ p ∈ N, p.1 ≠ C) : St g L l N o { s with heap := h' } := by
  obtain ⟨m, F, hl⟩ := S.fr
  exact ⟨⟨m, F.change hs h1.symm h2, hl⟩, fun p hp => ⟨(hs.2 _ (h3 p hp)).trans (S.nw p hp).1, (S.nw p hp).2⟩, S.nd, S.os, S.gn⟩

noncomputable def Emits (w : World) (A : Around) (ifs : List Expr) (elt : Expr) (cenv : Env) (D : Addr) (J : Shared → Prop) (s : Shared) : Prop :=
  let one := fun s₂ => wpAny (model prog w) A (eval elt cenv) (fun x s₃ => wpAny (model prog w) A (call (.builtin "list.append") [.ref D, x]) (fun _ s₄ => J s₄) (fun _ _ => False) s₃) (fun _ _ => False) s₂
  match ifs with
  | [] => one s
  | [c] => wpAny (model prog w) A (isTrue c cenv (eval c cenv)) (fun b s₂ => if b then one s₂ else J s₂) (fun _ _ => False) s
  | _ => False
theorem Emits.mono {ifs : List Expr} {elt : Expr} {cenv : Env} {D : Addr} {J1 J2 : Shared → Prop} {s : Shared} (hi : ∀ s, J1 s → J2 s) (he : Emits w A ifs elt cenv D J1 s) : Emits w A ifs elt cenv D J2 s := by
  unfold Emits at *
  rcases ifs with _ | ⟨c, _ | ⟨c2, cs⟩⟩
  · exact wpAny_mono he (fun _ _ h => wpAny_mono h (fun _ _ h => hi _ h) fun _ _ x => x) fun _ _ x => x
  · exact wpAny_mono he (fun b s₂ h => by
      cases b with
      | true => exact wpAny_mono h (fun _ _ h => wpAny_mono h (fun _ _ h => hi _ h) fun _ _ x => x) fun _ _ x => x
      | false => exact hi _ h) fun _ _ x => x
  · exact he
theorem loop_comp {elt target iter : Expr} {ifs : List Expr} {scope : Scope} {pos : Pos} {it : Value} {D : Addr} {cenv : Env} {R : Result → Shared → Prop} (I : Nat → Shared → Prop)
    (turn : ∀ n s, I n s → wpAny (model prog w) A (pyNext it) (fun r s₁ => match r with
      | none => R (.ok .next) s₁
      | some v => wpAny (model prog w) A (letOwnedTupleGo target it v) (fun _ s₁ => wpAny (model prog w) A (assign target cenv v) (fun _ s₂ => Emits w A ifs elt cenv D (fun s₄ => ∃ m, m < n ∧ I m s₄) s₂) (fun _ _ => False) s₁) (fun _ _ => False) s₁) (fun _ _ => False) s)
    (n : Nat) (h : I n s) : codeAny (model prog w) A (.compLoop (.ListComp elt [⟨target, iter, ifs, 0⟩] scope pos) 0 it (.ref D) cenv) R s := by
  refine codeAny_loop rfl I (fun n s hI => ?_) n h
  show wpAny _ _ ((compTurn (.ListComp elt [⟨target, iter, ifs, 0⟩] scope pos) 0 it (.ref D) cenv).onRaise (fun x => do noteFrame x cenv; theTreesLotGoes x)) _ _ s
  refine wpAny_noted ?_
  rw [compTurn_list]
  refine wpAny_bind (wpAny_standAt (wpAny_bind (wpAny_mono (turn n s hI) (fun r s₁ h₁ => ?_) fun _ _ h' => h'.elim)))
  cases r with
  | none => exact wpAny_pure h₁
  | some v =>
    refine wpAny_bind (wpAny_mono h₁ (fun _ s₁' h₁' => wpAny_bind (wpAny_mono h₁' (fun _ s₂ h₂ => ?_) fun _ _ h' => h'.elim)) fun _ _ h' => h'.elim)
    unfold Emits at h₂
    have one : ∀ s₂, wpAny (model prog w) A (eval elt cenv) (fun x s₃ => wpAny (model prog w) A (call (.builtin "list.append") [.ref D, x]) (fun _ s₄ => ∃ m, m < n ∧ I m s₄) (fun _ _ => False) s₃) (fun _ _ => False) s₂ →
        wpAny (model prog w) A (do let x ← eval elt cenv; let _ ← call (.builtin "list.append") [.ref D, x]; pure ()) (fun _ s₄ => ∃ m, m < n ∧ I m s₄) (fun _ _ => False) s₂ := fun s₂ h =>
      wpAny_bind (wpAny_mono h (fun x s₃ h₃ => wpAny_bind (wpAny_mono h₃ (fun _ s₄ h₄ => wpAny_pure h₄) fun _ _ h' => h')) fun _ _ h' => h')
    rcases ifs with _ | ⟨c, _ | ⟨c2, cs⟩⟩
    case nil =>
      simp only [List.forIn_nil]
      refine wpAny_bind (wpAny_pure ?_)
      first | refine wI_pos rfl ?_ | simp only [if_true]
      exact wpAny_bind (wpAny_mono (one _ h₂) (fun _ s₄ h₄ => wpAny_pure ⟨rfl, h₄⟩) fun _ _ h' => h'.elim)
    case cons.cons => exact h₂.elim
    case cons.nil =>
      simp only [List.forIn_cons, List.forIn_nil, if_true]
      refine wpAny_bind (wpAny_bind (wpAny_bind (wpAny_mono h₂ (fun b s₃ h₃ => ?_) fun _ _ h' => h'.elim)))
      refine wpAny_pure ?_
      refine wpAny_pure ?_
      cases b with
      | true =>
        simp only [if_true] at h₃ ⊢
        exact wpAny_bind (wpAny_mono (one _ h₃) (fun _ s₄ h₄ => wpAny_pure ⟨rfl, h₄⟩) fun _ _ h' => h'.elim)
      | false =>
        simp only [Bool.false_eq_true, if_false] at h₃ ⊢
        first
          | exact wpAny_pure ⟨rfl, h₃⟩
          | exact wpAny_bind (wpAny_pure (wpAny_pure ⟨rfl, h₃⟩))

noncomputable def Loops (w : World) (A : Around) (env : Env) (elt target : Expr) (ifs : List Expr) (scope : Scope) (cl : List (Str × Addr)) (g : Heap) (L : Addr) (l : List (Str × Value)) (N : List (Addr × Obj)) (o : OsState) (it : Value) (s₂ : Shared) (f : Addr → List (Str × Value)) (Q : Addr → Shared → Prop) : Prop :=
  St g L l N o s₂ ∧ ∀ D C s₄, St (hideAll s₂.heap (N.map (·.1))) C [] ((D, seqObj "list" #[] 0) :: N) o s₄ → ∃ (I : Nat → Shared → Prop) (n : Nat), I n s₄ ∧ (∀ (Q' : Value → Shared → Prop) E', Q' it s₄ → wpAny (model prog w) A (pyIter it) Q' E' s₄) ∧
    ∀ n s, I n s → ∀ (P₁ R₁ : Shared → Prop), (∀ s₄, (∃ m, m < n ∧ I m s₄) → P₁ s₄) → (∀ s₁, (∃ g'' l' N', Keeps (hideAll s₂.heap (N.map (·.1))) g'' ∧ St g'' C l' N' o s₁ ∧ ∀ G s', Keeps g G → (∀ b ob, g''.get? b = some ob → b ≠ L → G.get? b = some ob) → St G L (f D) N' o s' → Q D s') → R₁ s₁) → wpAny (model prog w) A (pyNext it) (fun r s₁ => match r with
      | none => R₁ s₁
      | some v => wpAny (model prog w) A (letOwnedTupleGo target it v) (fun _ s₁ => wpAny (model prog w) A (assign target (compEnvC scope cl C env) v) (fun _ s₂ => Emits w A ifs elt (compEnvC scope cl C env) D P₁ s₂) (fun _ _ => False) s₁) (fun _ _ => False) s₁) (fun _ _ => False) s

theorem seqObj_nil : ({ cls := .type "list", data := .seq ([] : List Value).toArray } : Obj) = seqObj "list" #[] 0 := rfl
theorem comp_core {elt target iter : Expr} {ifs : List Expr} {scope : Scope} {pos : Pos} {cl : List (Str × Addr)} {it : Value} {s₂ : Shared} {f : Addr → List (Str × Value)} {Q : Addr → Shared → Prop} {RR : Value → Addr → Result → Shared → Prop}
    (hcell : ∀ y ∈ scope.names, y.2 ≠ .cell) (hkind : scope.kind = .function) (H : Loops w A env elt target ifs scope cl g L l N o it s₂ f Q)
    (hRR : ∀ D C g'' l' N' s₁, St g L l N o s₂ → Keeps (hideAll s₂.heap (N.map (·.1))) g'' → St g'' C l' N' o s₁ → (∀ G s', Keeps g G → (∀ b ob, g''.get? b = some ob → b ≠ L → G.get? b = some ob) → St G L (f D) N' o s' → Q D s') → RR (.ref D) C (.ok .next) s₁) :
    wpAny (model prog w) A (newList []) (fun acc s₃ => wpAny (model prog w) A (newFunctionEnv scope env.globals cl [] env.qual none .none (some env)) (fun cenv s₄ =>
      codeAny (model prog w) A (.compStart (.ListComp elt [⟨target, iter, ifs, 0⟩] scope pos) 0 it acc { cenv with scope := relabel scope env }) (RR acc cenv.locals) s₄) E s₃) E s₂ := by
  obtain ⟨S, H⟩ := H
  refine wpAny_newObj_type (wpAny_newFunctionEnv hcell (by intro y hy; simp at hy) (fun h₁ hns₁ hsb₁ => ?_) hkind)
  dsimp only at hns₁ hsb₁ ⊢
  rw [seqObj_nil] at hns₁ hsb₁
  have hkeep : ∀ b ob, (s₂.heap.push (seqObj "list" #[] 0)).get? b = some ob → h₁.get? b = some ob := fun b ob e => hsb₁.extBut b ob (fun q => by rw [q] at e; exact absurd (Heap.lt_size e) (Nat.lt_irrefl _)) (Heap.get?_push_of_some _ e)
  have hDC : s₂.heap.objs.size ≠ (s₂.heap.push (seqObj "list" #[] 0)).objs.size := by rw [Heap.size_push]; omega
  have S4 : St (hideAll s₂.heap (N.map (·.1))) (s₂.heap.push (seqObj "list" #[] 0)).objs.size [] ((s₂.heap.objs.size, seqObj "list" #[] 0) :: N) o { s₂ with heap := h₁, toks := s₂.toks + ([] : List (Str × Value)).length } := by
    have none_ : ∀ a, s₂.heap.objs.size ≤ a → (hideAll s₂.heap (N.map (·.1))).get? a = none := fun a ha => by
      cases e : (hideAll s₂.heap (N.map (·.1))).get? a with
      | none => rfl
      | some ob => exact absurd (Heap.lt_size (of_hideAll _ e)) (Nat.not_lt.mpr ha)
    refine ⟨⟨_, ⟨hns₁, fun b ob e => hkeep b ob (Heap.get?_push_of_some _ (of_hideAll _ e)), none_ _ (by rw [Heap.size_push]; omega)⟩, by simp⟩, ?_, ?_, S.os, S.gn⟩
    · intro p hp
      rcases List.mem_cons.mp hp with rfl | hp
      · exact ⟨hkeep _ _ (Heap.get?_push_size _ rfl), hDC, none_ _ (Nat.le_refl _)⟩
      · have h1 := (S.nw p hp).1
        exact ⟨hkeep _ _ (Heap.get?_push_of_some _ h1), Nat.ne_of_lt (Nat.lt_trans (Heap.lt_size h1) (by rw [Heap.size_push]; omega)), hideAll_none _ (List.mem_map_of_mem hp)⟩
    · rw [List.map_cons]
      refine List.nodup_cons.mpr ⟨fun hm => ?_, S.nd⟩
      obtain ⟨p, hp, he⟩ := List.mem_map.mp hm
      have h2 := Heap.lt_size (S.nw p hp).1
      have h1 : p.1 = s₂.heap.objs.size := he
      rw [h1] at h2
      exact Nat.lt_irrefl _ h2
  obtain ⟨I, n, hI, hself, turn⟩ := H _ _ _ S4
  have loop : codeAny (model prog w) A (.compLoop (.ListComp elt [⟨target, iter, ifs, 0⟩] scope pos) 0 it (.ref s₂.heap.objs.size) (compEnvC scope cl (s₂.heap.push (seqObj "list" #[] 0)).objs.size env))
        (RR (.ref s₂.heap.objs.size) (s₂.heap.push (seqObj "list" #[] 0)).objs.size) { s₂ with heap := h₁, toks := s₂.toks + ([] : List (Str × Value)).length } := by
    refine loop_comp I (fun n s hI => wpAny_mono (turn n s hI _ _ (fun _ x => x) fun _ x => x) (fun r s₁ h => ?_) fun _ _ h => h) n hI
    cases r with
    | some v => exact h
    | none =>
      obtain ⟨g'', l', N', k, S', h⟩ := h
      exact hRR _ _ _ _ _ _ S k S' h
  exact codeAny_compStart_list loop (hself _ _ loop)

theorem w_comp {elt target iter : Expr} {ifs : List Expr} {scope : Scope} {pos : Pos} {cl : List (Str × Addr)} {Q : Value → Shared → Prop}
    (h : wpAny (model prog w) A (eval iter env) (fun x s₁ => wpAny (model prog w) A (pyIter x) (fun it s₂ => ∃ g L l N o, Loops w A env elt target ifs scope cl g L l N o it s₂ (fun _ => l) (fun D s' => Q (.ref D) s')) E s₁) E s)
    (hclos : closureFor scope env = pure cl := by rfl) (hcell : ∀ y ∈ scope.names, y.2 ≠ .cell := by decide) (hkind : scope.kind = .function := by rfl)
    (hnames : ∀ y ∈ scope.names, y.2 = .local → scope.names.lookup y.1 = some .local := by decide) (hs : ∀ x, foldedSetIterable iter env x = pure x := by intro _; rfl) :
    wpAny (model prog w) A (eval (.ListComp elt [⟨target, iter, ifs, 0⟩] scope pos) env) Q E s := by
  rw [eval_ListComp]
  refine wpAny_comprehension_free (use := none) rfl hs hclos hkind hnames (wpAny_mono h (fun xv s₁ h₁ => wpAny_mono h₁ (fun it s₂ h₂ => ?_) fun _ _ e => e) fun _ _ e => e)
  obtain ⟨g, L, l, N, o, H⟩ := h₂
  refine comp_core (RR := fun acc C => compPost (model prog w) A E none Q acc C) hcell hkind H ?_
  intro D C g'' l' N' s₁ S k S' hq
  obtain ⟨m', F', _⟩ := S'.fr
  refine ⟨m', F'.ns, fun h' hs' => ?_⟩
  obtain ⟨G, k1, k2, hC, hL, hN, S1⟩ := S.outer S' k
  exact hq G _ k1 k2 (S1.aside hs' hL hC hN)
theorem w_comp_as {elt target iter : Expr} {ifs : List Expr} {scope : Scope} {pos spos : Pos} {cl : List (Str × Addr)} {y : Str} {py : Pos} {Q : Flow → Shared → Prop}
    (h : wpAny (model prog w) A (eval iter env) (fun x s₁ => wpAny (model prog w) A (pyIter x) (fun it s₂ => ∃ g L l N o, env.locals = L ∧ Loops w A env elt target ifs scope cl g L l N o it s₂ (fun D => put y (.ref D) l) (fun _ s' => Q .next s')) E s₁) E s)
    (hsw : swapsWith (.ListComp elt [⟨target, iter, ifs, 0⟩] scope pos) (some (.Name y py)) spos.line env = pure true := by rfl)
    (hy : env.kindOf y = some .local := by rfl) (hp : (env.scope.kind == .class || (env.scope.kind == .module && env.locals != env.globals)) = false := by rfl)
    (hclos : closureFor scope env = pure cl := by rfl) (hcell : ∀ y ∈ scope.names, y.2 ≠ .cell := by decide) (hkind : scope.kind = .function := by rfl)
    (hnames : ∀ y ∈ scope.names, y.2 = .local → scope.names.lookup y.1 = some .local := by decide) (hs : ∀ x, foldedSetIterable iter env x = pure x := by intro _; rfl) :
    wpAny (model prog w) A (exec (.Assign [.Name y py] (.ListComp elt [⟨target, iter, ifs, 0⟩] scope pos) spos) env) Q E s := by
  rw [exec_Assign_Name_used _ _ _ _ hsw]
  refine wpAny_bind (wpAny_standAt (wpAny_bind ?_))
  show wpAny _ A (do let _ ← comprehension (.ListComp elt [⟨target, iter, ifs, 0⟩] scope pos) scope env _ (newList []) false (eval iter env) (some (assign (.Name y py) env))) _ _ s
  refine wpAny_bind (wpAny_mono (wpAny_comprehension_free (use := some (assign (.Name y py) env)) (Q := fun _ s' => Q .next s') rfl hs hclos hkind hnames
    (wpAny_mono h (fun xv s₁ h₁ => wpAny_mono h₁ (fun it s₂ h₂ => ?_) fun _ _ e => e) fun _ _ e => e)) (fun _ s' hq => wpAny_pure (wpAny_pure hq)) fun _ _ e => e)
  obtain ⟨g, L, l, N, o, hL, H⟩ := h₂
  refine comp_core (RR := fun acc C => compPost (model prog w) A E (some (assign (.Name y py) env)) (fun _ s' => Q .next s') acc C) hcell hkind H ?_
  intro D C g'' l' N' s₁ S k S' hq
  obtain ⟨m', F', _⟩ := S'.fr
  obtain ⟨G, k1, k2, hC, hLC, hN, S1⟩ := S.outer S' k
  show wpAny _ A (assign (.Name y py) env (.ref D)) _ _ _
  refine wpAny_assign_Name ?_
  obtain ⟨m, F, hm⟩ := S1.fr
  subst hL
  refine wpAny_storeName_local hy F.ns (fun h₂ hn₂ hs₂ => ?_) hp
  have S2 : St G env.locals (put y (.ref D) l) N' o { s₁ with heap := h₂, toks := s₁.toks + 1 } := ⟨⟨_, F.set hn₂ hs₂, fun z u e => by
    have e' : lk (put y (.ref D) l) z = some u := e
    rw [lk_put] at e'
    by_cases hz : z = y
    · simp only [hz, if_true] at e' ⊢; exact e'
    · simp only [hz, if_false] at e' ⊢; exact hm z u e'⟩, S1.nw.set hs₂, S1.nd, S1.os, S1.gn⟩
  refine ⟨m', F'.ns.sameBut hs₂ (Ne.symm hLC), fun h₃ hs₃ => ?_⟩
  exact hq G _ k1 k2 (S2.aside hs₃ hLC hC hN)
end

section
variable {w : World} {A : Around} {E : Value → Shared → Prop} {s : Shared} {g g₀ : Heap} {L : Addr} {l : List (Str × Value)} {N : List (Addr × Obj)} {o : OsState} {mg mb : Str → Option Value} {env : Env}

theorem e_cell {x : Str} {pos : Pos} {c : Addr} {oc : Obj} {v : Value} {Q : Value → Shared → Prop} (S : St g L l N o s) (i : Nat) (hi : N[i]? = some (c, oc)) (hd : oc.data = .cell (some v)) (h : Q v s)
    (hx : env.kindOf x = some .cell := by rfl) (hc : env.cells.lookup x = some c := by rfl) (hk : env.scope.kind = .function := by rfl) (hdb : (x == ("__debug__" : Str)) = false := by rfl) :
    wpAny (model prog w) A (eval (.Name x pos) env) Q E s :=
  wpAny_Name (wpAny_loadName_cell hk hx hc ⟨_, S.at (List.mem_of_getElem? hi), hd⟩ h) hdb
theorem e_free {x : Str} {pos : Pos} {c : Addr} {v : Value} {Q : Value → Shared → Prop} (hv : s.heap.IsCell c (some v)) (h : Q v s)
    (hx : env.kindOf x = some .free := by rfl) (hc : env.cells.lookup x = some c := by rfl) (hk : env.scope.kind = .function := by rfl) (hdb : (x == ("__debug__" : Str)) = false := by rfl) (hn : (x == ("__classdict__" : Str)) = false := by rfl) :
    wpAny (model prog w) A (eval (.Name x pos) env) Q E s :=
  wpAny_Name (wpAny_loadName_free hk hx hc hv h hn) hdb
theorem s_cell {x : Str} {c : Addr} {oc : Obj} {v₀ : Option Value} {v : Value} {Q : Unit → Shared → Prop} (S : St g L l N o s) (i : Nat) (hi : N[i]? = some (c, oc)) (hd : oc.data = .cell v₀)
    (h : ∀ oc' s', oc'.data = .cell (some v) → St g L l (N.set i (c, oc')) o s' → Q () s')
    (hx : env.kindOf x = some .cell := by rfl) (hc : env.cells.lookup x = some c := by rfl) (hk : env.scope.kind = .function := by rfl) :
    wpAny (model prog w) A (storeName env x v) Q E s :=
  wpAny_storeName_cell hk hx hc ⟨_, S.at (List.mem_of_getElem? hi), hd⟩ fun _ ⟨oc', ho, hd'⟩ hs => h oc' _ hd' (S.upd i hi hs ho)

theorem cell_cons {M : List (Addr × Obj)} {c : Addr} {d : Data} {r : List (Addr × Data)} (h : M.map (fun p => (p.1, p.2.data)) = (c, d) :: r) : ∃ (o : Obj) (M' : List (Addr × Obj)), M = (c, o) :: M' ∧ o.data = d ∧ M'.map (fun p => (p.1, p.2.data)) = r := by
  cases M with
  | nil => cases h
  | cons p M =>
    obtain ⟨a, o⟩ := p
    rw [List.map_cons] at h
    injection h with h1 h2
    injection h1 with h3 h4
    subst h3
    exact ⟨o, M, rfl, h4, h2⟩
theorem cells_ledger {h : Heap} {cm : Str → Option Value} : ∀ (cs : List (Str × Addr)), (∀ n c, (n, c) ∈ cs → h.IsCell c (cm n)) →
    ∃ M : List (Addr × Obj), M.map (fun p => (p.1, p.2.data)) = cs.map (fun q => (q.2, Data.cell (cm q.1))) ∧ ∀ p ∈ M, h.get? p.1 = some p.2
  | [], _ => ⟨[], rfl, by simp⟩
  | (n, c) :: r, H => by
    obtain ⟨M, e, k⟩ := cells_ledger r (fun n c hm => H n c (.tail _ hm))
    obtain ⟨oc, ho, hd⟩ := H n c (.head _)
    refine ⟨(c, oc) :: M, by simp [e, hd], fun p hp => ?_⟩
    rcases List.mem_cons.mp hp with rfl | hp
    · exact ho
    · exact k p hp

theorem call_fn_c {f : Addr} {fd : FuncData} {body : List Stmt} {args : List Value} {binds lb : List (Str × Value)} {Q : Value → Shared → Prop}
    (lim : g₀.NoLimit) (K : Keeps g₀ s.heap) (hf : FnAt g₀ f fd) (hroom : A.depth < recursionLimit) (hN : ∀ p ∈ N, s.heap.get? p.1 = some p.2) (hg : AllBare s.gens)
    (hbody : fd.body = .stmts body) (hbind : BindsTo s fd ⟨args, []⟩ binds) (hclo : fd.closure = [])
    (hkind : ∀ L : Nat, binds.all (fun x => fd.scope.names.lookup x.1 == some .local || (fd.scope.names.lookup x.1 == some .cell && ((cellsFrom L fd.scope.names []).lookup x.1).isSome)) = true)
    (hlb : lb.map (fun p => bindL (fun x => fd.scope.names.lookup x) binds (fun _ => none) p.1) = lb.map (fun p => some p.2))
    (hcs : ∀ L : Nat, (cellsFrom L fd.scope.names []).map (fun q => (cellsFrom L fd.scope.names []).lookup q.1) = (cellsFrom L fd.scope.names []).map (fun q => some q.2))
    (hnd : (N.map (·.1)).Nodup)
    (h : ∀ L s' M, M.map (fun p => (p.1, p.2.data)) = (cellsFrom (L + 1) fd.scope.names []).map (fun q => (q.2, Data.cell (bindC (fun x => fd.scope.names.lookup x) binds (fun _ => none) q.1))) →
      St (hideAll s.heap (N.map (·.1))) L lb (M ++ N) s.os s' →
      wpAny (model prog w) (A.deeper (callEnvC fd L f)) (execs body (callEnvC fd L f)) (retQ Q) (fun _ _ => False) s')
    (hco : fd.scope.isCoroutine = false := by rfl) (hgen : fd.scope.isGenerator = false := by rfl) (hk : fd.scope.kind = .function := by rfl) :
    wpAny (model prog w) A (call (.ref f) args) Q E s := by
  refine wpAny_call (codeAny_call_function hroom (K _ _ hf.ob) rfl hco hgen hbody (hf.cd.keeps K) (hbind _ _ _ _ ?_))
  rw [hclo]
  refine wpAny_newFunctionEnv_cells hk (fun x hx => ?_) fun env he s₁ x => ?_
  · have := List.all_eq_true.mp (hkind (s.heap.objs.size + 1)) x hx
    simpa using this
  subst he
  refine ⟨(lim.keeps K).keeps x.toInCall.keep, codeAny_func ?_⟩
  have hcell : ∀ n c, (n, c) ∈ cellsFrom (s.heap.objs.size + 1) fd.scope.names [] → s₁.heap.IsCell c (bindC (fun x => fd.scope.names.lookup x) binds (fun _ => none) n) := fun n c hm =>
    x.cell n c (List.map_inj_left.mp (hcs (s.heap.objs.size + 1)) (n, c) hm)
  obtain ⟨M, e, k⟩ := cells_ledger _ hcell
  obtain ⟨h₁, tk, hs₁⟩ := x.toInCall.same
  have none_ : ∀ a, s.heap.objs.size ≤ a → (hideAll s.heap (N.map (·.1))).get? a = none := fun a ha => by
    cases e : (hideAll s.heap (N.map (·.1))).get? a with
    | none => rfl
    | some ob => exact absurd (Heap.lt_size (of_hideAll _ e)) (Nat.not_lt.mpr ha)
  have hM : ∀ p ∈ M, s.heap.objs.size < p.1 := fun p hp => by
    have : (p.1, p.2.data) ∈ M.map (fun p => (p.1, p.2.data)) := List.mem_map_of_mem (f := fun p : Addr × Obj => (p.1, p.2.data)) hp
    rw [e] at this
    obtain ⟨q, hq, he⟩ := List.mem_map.mp this
    have h2 := x.above q.1 q.2 hq
    have h3 : q.2 = p.1 := congrArg Prod.fst he
    rw [← h3]; exact h2
  have hMnd : (M.map (·.1)).Nodup := by
    have e1 : M.map (·.1) = (cellsFrom (s.heap.objs.size + 1) fd.scope.names []).map (·.2) := by
      have := congrArg (List.map Prod.fst) e
      simpa [List.map_map, Function.comp_def] using this
    rw [e1]
    exact List.pairwise_map.mpr x.apart
  refine wpAny_mono (h _ s₁ M e ⟨⟨_, ⟨x.toInCall.ns, fun b ob q => x.toInCall.keep b ob (of_hideAll _ q), none_ _ (Nat.le_refl _)⟩, fun y v q => ?_⟩, fun p hp => ?_, ?_, by rw [hs₁], by rw [hs₁]; exact hg⟩) (fun _ _ x => x) (fun _ _ x => x.elim)
  · exact List.map_inj_left.mp hlb (y, v) (mem_of_lookup' q)
  · rcases List.mem_append.mp hp with hp | hp
    · exact ⟨k p hp, Nat.ne_of_gt (hM p hp), none_ _ (Nat.le_of_lt (hM p hp))⟩
    · exact ⟨x.toInCall.keep _ _ (hN p hp), Nat.ne_of_lt (Heap.lt_size (hN p hp)), hideAll_none _ (List.mem_map_of_mem hp)⟩
  · rw [List.map_append]
    refine List.nodup_append.mpr ⟨hMnd, hnd, fun a ha b hb hab => ?_⟩
    obtain ⟨p, hp, he⟩ := List.mem_map.mp ha
    obtain ⟨q, hq, he'⟩ := List.mem_map.mp hb
    have h1 := hM p hp
    have h2 := Heap.lt_size (hN q hq)
    subst hab
    have h3 : p.1 = a := he
    have h4 : q.1 = a := he'
    rw [h3] at h1; rw [h4] at h2
    exact Nat.lt_irrefl _ (Nat.lt_trans h1 h2)
end

noncomputable def clsStmt (i : Nat) : Stmt := match stAt 14 with
  | .ClassDef (body := b) .. => b.getD i (.Pass default)
  | _ => .Pass default
noncomputable def mHeader : Value := .str (Str.ofString "cpy313.email.header") 294
noncomputable def mthOf (dV cdv ct : Value) (cl : List (Str × Addr)) : Stmt → FuncData :=
  onFn default fun name args body scope _ => { name, qualname := Str.ofString "_Accumulator." ++ name, params := args, body := .stmts body, scope, globals := 3, closure := cl, defaults := dV, kwdefaults := .none, pyModule := mHeader, code := cdv, closureTuple := ct }
noncomputable def mthAt (i : Nat) (dV : Value) (c : Addr) (cl : List (Str × Addr)) (ct : Value) : FuncData := mthOf dV (.ref c) ct cl (clsStmt i)

structure Gw (K : Frag) (mg mb : Str → Option Value) (g : Heap) : Prop extends Gl mg mb g, Cl K g where
  f106 : FnAt g 106 (mthAt 0 (.ref 98) 105 [(Str.ofString "__class__", 93)] (.ref 99))
  f113 : FnAt g 113 (mthAt 1 .none 112 [] .none)
  f135 : FnAt g 135 (mthAt 4 .none 134 [] .none)
  f150 : FnAt g 150 (mthAt 6 (.ref 143) 149 [] .none)
  f83 : FnAt g 83 (fnAt 10 (.ref 78) mHeapq 82)
  f89 : FnAt g 89 (fnAt 11 (.ref 84) mHeapq 88)
  n83 : mg (Str.ofString "nsmallest") = some (.ref 83)
  n89 : mg (Str.ofString "nlargest") = some (.ref 89)
  n167 : mg (Str.ofString "_Accumulator") = some (.ref 167)
  sum0 : mg (Str.ofString "sum") = none
  sum1 : mb (Str.ofString "sum") = some (.builtin "sum")
  bm : Ex2 fun (b : Addr) (ob : Obj) => An6 (mg (Str.ofString "__builtins__") = some (.ref b)) (b ≠ builtinsNs) (g.get? b = some ob) (ob.cls = .type "module") (ob.dict = some builtinsNs) (ob.data = .plain)
  itr0 : mg (Str.ofString "iter") = none
  itr1 : mb (Str.ofString "iter") = some (.builtin "iter")
  obj0 : mg (Str.ofString "object") = none
  obj1 : mb (Str.ofString "object") = some (.type "object")
  min0 : mg (Str.ofString "min") = none
  min1 : mb (Str.ofString "min") = some (.builtin "min")
  max0 : mg (Str.ofString "max") = none
  max1 : mb (Str.ofString "max") = some (.builtin "max")
  srt0 : mg (Str.ofString "sorted") = none
  srt1 : mb (Str.ofString "sorted") = some (.builtin "sorted")
  zip0 : mg (Str.ofString "zip") = none
  zip1 : mb (Str.ofString "zip") = some (.type "zip")
  sup0 : mg (Str.ofString "super") = none
  sup1 : mb (Str.ofString "super") = some (.type "super")
  cell93 : ∃ ob, g.get? 93 = some ob ∧ ob.data = .cell (some (.ref 167))
  c105 : Ex4 fun (ob : Obj) (vs : Array Value) (file : Str) (tf : Tok) => An4 (g.get? 105 = some ob) (ob.data = .fields vs) (vs[2]? = some (.str file tf)) (((prog.main.file : Str) == file) = true)
  third : nsIn K cStatics "thirdparty.any" = some none
  d98 : Ex3 fun (ob : Obj) (n : Nat) (t : Tok) => An2 (g.get? 98 = some ob) (ob.data = .seq #[.int 0 t] n)
  d143 : Ex2 fun (ob : Obj) (n : Nat) => An2 (g.get? 143 = some ob) (ob.data = .seq #[.none] n)
  d78 : Ex2 fun (ob : Obj) (n : Nat) => An2 (g.get? 78 = some ob) (ob.data = .seq #[.none] n)
  d84 : Ex2 fun (ob : Obj) (n : Nat) => An2 (g.get? 84 = some ob) (ob.data = .seq #[.none] n)
  c134 : Ex9 fun (ob : Obj) (vs : Array Value) (file : Str) (tf : Tok) (flags : Int) (tg : Tok) (inF : Bool) (text : Int) (tt : Tok) => g.get? 134 = some ob ∧ ob.cls = .type "code" ∧ vs[11]? = some (.ref 130) ∧ ob.data = .fields vs ∧ vs.getD 11 .none = .ref 130 ∧ vs.getD 18 .none = .str file tf ∧ vs.getD 7 .none = .int flags tg ∧ vs.getD 9 .none = .bool inF ∧ vs.getD 10 .none = .int text tt
theorem Gw.keeps {K : Frag} {mg mb : Str → Option Value} {g h : Heap} (x : Gw K mg mb g) (k : Keeps g h) : Gw K mg mb h :=
  { x with cell93 := (by obtain ⟨ob, e1, e2⟩ := x.cell93; exact ⟨ob, k _ _ e1, e2⟩), c105 := (by obtain ⟨ob, vs, file, tf, e1, e2, e3, e4⟩ := x.c105; exact ⟨ob, vs, file, tf, k _ _ e1, e2, e3, e4⟩), d98 := (by obtain ⟨ob, n, t, e1, e2⟩ := x.d98; exact ⟨ob, n, t, k _ _ e1, e2⟩),
           d143 := (by obtain ⟨ob, n, e1, e2⟩ := x.d143; exact ⟨ob, n, k _ _ e1, e2⟩), d78 := (by obtain ⟨ob, n, e1, e2⟩ := x.d78; exact ⟨ob, n, k _ _ e1, e2⟩), d84 := (by obtain ⟨ob, n, e1, e2⟩ := x.d84; exact ⟨ob, n, k _ _ e1, e2⟩), bm := (by obtain ⟨b, ob, e1, e2, e3, e4, e5, e6⟩ := x.bm; exact ⟨b, ob, e1, e2, k _ _ e3, e4, e5, e6⟩), c134 := (by obtain ⟨ob, vs, file, tf, flags, tg, inF, text, tt, e1, e2⟩ := x.c134; exact ⟨ob, vs, file, tf, flags, tg, inF, text, tt, k _ _ e1, e2⟩), toGl := x.toGl.keeps k, toCl := x.toCl.keeps k, f106 := x.f106.keeps k, f113 := x.f113.keeps k, f135 := x.f135.keeps k, f150 := x.f150.keeps k, f83 := x.f83.keeps k, f89 := x.f89.keeps k }

section
variable {w : World} {A : Around} {E : Value → Shared → Prop} {s : Shared} {g g₀ : Heap} {L : Addr} {l : List (Str × Value)} {N : List (Addr × Obj)} {o : OsState} {mg mb : Str → Option Value} {K : Frag} {x dx : Addr} {xs : List Value} {n : Nat} {od : Obj}

theorem St.isNew {h : Heap} {ms : List Addr} (S : St (hideAll h ms) L l N o s) {p : Addr × Obj} (hp : p ∈ N) (hm : p.1 ∉ ms) : h.get? p.1 = none := by
  cases e : h.get? p.1 with
  | none => rfl
  | some ob => have := (S.nw p hp).2.2; rw [hideAll_get _ e hm] at this; cases this
theorem kind_list_append : builtinKind "list.append" = some .method := by decide +kernel
theorem split_list_append : splitId "list.append" = some ("list", "append") := by decide +kernel
theorem mapSeq_acc (v : Value) : Obj.mapSeq (·.push v) (accObj xs n dx) = accObj (xs ++ [v]) (n + 1) dx := by simp [Obj.mapSeq, accObj]
theorem ap_acc {v : Value} {Q : Value → Shared → Prop} (C : Cl K g) (S : St g L l N o s) (i : Nat) (hi : N[i]? = some (x, accObj xs n dx)) (hd : s.heap.get? dx = some od) (hz : xs.length ≤ 1000)
    (h : ∀ s', St g L l (N.set i (x, accObj (xs ++ [v]) (n + 1) dx)) o s' → Q .none s') : wpAny (model prog w) A (call (.builtin "list.append") [.ref x, v]) Q E s := by
  have ho := S.at (List.mem_of_getElem? hi)
  refine acc_call (C.keeps S.kept) (od := od) ⟨ho, hd⟩ (.inr kind_list_append) split_list_append slot_list_append.plain entry_list_append (args_list_append _ _) ?_
  show wpAny _ _ (updateSeq x (·.push v) >>= fun _ => ret .none) _ _ s
  refine wpAny_bind ?_
  refine wpAny_updateSeq ho rfl (wpAny_pure ⟨.none, rfl, h _ (S.upd i hi (Heap.SameBut.update ..) ?_)⟩) (by simp [sizeLine_eq]; omega)
  rw [Heap.get?_update_self _ ho (by rw [mapSeq_acc]; rfl), mapSeq_acc]

theorem push_ok {a b : Value} {Q : Value → Shared → Prop} (G : Gw K mg mb g₀) (Kp : Keeps g₀ s.heap) (hx0 : g₀.get? x = none) (hd : A.depth + 5 < recursionLimit) (hg : AllBare s.gens) (hx : s.heap.get? x = some (accObj xs n dx)) (hdx : s.heap.get? dx = some od) (hne : dx ≠ x)
    (hs : lookIn (Str.ofString "append") od = some none) (hz : xs.length ≤ 1000)
    (h : ∀ t s', s.heap.get? t = none → KeepsBut [x] s.heap s'.heap → s'.heap.get? x = some (accObj (xs ++ [.ref t]) (n + 1) dx) → s'.heap.get? t = some (seqObj "tuple" #[a, b] 0) → s'.os = s.os → AllBare s'.gens → Q .none s') :
    wpAny (model prog w) A (call (.ref 113) [.ref x, a, b]) Q E s := by
  have Kg : Keeps g₀ (hideAll s.heap [x]) := Kp.hide (by intro a ha; simp at ha; rw [ha]; exact hx0)
  have Gg := G.keeps Kg
  refine call_fn (N := [(x, accObj xs n dx)]) (binds := [(Str.ofString "self", .ref x), (Str.ofString "fws", a), (Str.ofString "string", b)]) G.lim Kp G.f113 (by omega)
    (by intro q hq; simp at hq; subst hq; exact hx) hg rfl (.of_eq rfl) rfl rfl (by simp) ?_
  intro L s₁ S
  walk_at "put"
  repeat (walk_at "1")
  have hdx1 : s₁.heap.get? dx = some od := S.kept _ _ (hideAll_get _ hdx (by simpa using hne))
  refine m_acc (Gg.toCl.keeps S.kept) ⟨S.at (.head _), hdx1⟩ Gg.app Gg.app' (.inr (.inl rfl)) hs ?_
  repeat (walk_at "1")
  rename St _ _ _ _ _ _ => S2
  refine ap_acc (od := od) Gg.toCl S2 1 rfl ?_ hz ?_
  · exact S2.kept _ _ (hideAll_get _ hdx (by simpa using hne))
  intro s₃ S3
  repeat (walk_at "1")
  refine h _ _ ?_ ?_ (S3.at (.tail _ (.head _))) (S3.at (.head _)) S3.os S3.gn
  · exact S3.isNew (p := (_, seqObj "tuple" #[a, b] 0)) (.head _) (fun q => by have := S3.nd; simp at q this; exact this q)
  · exact S3.keepsBut
end

section
variable {w : World} {A : Around} {E : Value → Shared → Prop} {s : Shared} {g g₀ : Heap} {L : Addr} {l : List (Str × Value)} {N : List (Addr × Obj)} {o : OsState} {mg mb : Str → Option Value} {K : Frag} {x dx : Addr} {xs : List Value} {n : Nat} {od : Obj}

theorem r_item {it y : Addr} {k : Nat} {v : Value} {Q : Option Value → Shared → Prop} (hit : s.heap.IsListIter it y k) (hy : SeqAt s.heap y xs) (hv : xs[k]? = some v)
    (h : ∀ h', h'.IsListIter it y (k + 1) → Heap.SameBut it s.heap h' → Q (some v) { s with heap := h' }) : wpAny (model prog w) A (pyNext (.ref it)) Q E s := by
  obtain ⟨ob, ho, hc, hd⟩ := id hit
  obtain ⟨oy, ny, hoy, hdy⟩ := hy
  refine pyNext_of (X := fun _ _ => False) (wpAny_callSpecial?_slot (name := Str.ofString "__next__") hit.typeIs slot_listiter_next (wpAny_call_entry slot_listiter_next hit.typeIs entry_listiter_next ?_ (args_listiter_next _))) (fun _ _ z => z.elim)
  show wpAny _ _ (field (.ref it) 0 >>= _) _ _ s
  refine wpAny_bind (wpAny_field ho hd (x := .ref y) rfl ?_)
  show wpAny _ _ (if (Value.ref y == Value.none) = true then _ else _) _ _ s
  rw [if_neg (show ¬ ((Value.ref y == Value.none) = true) from Bool.false_ne_true)]
  show wpAny _ _ (field (.ref it) 1 >>= _) _ _ s
  refine wpAny_bind (wpAny_field ho hd (x := .int k 0) rfl ?_)
  show wpAny _ _ (seqItems? (.ref y) >>= _) _ _ s
  refine wpAny_bind (wpAny_seqItems hoy hdy ?_)
  simp only [Int.toNat_natCast, List.getElem?_toArray, hv]
  refine wpAny_bind (wpAny_setField ho hd (by simp) (wpAny_pure ⟨v, rfl, v, rfl, h _ ?_ (Heap.SameBut.update ..)⟩))
  exact ⟨_, Heap.get?_update_self _ ho (Obj.isFreed_of_fields (Obj.data_mapFields hd _)), (Obj.cls_mapFields ..).trans hc, by rw [Obj.data_mapFields hd]; simp [rawInt]⟩
theorem r_end {it y : Addr} {k : Nat} {Q : Option Value → Shared → Prop} (hh : A.handled = none) (hit : s.heap.IsListIter it y k) (hy : SeqAt s.heap y xs) (hv : xs.length ≤ k)
    (h : ∀ h', Heap.ExtBut it s.heap h' → Q none { s with heap := h' }) : wpAny (model prog w) A (pyNext (.ref it)) Q E s := by
  obtain ⟨ob, ho, hc, hd⟩ := id hit
  obtain ⟨oy, ny, hoy, hdy⟩ := hy
  have hn : xs[k]? = none := List.getElem?_eq_none hv
  refine pyNext_of (X := fun e s' => ∃ a, e = .ref a ∧ s'.TypeIs (.ref a) "StopIteration" ∧ Q none s') (wpAny_callSpecial?_slot (name := Str.ofString "__next__") hit.typeIs slot_listiter_next (wpAny_call_entry slot_listiter_next hit.typeIs entry_listiter_next ?_ (args_listiter_next _))) (fun _ _ z => z)
  show wpAny _ _ (field (.ref it) 0 >>= _) _ _ s
  refine wpAny_bind (wpAny_field ho hd (x := .ref y) rfl ?_)
  show wpAny _ _ (if (Value.ref y == Value.none) = true then _ else _) _ _ s
  rw [if_neg (show ¬ ((Value.ref y == Value.none) = true) from Bool.false_ne_true)]
  show wpAny _ _ (field (.ref it) 1 >>= _) _ _ s
  refine wpAny_bind (wpAny_field ho hd (x := .int k 0) rfl ?_)
  show wpAny _ _ (seqItems? (.ref y) >>= _) _ _ s
  refine wpAny_bind (wpAny_seqItems hoy hdy ?_)
  simp only [Int.toNat_natCast, List.getElem?_toArray, hn]
  refine wpAny_bind (wpAny_rule (wpAny_bind (wpAny_setField ho hd (by simp) ?_)))
  show wpAny _ _ (newExc (.type "StopIteration") [] >>= _) _ _ _
  refine wpAny_bind ?_
  simp only [newExc, newTuple]
  refine wpAny_bind (wpAny_newObj_type ?_ (by size_fits))
  refine wpAny_bind (m := firstArgMember _ _) (wpAny_of_eq (a := Value.none) (by first | rfl | (simp only [firstArgMember]; rfl)) ?_)
  refine wpAny_newObj_type ?_ (by size_fits)
  simp only [raiseNew]
  refine wpAny_bind (wpAny_handled ?_)
  rw [show A.in1.handled = none from hh]
  refine wpAny_bind (wpAny_pure (wpAny_throw ?_))
  exact ⟨_, rfl, ⟨_, Heap.get?_push_size _ rfl, rfl⟩, h _ (((Heap.SameBut.update ..).extBut.push _).push _)⟩

theorem SeqAt.to {h h' : Heap} {y : Addr} (a : SeqAt h y xs) (k : ∀ ob, h.get? y = some ob → h'.get? y = some ob) : SeqAt h' y xs := by obtain ⟨ob, m, e, r⟩ := a; exact ⟨ob, m, k ob e, r⟩

theorem walk_pairs (hh : A.handled = none) (I y : Addr) (hne : y ≠ I) (Ts : Nat → Addr) (vals : Nat → Array Value) (hit : ∀ j, j < xs.length → xs[j]? = some (.ref (Ts j))) (hTI : ∀ j, j < xs.length → Ts j ≠ I) :
    WalksU prog w A I (I :: y :: (List.range xs.length).map Ts) [I] xs.length (fun j v => v = vals j)
      (fun j h => h.IsListIter I y j ∧ SeqAt h y xs ∧ ∀ k, k < xs.length → h.IsTuple (Ts k) (vals k))
      (fun j T h => (j < xs.length ∧ T = Ts j) ∧ h.IsListIter I y (j + 1) ∧ SeqAt h y xs ∧ ∀ k, k < xs.length → h.IsTuple (Ts k) (vals k)) where
  sub := fun b hb => by simp at hb; simp [hb]
  frame := fun _ _ _ st hk => ⟨st.1.at fun o e => hk I (by simp) o e, st.2.1.to fun o e => hk y (by simp) o e,
    fun k hk' => (st.2.2 k hk').at fun o e => hk (Ts k) (List.mem_cons_of_mem _ (List.mem_cons_of_mem _ (List.mem_map.mpr ⟨k, List.mem_range.mpr hk', rfl⟩))) o e⟩
  item := fun i s Q E hi st hQ => by
    refine r_item st.1 st.2.1 (hit i hi) fun h' hit' hs' => ?_
    have tup : ∀ k, k < xs.length → h'.IsTuple (Ts k) (vals k) := fun k hk' => (st.2.2 k hk').extBut hs'.extBut (hTI k hk')
    exact hQ (Ts i) (vals i) h' s.toks rfl (tup i hi) ⟨⟨hi, rfl⟩, hit', st.2.1.to (fun ob e => hs'.extBut _ _ hne e), tup⟩ fun b o hb e => hs'.extBut b o (fun h => hb (by simp [h])) e
  go := fun _ _ _ _ _ s Q _ hm hQ => wpAny_letOwnedTupleGo_listiter hm.2.1 (hQ s.heap hm.2 fun _ _ _ e => e)
  apart := fun j T _ hm hmem => by
    rcases List.mem_cons.mp hmem with e | e
    · exact hTI j hm.1.1 (hm.1.2 ▸ e)
    · cases e
  done := fun s Q E st hQ => r_end hh st.1 st.2.1 (Nat.le_refl _) fun h' he' => hQ h' s.toks fun b o hb e => he' b o (fun h => hb (by simp [h])) e
  self := fun _ _ _ _ st hQ => wpAny_pyIter_listiter st.1 hQ

theorem walk_shift {I : Addr} {fp wr : List Addr} {G : Array GenState → Array GenState → Prop} {P : Nat → Value → Prop} {T : Nat → Shared → Prop} (W : WalksS prog w A I fp wr G n P T) :
    WalksS prog w A I fp wr G (n + 1) (fun i v => ∃ j, i = j + 1 ∧ P j v) (fun i s => ∃ j, i = j + 1 ∧ T j s) where
  sub := W.sub
  grefl := W.grefl
  gtrans := W.gtrans
  frame := fun _ s h' tk ⟨j, e, st⟩ h1 h2 => ⟨j, e, W.frame j s h' tk st h1 h2⟩
  item := fun _ s Q E hi ⟨j, e, st⟩ hQ => W.item j s Q E (by walk_at "l") st fun v s' hP hT hm => hQ v s' ⟨j, e, hP⟩ ⟨j + 1, by walk_at "l", hT⟩ hm
  done := fun s Q E ⟨j, e, st⟩ hQ => by
    have hj : j = n := by walk_at "l"
    subst hj
    exact W.done s Q E st hQ
  self := fun _ s Q E ⟨j, _, st⟩ hQ => W.self j s Q E st hQ

theorem args_sum2 (a b : Value) : argsOk "sum" ⟨[a, b], []⟩ := by unfold argsOk; kernel_rfl
theorem c_sum2 {v : Value} {a : Int} {t : Tok} {Q : Value → Shared → Prop} (ha : 0 ≤ a ∧ a < 1000)
    (h : wpAny (model prog w) A.in1 (pyIter v) (fun it s₂ => ∃ I fp wr G n P T val, it = .ref I ∧ WalksS prog w A.in1 I fp wr G n P T ∧ T 0 s₂ ∧ (∀ b ∈ fp, b < s₂.heap.objs.size) ∧
      (∀ i v, P i v → ∃ t, v = .int (val i) t) ∧ ∀ s' t', Moved wr G s₂ s' → Q (.int (a + preSum val n) t') s') E s) :
    wpAny (model prog w) A (call (.builtin "sum") [v, .int a t]) Q E s := by
  refine call_function_tree PySem.F.kind_sum PySem.F.plain_sum PySem.F.entry_sum (args_sum2 _ _) ?_
  unfold Builtin.«sum»
  simp only [List.length_cons, List.length_nil]
  first | refine wI_neg (by decide) ?_ | rw [if_neg (by decide)]
  refine wpAny_bind (wpAny_of_eq (show Builtin.Builtins.bindParams "sum" ["start"] 0 ⟨[.int a t], []⟩ = pure [some (.int a t)] from rfl) ?_)
  refine wpAny_bind (wpAny_mono h (fun it s₂ h₂ => ?_) fun _ _ e => e)
  obtain ⟨I, fp, wr, G, n, P, T, val, rfl, W, hst, hfp, hval, hQ⟩ := h₂
  have hfin : ∀ s₃ : Shared, s₃.heap = s₂.heap → s₃.gens = s₂.gens → s₃.drawn = s₂.drawn → s₃.os = s₂.os → s₂.toks ≤ s₃.toks → wpAny (model prog w) A.in1 (newList [.int a s₂.toks] >>= fun x => again (.builtin "sum.loop" ⟨[.ref I, x, rawInt 0, rawInt 0], []⟩))
      (fun fin s' => match fin with
        | .done f => (match (Except.ok f : Result) with | .ok (.ret v) => Q v s' | .ok _ => False | .error e => E e s')
        | .again c' => c'.quiet = true ∧ codeAny (model prog w) A c' (fun r s' => match r with | .ok (.ret v) => Q v s' | .ok _ => False | .error e => E e s') s') E s₃ := by
    rintro ⟨hp, gs, dr, tk, os⟩ rfl rfl rfl rfl htk
    refine wpAny_bind (wpAny_newObj_type ?_)
    have hSf : s₂.heap.objs.size ∉ fp := fun hm => Nat.lt_irrefl _ (hfp _ hm)
    refine wpAny_pure ⟨plainId_quiet PySem.F.plain_sum_loop _, codeAny_sum_loopAnyS (walk_shift W) (fun i => match i with | 0 => a | j + 1 => val j) (fun i v ⟨j, e, hP⟩ => by subst e; exact hval j v hP) s₂.heap.objs.size hSf n 1 _ s₂.toks 0 0 (.inl rfl) (by walk_at "l") (by walk_at "l")
      ⟨0, rfl, W.frame 0 s₂ _ _ hst htk fun b _ o e => Heap.get?_push_of_some _ e⟩ (by rw [show preSum (fun i => match i with | 0 => a | j + 1 => val j) 1 = a from by simp [preSum]]; exact Heap.get?_push_size _ rfl) fun s' t' hm => ?_⟩
    have e : ∀ k, preSum (fun i => match i with | 0 => a | j + 1 => val j) (k + 1) = a + preSum val k := by
      intro k
      induction k with
      | zero => simp [preSum]
      | succ k ih =>
        have e1 : preSum (fun i => match i with | 0 => a | j + 1 => val j) (k + 1 + 1) = preSum (fun i => match i with | 0 => a | j + 1 => val j) (k + 1) + val k := rfl
        rw [e1, ih]
        show _ = a + (preSum val k + val k)
        lia
    rw [e]
    exact hQ s' t' (hm.drop_new htk)
  dsimp only
  split
  case isTrue =>
    refine wpAny_bind (wpAny_rule ?_)
    refine wpAny_bind (wpAny_mkInt ?_)
    refine wpAny_bind (wpAny_pure ?_)
    simp only [List.forIn_cons, List.forIn_nil]
    refine wpAny_bind (wpAny_bind (wpAny_bind (wpAny_isInstance (T := "int") (b := false) (typeIs_int _ _ _) PySem.sub_int_str ?_)))
    first | refine wI_neg (by decide) ?_ | simp only [Bool.false_eq_true, if_false]
    refine wpAny_pure (wpAny_bind (wpAny_bind (wpAny_isInstance (T := "int") (b := false) (typeIs_int _ _ _) PySem.sub_int_bytes ?_)))
    first | refine wI_neg (by decide) ?_ | simp only [Bool.false_eq_true, if_false]
    refine wpAny_pure (wpAny_bind (wpAny_bind (wpAny_isInstance (T := "int") (b := false) (typeIs_int _ _ _) PySem.sub_int_bytearray ?_)))
    first | refine wI_neg (by decide) ?_ | simp only [Bool.false_eq_true, if_false]
    refine wpAny_pure (wpAny_pure ?_)
    exact hfin _ rfl rfl rfl rfl (Nat.le_succ _)
  case isFalse hx =>
    refine absurd ?_ hx
    show (decide (-(2 ^ 63 : Int) ≤ a) && decide (a < 2 ^ 63)) = true
    simp; lia

noncomputable def Pc (h : Heap) (v : Value) (p : Str × Str) : Prop := Ex4 fun (T : Addr) (e : Nat) (ta tb : Tok) => An2 (v = .ref T) (h.get? T = some (seqObj "tuple" #[.str p.1 ta, .str p.2 tb] e))
theorem Pc.keeps {h h' : Heap} {v : Value} {p : Str × Str} (a : Pc h v p) (k : Keeps h h') : Pc h' v p := by obtain ⟨T, e, ta, tb, h1, h2⟩ := a; exact ⟨T, e, ta, tb, h1, k _ _ h2⟩
noncomputable def Pcs (h : Heap) (xs : List Value) (ps : List (Str × Str)) : Prop := xs.length = ps.length ∧ ∀ (j : Nat) v p, xs[j]? = some v → ps[j]? = some p → Pc h v p
theorem Pcs.keeps {h h' : Heap} {ps : List (Str × Str)} (a : Pcs h xs ps) (k : Keeps h h') : Pcs h' xs ps := ⟨a.1, fun j v p h1 h2 => (a.2 j v p h1 h2).keeps k⟩
noncomputable def Tab (ob : Obj) : Prop := ∃ ps : Array Value, ob = { cls := .none, data := .fields ps } ∧ TriplesOk ps.toList
noncomputable def sizeOf' (ps : List (Str × Str)) : Int := (ps.map fun p => ((p.1.length : Int) + (p.2.length : Int))).sum

noncomputable def plen : Option (Str × Str) → Int
  | some p => (p.1.length : Int) + (p.2.length : Int)
  | none => 0
theorem preSum_eq (ps : List (Str × Str)) (k : Nat) (hk : k ≤ ps.length) : preSum (fun i => plen ps[i]?) k = sizeOf' (ps.take k) := by
  induction k with
  | zero => simp [preSum, sizeOf']
  | succ k ih =>
    have hlt : k < ps.length := by walk_at "l"
    have e : ps.take (k + 1) = ps.take k ++ [ps[k]] := by rw [List.take_add_one, List.getElem?_eq_getElem hlt]; rfl
    have e2 : sizeOf' (ps.take k ++ [ps[k]]) = sizeOf' (ps.take k) + ((ps[k].1.length : Int) + (ps[k].2.length : Int)) := by
      unfold sizeOf'; rw [List.map_append, List.sum_append]; simp
    rw [e, e2, ← ih (by walk_at "l")]
    show preSum _ k + plen ps[k]? = _
    rw [List.getElem?_eq_getElem hlt]; rfl
theorem passing_all (n : Nat) : passing (fun _ => true) n 0 = List.range n := by simp [passing]

noncomputable def retOf : Stmt → Option Expr
  | .Return e _ => e
  | _ => none
noncomputable def callArgs : Expr → List Expr
  | .Call _ as _ _ => as
  | _ => []
noncomputable def genOf : Expr → Expr × Scope
  | .GeneratorExp e _ sc _ => (e, sc)
  | _ => default
noncomputable def accGen : Expr × Scope := genOf ((callArgs (((onFn [] (fun _ _ b _ _ => b) (clsStmt 4)).head?.bind retOf).getD default)).getD 0 default)
noncomputable def accScope : Scope := accGen.2
noncomputable def accElt : Expr := accGen.1
theorem quiet_len {cenv : Env} {vals : Nat → Array Value} {ps : List (Str × Str)} {fp wr : List Addr} {href : Heap} {D U : Nat} (hg : href.Ns mainGlobals mg) (hb : href.Ns builtinsNs mb) (h0 : mg (Str.ofString "len") = none) (h1 : mb (Str.ofString "len") = some (.builtin "len"))
    (hfp : mainGlobals ∈ fp ∧ mainGlobals ∉ wr ∧ builtinsNs ∈ fp ∧ builtinsNs ∉ wr)
    (hv : ∀ i a b, #[a, b] = vals i → ∃ p : Str × Str, ∃ ta tb, a = .str p.1 ta ∧ b = .str p.2 tb ∧ p.1.length < 1000 ∧ p.2.length < 1000 ∧ (plen ps[i]?) = (p.1.length : Int) + (p.2.length : Int))
    (hs : cenv.scope = accScope) (hG : cenv.globals = mainGlobals) (hB : cenv.builtins = builtinsNs) :
    QuietGenTD prog w cenv (Str.ofString "fws") (Str.ofString "part") [] accElt fp wr (fun j v => v = vals j) (fun _ => true) (fun i y => ∃ t, y = .int (plen ps[i]?) t) href D U where
  tests := fun A' E' i va vb s₂ m₂ _ _ _ _ _ _ _ _ => by
    simp only [List.forIn_nil]
    exact wpAny_pure ⟨rfl, s₂.heap, s₂.toks, rfl, fun _ _ e => e⟩
  elt := fun A' E' i va vb s₂ m₂ _ _ _ hP _ hn ha hb' hk => by
    obtain ⟨p, ta, tb, rfl, rfl, hz1, hz2, hp⟩ := hv i va vb hP
    have hg2 : s₂.heap.Ns mainGlobals mg := hg.at' fun o e => hk _ hfp.1 hfp.2.1 o e
    have hb2 : s₂.heap.Ns builtinsNs mb := hb.at' fun o e => hk _ hfp.2.2.1 hfp.2.2.2 o e
    have kf : cenv.scope.kind = .function := by rw [hs]; rfl
    have kl : cenv.kindOf (Str.ofString "len") = some .globalImplicit := by unfold Env.kindOf; rw [hs]; rfl
    have ka : cenv.kindOf (Str.ofString "fws") = some .local := by unfold Env.kindOf; rw [hs]; rfl
    have kb : cenv.kindOf (Str.ofString "part") = some .local := by unfold Env.kindOf; rw [hs]; rfl
    rw [hp]
    refine wpAny_BinOp ?_
    refine Call_ (Name_function_global kf kl (loadGlobal_builtin (hG.symm ▸ hg2) h0 (hB.symm ▸ hb2) h1 ?_))
    refine PyProof.Rows.callWith_builtin1 (spliced_more (wpAny_Name (wpAny_loadName_local kf ka hn ha ?_)))
    refine spliced_none ?_
    refine PyProof.Rows.len_str (by walk_at "l") ?_
    refine Call_ (Name_function_global kf kl (loadGlobal_builtin (hG.symm ▸ hg2) h0 (hB.symm ▸ hb2) h1 ?_))
    refine PyProof.Rows.callWith_builtin1 (spliced_more (wpAny_Name (wpAny_loadName_local kf kb hn hb' ?_)))
    refine spliced_none ?_
    refine PyProof.Rows.len_str (by walk_at "l") ?_
    refine PyProof.Rows.add_int ?_
    exact ⟨⟨_, rfl⟩, _, _, rfl, fun _ _ e => e⟩
end

section
variable {w : World} {A : Around} {E : Value → Shared → Prop} {s : Shared} {g g₀ : Heap} {L : Addr} {l : List (Str × Value)} {N : List (Addr × Obj)} {o : OsState} {mg mb : Str → Option Value} {K : Frag} {x dx : Addr} {xs : List Value} {n : Nat} {od : Obj}

theorem St.grownG {s' : Shared} (S : St g L l N o s) (hx : Keeps s.heap s'.heap) (h1 : s'.os = s.os) (h2 : AllBare s'.gens) : St g L l N o s' := by
  obtain ⟨m, F, hl⟩ := S.fr
  refine ⟨⟨m, ⟨?_, Keeps.trans F.keep hx, F.nl⟩, hl⟩, fun p hp => ⟨hx _ _ (S.nw p hp).1, (S.nw p hp).2⟩, S.nd, h1.trans S.os, h2⟩
  obtain ⟨oL, es, ep, h1, h2⟩ := F.ns
  exact ⟨oL, es, ep, hx _ _ h1, h2⟩
theorem genexpr_tab {env : Env} {c P : Addr} {ps : Array Value} {pos : Pos} {qualname : Str} {scope : Scope} {Q : Value → Shared → Prop} (hc : env.code = .ref c) (hok : s.heap.IsCode c P ps) (htab : s.heap.TableAt c P ps)
    (hQ : ∀ code h' tk ps', Heap.ExtBut P s.heap h' → h'.get? P = some { cls := .none, data := .fields ps' } → TriplesOk ps'.toList → Q code { s with heap := h', toks := tk }) :
    wpAny (model prog w) A (genexprCode env pos qualname scope) Q E s := by
  have htr : TriplesOk ps.toList := by
    obtain ⟨o, vs, file, tf, flags, tg, inF, text, tt, op, ho, hd, h11, h2, h7, h9, h10, hop, hpd, htr, hne⟩ := hok
    exact htr
  cases hnf : codeAmong pos ps.toList with
  | some cv => exact wpAny_genexprCode_hit hc hok hnf (hQ cv s.heap s.toks ps (Heap.ExtBut.refl _ _) htab.2 htr)
  | none => exact wpAny_genexprCodeX hc hok htab hnf fun c' h' tk hx _ _ _ _ ht' _ => hQ _ h' tk _ hx ht'.2 (by rw [Array.toList_append]; exact TriplesOk_snoc _ _ _ _ htr)
theorem acclen_ok {ps : List (Str × Str)} {a : Int} {ta : Tok} {ob : Obj} {Q : Value → Shared → Prop} (G : Gw K mg mb g₀) (Kp : Keeps g₀ s.heap) (h130 : g₀.get? 130 = none) (hh : A.handled = none) (hd : A.depth + 5 < recursionLimit) (hg : AllBare s.gens)
    (hx : AccAt s.heap x xs n dx od) (hx1 : x ≠ 130) (hdx1 : dx ≠ 130) (hP : Pcs s.heap xs ps) (hz : ∀ p ∈ ps, p.1.length < 1000 ∧ p.2.length < 1000) (hobT : s.heap.get? 130 = some ob) (hT : Tab ob)
    (hf : findObj K 167 (some od) (Str.ofString "_initial_size") = some (.value (.int a ta))) (ha : 0 ≤ a ∧ a < 1000)
    (h : ∀ t s' ob', KeepsBut [130] s.heap s'.heap → s'.heap.get? 130 = some ob' → Tab ob' → s'.os = s.os → AllBare s'.gens → Q (.int (a + sizeOf' ps) t) s') :
    wpAny (model prog w) A (call (.ref 135) [.ref x]) Q E s := by
  have Kg : Keeps g₀ (hideAll s.heap [130]) := Kp.hide (by intro a ha; simp at ha; rw [ha]; exact h130)
  have Gg := G.keeps Kg
  have hpc : ∀ j : Nat, ∃ r : Addr × Array Value, j < xs.length → xs[j]? = some (.ref r.1) ∧ r.1 ≠ 130 ∧ (hideAll s.heap [130]).IsTuple r.1 r.2 ∧ ∃ p ta tb, ps[j]? = some p ∧ r.2 = #[.str p.1 ta, .str p.2 tb] := by
    intro j
    by_cases hj : j < xs.length
    · obtain ⟨T, e, ta, tb, h1, h2⟩ := hP.2 j _ _ (List.getElem?_eq_getElem hj) (List.getElem?_eq_getElem (hP.1 ▸ hj))
      have hne : T ≠ 130 := fun q => by
        obtain ⟨pp, h3, _⟩ := hT
        rw [q, hobT, h3] at h2
        exact absurd (congrArg Obj.cls (Option.some.inj h2)) (by show ¬ (Value.none = Value.type "tuple"); decide)
      exact ⟨(T, #[.str (ps[j]'(hP.1 ▸ hj)).1 ta, .str (ps[j]'(hP.1 ▸ hj)).2 tb]), fun _ => ⟨by rw [List.getElem?_eq_getElem hj, h1], hne, ⟨_, hideAll_get _ h2 (by simpa using hne), rfl, _, rfl⟩, _, ta, tb, List.getElem?_eq_getElem _, rfl⟩⟩
    · exact ⟨(0, #[]), fun q => absurd q hj⟩
  obtain ⟨F, hF⟩ := Classical.axiomOfChoice hpc
  have hx' : AccAt (hideAll s.heap [130]) x xs n dx od := ⟨hideAll_get _ hx.ob (by simpa using hx1), hideAll_get _ hx.di (by simpa using hdx1)⟩
  refine call_fn (N := [(130, ob)]) (binds := [(Str.ofString "self", .ref x)]) G.lim Kp G.f135 (by walk_at "l")
    (by intro q hq; simp at hq; subst hq; exact hobT) hg rfl (.of_eq rfl) rfl rfl (by simp) ?_
  intro L s₁ S
  walk_at "put"
  repeat (walk_at "1")
  refine e_blt S Gg.gs Gg.bs Gg.sum0 Gg.sum1 ?_
  repeat (walk_at "1")
  refine wpAny_GeneratorExp_walksQTD (xa := Str.ofString "fws") (xb := Str.ofString "part") (cl := []) hh rfl rfl (by decide) rfl rfl rfl (by decide) rfl (by show A.depth + 1 < recursionLimit; lia) ?_ (fun _ => rfl)
  repeat (walk_at "1")
  refine i_acc Gg.toCl S (hx'.keeps S.kept) ?_
  intro it s₂ S
  refine ⟨Gg.lim.keeps S.kept, ?_⟩
  obtain ⟨pp, hobp, htr⟩ := hT
  have hpp : ob.data = .fields pp := by rw [hobp]
  have hcode : s₂.heap.IsCode 134 130 pp := by
    obtain ⟨oc, vs, file, tf, flags, tg, inF, text, tt, e1, _, _, e2, e3, e4, e5, e6, e7⟩ := Gg.c134
    exact ⟨oc, vs, file, tf, flags, tg, inF, text, tt, ob, S.kept _ _ e1, e2, e3, e4, e5, e6, e7, S.at (.tail _ (.head _)), hpp, htr, by decide⟩
  have htab : s₂.heap.TableAt 134 130 pp := by
    obtain ⟨oc, vs, file, tf, flags, tg, inF, text, tt, e1, c1, c2, e2, _⟩ := Gg.c134
    exact ⟨⟨oc, vs, S.kept _ _ e1, c1, e2, c2⟩, by rw [← hobp]; exact S.at (.tail _ (.head _))⟩
  refine genexpr_tab (c := 134) (P := 130) (ps := pp) rfl hcode htab ?_
  intro code h' tk ps' hext hop htr'
  have S3 := S.turn (s' := { s₂ with heap := h', toks := tk }) 1 rfl hext hop rfl rfl
  clear S
  obtain ⟨bmA, obm, e1, e2, e3, e4, e5, e6⟩ := Gg.bm
  refine wpAny_builtinsFor (Gg.gs.keeps S3.kept) e1 e2 (S3.kept _ _ e3) e4 e5 e6 ?_
  have nd := S3.nd
  have hit0 := (S3.nw _ (.head _)).2.2
  have hne : x ≠ it := fun q => by rw [← q, hx'.ob] at hit0; cases hit0
  have hTI : ∀ j, j < xs.length → (F j).1 ≠ it := fun j hj q => by
    obtain ⟨_, _, ⟨ot, h1, _⟩, _⟩ := hF j hj
    rw [q, hit0] at h1; cases h1
  have keepsB : ∀ b, (hideAll s.heap [130]).get? b ≠ none → b ∈ List.range h'.objs.size := fun b hb => by
    cases e : (hideAll s.heap [130]).get? b with
    | none => exact absurd e hb
    | some ob => exact List.mem_range.mpr (Heap.lt_size (S3.kept _ _ e))
  refine ⟨it, _, [it], xs.length, _, _, _, fun _ => true, fun i y => ∃ t, y = .int (plen ps[i]?) t, rfl,
    fun A' hA => walk_pairs hA it x hne (fun j => (F j).1) (fun j => if j < xs.length then (F j).2 else #[.str (Str.ofString "") 0, .str (Str.ofString "") 0]) (fun j hj => (hF j hj).1) hTI, ?_, ?_, ?_, Gg.lim.keeps S3.kept, ?_, ?_, ?_⟩
  · intro i vals hv
    by_cases hi : i < xs.length
    · obtain ⟨_, _, _, p, ta, tb, _, hr⟩ := hF i hi
      rw [hv, if_pos hi, hr]; exact ⟨_, _, rfl⟩
    · rw [hv, if_neg hi]; exact ⟨_, _, rfl⟩
  · exact ⟨⟨_, S3.at (.head _), rfl, rfl⟩, (hx'.keeps S3.kept).seq, fun k hk => by simp only [hk, if_true]; obtain ⟨ot, q1, q2⟩ := (hF k hk).2.2.1; exact ⟨ot, S3.kept _ _ q1, q2⟩⟩
  · intro b hb
    rcases List.mem_cons.mp hb with rfl | hb
    · exact Heap.lt_size (S3.at (.head _))
    · rcases List.mem_cons.mp hb with rfl | hb
      · exact Heap.lt_size (S3.kept _ _ hx'.ob)
      · obtain ⟨j, hj, rfl⟩ := List.mem_map.mp hb
        obtain ⟨ot, q1, _⟩ := (hF j (List.mem_range.mp hj)).2.2.1
        exact Heap.lt_size (S3.kept _ _ q1)
  · intro q
    have q := List.mem_singleton.mp q
    obtain ⟨_, hn, _⟩ := Gg.lim
    obtain ⟨oc, _, _, q1, _⟩ := hn
    rw [q, hit0] at q1; cases q1
  · intro href hk
    refine quiet_len (ps := ps) (vals := fun j => if j < xs.length then (F j).2 else #[.str (Str.ofString "") 0, .str (Str.ofString "") 0]) ((Gg.gs.keeps S3.kept).keeps hk) ((Gg.bs.keeps S3.kept).keeps hk) Gg.len0 Gg.len1 ?_ ?_ rfl rfl rfl
    · obtain ⟨og, _, _, q1, _⟩ := Gg.gs
      obtain ⟨ob', _, _, q2, _⟩ := Gg.bs
      refine ⟨keepsB _ (by rw [q1]; simp), fun q => ?_, keepsB _ (by rw [q2]; simp), fun q => ?_⟩
      · have q := List.mem_singleton.mp q; rw [q, hit0] at q1; cases q1
      · have q := List.mem_singleton.mp q; rw [q, hit0] at q2; cases q2
    · intro i a b hab
      by_cases hi : i < xs.length
      · obtain ⟨_, _, _, p, ta, tb, hp, hr⟩ := hF i hi
        rw [if_pos hi, hr] at hab
        injection hab with hab
        injection hab with h1 h2
        injection h2 with h2 _
        rw [hp]
        exact ⟨p, ta, tb, h1, h2, (hz p (List.mem_of_getElem? hp)).1, (hz p (List.mem_of_getElem? hp)).2, rfl⟩
      · rw [if_neg hi] at hab
        injection hab with hab
        injection hab with h1 h2
        injection h2 with h2 _
        rw [List.getElem?_eq_none (hP.1 ▸ Nat.not_lt.mp hi)]
        exact ⟨(Str.ofString "", Str.ofString ""), 0, 0, h1, h2, by decide, by decide, by decide⟩
  · intro aG h₅ tk₅ gs hbare hlt hsz hk5 W GA
    have S5 := S3.grownG (s' := { s₂ with heap := h₅, toks := tk₅, gens := s₂.gens.push gs }) hk5 rfl (S3.gn.push hbare)
    repeat (walk_at "1")
    refine g_acc' (Gg.toCl.keeps S5.kept) (hx'.keeps S5.kept) hf rfl ?_
    repeat (walk_at "1")
    refine c_sum2 ha ?_
    refine W.of_in1.of_in1.of_in1.self 0 _ _ _ (W.frame 0 _ _ _ GA (Nat.le_succ _) fun _ _ _ e => e) ?_
    refine ⟨_, _, _, _, _, _, _, fun i => plen ps[i]?, rfl, W.of_in1.of_in1.of_in1, W.frame 0 _ _ _ GA (Nat.le_succ _) fun _ _ _ e => e, ?_, ?_, ?_⟩
    · intro b hb
      rcases List.mem_cons.mp hb with rfl | hb
      · show _ < h₅.objs.size; lia
      · rcases List.mem_cons.mp hb with rfl | hb
        · show _ < h₅.objs.size; rw [hsz]; lia
        · have := List.mem_range.mp hb
          show _ < h₅.objs.size; rw [hsz]; lia
    · rintro i v ⟨j, hj, t, hv⟩
      rw [passing_all] at hj
      obtain ⟨q, hj⟩ := List.getElem?_eq_some_iff.mp hj
      simp at hj
      subst hj
      exact ⟨t, hv⟩
    · intro s' t' hm
      rw [passing_all, List.length_range, hP.1, preSum_eq ps _ (Nat.le_refl _), List.take_length]
      have hnC : ∀ b, (h'.get? b ≠ none ∧ b ≠ it) → b ∉ [h'.objs.size, it] := fun b hb q => by
        rcases List.mem_cons.mp q with q | q
        · exact hb.1 (by rw [q]; exact Heap.get?_none_of_le (Nat.le_refl _))
        · exact hb.2 (List.mem_singleton.mp q)
      have hitn : s.heap.get? it = none := S3.isNew (p := (it, liObj x 0)) (.head _) (fun q => by
        have q := List.mem_singleton.mp q
        rw [List.set_cons_succ, List.set_cons_zero] at nd
        simp at nd
        exact nd q)
      have h130it : (130 : Nat) ≠ it := fun q => by
        rw [List.set_cons_succ, List.set_cons_zero] at nd
        simp at nd
        exact nd q.symm
      refine h _ _ _ ?_ ?_ ⟨ps', rfl, htr'⟩ ?_ ?_
      · intro b ob1 hb e
        have e3 := S3.keepsBut b ob1 hb e
        exact hm.heap b ob1 (hnC b ⟨by show h'.get? b ≠ none; rw [e3]; simp, fun q => by rw [q, hitn] at e; cases e⟩) (hk5 b ob1 e3)
      · have e3 := S3.at (.tail _ (.head _))
        exact hm.heap 130 _ (hnC 130 ⟨by rw [hop]; simp, h130it⟩) (hk5 130 _ e3)
      · exact hm.os.trans S5.os
      · exact AllBare.moved (S5.gn) hm.gens

theorem St.turnBut {s' : Shared} {a : Addr} {ob ob' : Obj} (S : St g L l N o s) (i : Nat) (hi : N[i]? = some (a, ob)) (hx : KeepsBut [a] s.heap s'.heap) (ho : s'.heap.get? a = some ob') (h1 : s'.os = s.os) (h2 : AllBare s'.gens) : St g L l (N.set i (a, ob')) o s' := by
  have hm := List.mem_of_getElem? hi
  obtain ⟨_, n2, n3⟩ := S.nw _ hm
  obtain ⟨hlt, he⟩ := List.getElem?_eq_some_iff.mp hi
  have key : (N.set i (a, ob')).map (·.1) = N.map (·.1) := by
    rw [List.map_set]
    apply List.ext_getElem?
    intro j
    by_cases hj : i = j
    · subst hj; simp [hlt, he]
    · simp [hj]
  refine S.next (ms := [a]) hx (by intro b hb; rw [List.mem_singleton.mp hb]; exact ⟨n2, n3⟩) (fun p hp => ?_) (by rw [key]; exact S.nd) (h1.trans S.os) h2
  obtain ⟨j, hj⟩ := List.getElem?_of_mem hp
  by_cases hij : i = j
  · subst hij
    rw [List.getElem?_set_self hlt] at hj
    cases hj
    exact ⟨ho, n2, n3⟩
  · rw [List.getElem?_set_ne hij] at hj
    have hpN := List.mem_of_getElem? hj
    have ne : p.1 ≠ a := fun q => by
      obtain ⟨hjl, hje⟩ := List.getElem?_eq_some_iff.mp hj
      have h1 : (N.map (·.1))[i]'(by simpa using hlt) = a := by simp [he]
      have h2 : (N.map (·.1))[j]'(by simpa using hjl) = a := by simp [hje, q]
      exact hij ((List.getElem_inj S.nd).mp (h1.trans h2.symm))
    exact ⟨hx _ _ (by simpa using ne) (S.nw p hpN).1, (S.nw p hpN).2⟩

theorem args_len1 (a : Value) : argsOk "len" ⟨[a], []⟩ := by unfold argsOk; kernel_rfl
theorem c_lenacc {ps : List (Str × Str)} {a : Int} {ta : Tok} {ob : Obj} {Q : Value → Shared → Prop} (G : Gw K mg mb g) (S : St g L l N o s) (i : Nat) (hi : N[i]? = some (130, ob)) (hT : Tab ob) (hh : A.handled = none) (hd : A.depth + 5 < recursionLimit)
    (hx : AccAt s.heap x xs n dx od) (hx1 : x ≠ 130) (hdx1 : dx ≠ 130) (hP : Pcs s.heap xs ps) (hz : ∀ p ∈ ps, p.1.length < 1000 ∧ p.2.length < 1000) (hsz : a + sizeOf' ps < 2 ^ 62)
    (hf : findObj K 167 (some od) (Str.ofString "_initial_size") = some (.value (.int a ta))) (ha : 0 ≤ a ∧ a < 1000)
    (h : ∀ t s' ob', Tab ob' → St g L l (N.set i (130, ob')) o s' → Q (.int (a + sizeOf' ps) t) s') : wpAny (model prog w) A (call (.builtin "len") [.ref x]) Q E s := by
  refine call_function_tree (b := Builtin.«len») (by decide +kernel) (by decide +kernel) (entryFor_of_fast (by kernel_rfl)) (args_len1 _) ?_
  unfold Builtin.«len»
  refine wpAny_bind (wpAny_of_eq (a := Value.ref x) rfl ?_)
  have hi2 := List.mem_of_getElem? hi
  refine wpAny_bind (special_fn (name := "__len__") (args := []) (G.X.keeps S.kept) hx.inst G.len G.len' ?_)
  refine acclen_ok G S.kept (S.nw _ hi2).2.2 hh hd S.gn hx hx1 hdx1 hP hz (S.at hi2) hT hf ha ?_
  intro t s' ob' k1 k2 k3 k4 k5
  have S' := S.turnBut i hi k1 k2 k4 k5
  have h0 : 0 ≤ sizeOf' ps := by
    unfold sizeOf'
    clear hsz hP hz h
    induction ps with
    | nil => simp
    | cons p ps ih => simp only [List.map_cons, List.sum_cons]; lia
  refine wpAny_bind (wpAny_holding (wpAny_pure ?_))
  refine wpAny_bind (wpAny_letGo ?_)
  rw [if_neg (by walk_at "l"), if_neg (by walk_at "l")]
  exact wpAny_bind (wpAny_mkInt (wpAny_pure (h _ _ ob' k3 S'.tok)))
end

theorem slot_wd_get : Slot "wrapper_descriptor" "__get__" "wrapper_descriptor.__get__" := .of (owner := "wrapper_descriptor") (n := "__get__") (by rw [typeLookup_type, builtinLookup_eq_fast]; kernel_rfl) (by decide +kernel) (by decide +kernel) (by decide +kernel)
  (by first | exact .inl (by decide +kernel) | exact .inr (by decide +kernel)) (by rw [isSubtype_type]; kernel_rfl)
theorem entry_wd_get : entryFor table "wrapper_descriptor.__get__" = some Builtin.«wrapper_descriptor.__get__» := entryFor_of_tree (by kernel_rfl)
theorem args_wd_get (a b c : Value) : argsOk "wrapper_descriptor.__get__" ⟨[a, b, c], []⟩ := by unfold argsOk; kernel_rfl
theorem type_list_init : typeOf (.builtin "list.__init__") = pure (.type "wrapper_descriptor") := by kernel_rfl
section
variable {w : World} {A : Around} {E : Value → Shared → Prop} {s : Shared} {h : Heap} {g : Array GenState} {d : Drawn} {t : Nat} {os : OsState} {K : Frag} {x dx : Addr} {xs : List Value} {n : Nat} {od : Obj}
theorem wd_get {Q : Fin → Shared → Prop} (hx : h.get? x = some { cls := .ref 167, dict := some dx, data := .seq xs.toArray n }) (hi : Looks (model prog w) h (isSubtype (.ref 167) (.type "list")) true) (hq : Q (.done (.ret (.ref h.objs.size))) ⟨h.push { cls := .type "method-wrapper", data := .fields #[.builtin "list.__init__", .ref x] }, g, d, t, os⟩) :
    wpAny (model prog w) A (Builtin.«wrapper_descriptor.__get__» ⟨[.builtin "list.__init__", .ref x, .ref 167], []⟩) Q E ⟨h, g, d, t, os⟩ := by
  have hi' : Looks (model prog w) h (isSubtype (.ref 167) (.type (".".intercalate ("list.__init__".cutAt '.').dropLast))) true := by
    rw [show (".".intercalate ("list.__init__".cutAt '.').dropLast) = "list" by decide +kernel]; exact hi
  unfold Builtin.«wrapper_descriptor.__get__»
  repeat lk
  exact hq

theorem super_ga {so : Addr} {tk : Tok} {Q : Fin → Shared → Prop} (hso : h.get? so = some { cls := .type "super", dict := none, data := .fields #[.ref 167, .ref x, .ref 167], slots := #[] }) (hno : Looks (model prog w) h (opaqueClassAbove (.ref 167)) none)
    (hC : Looks (model prog w) h (mroOf (.ref 167)) [.ref 167, .type "list", .type "object"]) (hx : h.get? x = some { cls := .ref 167, dict := some dx, data := .seq xs.toArray n }) (hi : Looks (model prog w) h (isSubtype (.ref 167) (.type "list")) true) (hxC : x ≠ 167)
    (hq : Q (.done (.ret (.ref h.objs.size))) ⟨h.push { cls := .type "method-wrapper", data := .fields #[.builtin "list.__init__", .ref x] }, g, d, t, os⟩) :
    wpAny (model prog w) A (Builtin.«super.__getattribute__» ⟨[.ref so, .str (Str.ofString "__init__") tk], []⟩) Q E ⟨h, g, d, t, os⟩ := by
  have f0 := looks_field (M := model prog w) hso 0 (v := .ref 167) rfl
  have f1 := looks_field (M := model prog w) hso 1 (v := .ref x) rfl
  have f2 := looks_field (M := model prog w) hso 2 (v := .ref 167) rfl
  have ho : Looks (model prog w) h (classOwn (.type "list") (Str.ofString "__init__")) (some (.builtin "list.__init__")) := Looks.of_pure (by kernel_rfl)
  have ht : Looks (model prog w) h (typeOf (.builtin "list.__init__")) (.type "wrapper_descriptor") := Looks.of_pure type_list_init
  have hg : Looks (model prog w) h (typeLookup (.type "wrapper_descriptor") "__get__") (some (.builtin "wrapper_descriptor.__get__")) := Looks.of_pure slot_wd_get.lookup
  unfold Builtin.«super.__getattribute__»
  repeat (first | (with_reducible refine wpAny_call ?_) | lk)
  rw [if_neg (show ¬ ((Value.ref x == Value.ref 167) = true) by simp [hxC])]
  refine codeAny_call_builtin slot_wd_get.plain entry_wd_get (slot_wd_get.check _ _ _ _ _ _ _ _ type_list_init (args_wd_get _ _ _) (wd_get hx hi ?_))
  repeat lk
  exact hq

theorem super_method {so : Addr} {pl : Sem Bool} {Q : Value × List Value → Shared → Prop} (hso : h.get? so = some { cls := .type "super", dict := none, data := .fields #[.ref 167, .ref x, .ref 167], slots := #[] }) (hno : Looks (model prog w) h (opaqueClassAbove (.ref 167)) none)
    (hC : Looks (model prog w) h (mroOf (.ref 167)) [.ref 167, .type "list", .type "object"]) (hx : h.get? x = some { cls := .ref 167, dict := some dx, data := .seq xs.toArray n }) (hi : Looks (model prog w) h (isSubtype (.ref 167) (.type "list")) true) (hxC : x ≠ 167)
    (hq : Q (.ref h.objs.size, []) ⟨h.push { cls := .type "method-wrapper", data := .fields #[.builtin "list.__init__", .ref x] }, g, d, t + 1, os⟩) :
    wpAny (model prog w) A (getMethod (.ref so) (Str.ofString "__init__") pl) Q E ⟨h, g, d, t, os⟩ := by
  have hlk := PySem.F.ks_slot_super_ga.lookup
  have hcan := PySem.F.ks_canon_super_ga
  have hT : ∀ t', (⟨h, g, d, t', os⟩ : Shared).TypeIs (.ref so) "super" := fun _ => ⟨_, hso, rfl⟩
  unfold getMethod
  refine wpAny_bind (wpAny_specialOf (hT _) hlk ?_)
  show wpAny _ _ (if (Manifest.canonical "super.__getattribute__" != "object.__getattribute__") = true then _ else _) _ _ _
  first | refine wI_pos hcan ?_ | rw [if_pos hcan]
  unfold getAttr getAttrBy
  refine wpAny_bind (wpAny_bind (wpAny_mkText (wpAny_holding (wpAny_bind (wpAny_typeOf (hT _) (wpAny_bind (wpAny_of_eq hlk ?_)))))))
  show wpAny _ _ (getAttrByItsOwn (.ref so) (.str (Str.ofString "__init__") t) (.type "super") (.builtin "super.__getattribute__") true false) _ _ _
  unfold getAttrByItsOwn hookBefore callGetattribute boundAndCalled
  refine wpAny_bind (wpAny_of_eq (show (if onTheHeap (.type "super") then typeLookup (.type "super") "__getattr__" else pure none) = pure none from rfl) ?_)
  refine wpAny_bind (wpAny_attempt (wpAny_holding ?_))
  show wpAny _ _ (bindSpecial (.builtin "super.__getattribute__") (.ref so) >>= _) _ _ _
  refine wpAny_bind (wpAny_of_eq (PySem.F.ks_slot_super_ga.bind _) ?_)
  refine wpAny_call_entry PySem.F.ks_slot_super_ga (hT _) PySem.F.ks_entry_super_ga (super_ga hso hno hC hx hi hxC ⟨_, rfl, ?_⟩) (PySem.F.ks_gaArgs_super _ _)
  exact wpAny_pure (wpAny_pure hq)

theorem entry_list_init' : entryFor table "list.__init__" = some Builtin.«list.__init__» := entryFor_of_tree (by kernel_rfl)
theorem bound_list_init (v : Value) : checkBoundCall "list.__init__" ⟨[v], []⟩ = pure () := by kernel_rfl
theorem call_mw {q : Addr} {Q : Value → Shared → Prop} (hq : s.heap.get? q = some { cls := .type "method-wrapper", data := .fields #[.builtin "list.__init__", .ref x] }) (hx : s.heap.get? x = some (accObj [] n dx))
    (h : ∀ h' n', Heap.SameBut x s.heap h' → h'.get? x = some (accObj [] n' dx) → Q .none { s with heap := h' }) : wpAny (model prog w) A (call (.ref q) []) Q E s := by
  refine wpAny_call (codeAny_of_tree ?_)
  show wpAny _ _ (callAny (.ref q) ⟨[], []⟩) _ _ _
  refine nd_load hq ?_
  show wpAny _ _ (checkBoundCall "list.__init__" ⟨[.ref x], []⟩ >>= fun _ => again (.builtin "list.__init__" ⟨[.ref x], []⟩)) _ _ _
  refine wpAny_bind (wpAny_of_eq (bound_list_init _) (wpAny_pure ⟨Code.quiet_builtin _ (by decide +kernel), codeAny_builtin entry_list_init' ?_⟩))
  unfold Builtin.«list.__init__»
  refine wpAny_bind (m := Builtin.List.listItems (.ref x)) ?_
  unfold Builtin.List.listItems
  refine wpAny_bind (wpAny_seqItems hx rfl (wpAny_pure ?_))
  refine wpAny_bind (m := updateSeq x fun _ => #[]) (wpAny_updateSeq hx rfl ?_)
  refine wpAny_bind (wpAny_letGo ?_)
  have e : Obj.mapSeq (fun _ => #[]) (accObj [] n dx) = accObj [] n dx ∨ ∃ n', Obj.mapSeq (fun _ => #[]) (accObj [] n dx) = accObj [] n' dx := .inr ⟨_, rfl⟩
  refine wpAny_pure (h _ _ (Heap.SameBut.update ..) (Heap.get?_update_self _ hx rfl))
end

theorem callWith_mw {w : World} {A : Around} {E : Value → Shared → Prop} {s : Shared} {env : Env} {pos : Pos} {q : Addr} {vs : Array Value} {Q : Value → Shared → Prop} (hq : s.heap.get? q = some { cls := .type "method-wrapper", data := .fields vs }) (h : wpAny (model prog w) A (call (.ref q) []) Q E s) :
    wpAny (model prog w) A (callWith pos (.ref q) [] (backTo pos (starEach [] env)) []) Q E s := by
  show wpAny _ _ (callWith pos (.ref q) [] [] []) Q E s
  unfold callWith
  refine wpAny_bind (wpAny_holding (PyProof.Rows.evalArgs_none ?_))
  refine wpAny_bind (wpAny_standAt ?_)
  refine wpAny_bind (m := keeperOf (.ref q)) ?_
  unfold keeperOf
  refine wpAny_bind (wpAny_load hq ?_)
  refine wpAny_pure (a := Keeper.machine) ?_
  refine wpAny_bind ?_
  refine wpAny_mono h (fun r s' hr => ?_) fun _ _ x => x
  exact wpAny_bind (wpAny_holding (wpAny_point (wpAny_pure hr)))
noncomputable def dOb (w : World) (v : Value) (t : Tok) : Obj := Obj.putName (Str.ofString "_initial_size") (PyData.keyHash w.params (Str.ofString "_initial_size")) (.str (Str.ofString "_initial_size") t) v emptyDict
theorem dOb_own (w : World) (v : Value) (t : Tok) : lookIn (Str.ofString "_initial_size") (dOb w v t) = some (some v) := rfl
theorem dOb_append (w : World) (v : Value) (t : Tok) : lookIn (Str.ofString "append") (dOb w v t) = some none := rfl
theorem dOb_push (w : World) (v : Value) (t : Tok) : lookIn (Str.ofString "push") (dOb w v t) = some none := rfl
theorem dOb_reset (w : World) (v : Value) (t : Tok) : lookIn (Str.ofString "reset") (dOb w v t) = some none := rfl
theorem Cl.own {K : Frag} {g : Heap} (C : Cl K g) (w : World) (v : Value) (t : Tok) : findObj K 167 (some (dOb w v t)) (Str.ofString "_initial_size") = some (.value v) := by
  obtain ⟨cd, h1, h2, h3, _⟩ := C.cd
  unfold findObj
  rw [h1, Option.bind_some, C.ini2]
  simp only [Option.bind_some, W.ownOf, h3, if_true, dOb_own]

section
variable {w : World} {A : Around} {E : Value → Shared → Prop} {s : Shared} {g g₀ : Heap} {L : Addr} {l : List (Str × Value)} {N : List (Addr × Obj)} {o : OsState} {mg mb : Str → Option Value} {K : Frag} {x dx : Addr} {xs : List Value} {n : Nat} {od : Obj}

theorem init_code {v : Value} {R : Result → Shared → Prop} (G : Gw K mg mb g₀) (Kp : Keeps g₀ s.heap) (hx0 : g₀.get? x = none) (hd0 : g₀.get? dx = none) (hne : x ≠ dx) (hd : A.depth + 5 < recursionLimit) (hg : AllBare s.gens)
    (hx : s.heap.get? x = some (accObj [] n dx)) (hdx : s.heap.get? dx = some emptyDict)
    (h : ∀ t n' s', KeepsBut [x, dx] s.heap s'.heap → s'.heap.get? x = some (accObj [] n' dx) → s'.heap.get? dx = some (dOb w v t) → s'.os = s.os → AllBare s'.gens → R (.ok (.ret .none)) s') :
    codeAny (model prog w) A (.call (.ref 106) ⟨[.ref x, v], []⟩) R s := by
  have Kg : Keeps g₀ (hideAll s.heap [x, dx]) := Kp.hide (by intro a ha; simp at ha; rcases ha with rfl | rfl; exact hx0; exact hd0)
  have Gg := G.keeps Kg
  refine (ks_codeAny_call_defAt (binds := [(Str.ofString "self", .ref x), (Str.ofString "initial_size", v)]) (by walk_at "l") (Kp _ _ G.f106.ob) rfl (G.lim.keeps Kp) (G.f106.cd.keeps Kp) rfl
    (by obtain ⟨_, _, _, e1, e2⟩ := G.d98; exact .of_defaults rfl (Kp _ _ e1) e2 rfl rfl) (by decide) (by intro y hy; simp at hy; rcases hy with rfl | rfl <;> rfl) (fun h₁ hns hk₁ => ?_))
  have S : St (hideAll s.heap [x, dx]) s.heap.objs.size [(Str.ofString "initial_size", v), (Str.ofString "self", .ref x)] [(x, accObj [] n dx), (dx, emptyDict)] s.os { s with heap := h₁, toks := s.toks + 2 } := by
    refine ⟨⟨_, ⟨hns, fun b o e => hk₁ b o (of_hideAll _ e), Heap.get?_none_of_le (Nat.le_of_eq (hideAll_size _ _))⟩, fun _ _ e => e⟩, fun p hp => ?_, by simpa using hne, rfl, hg⟩
    simp at hp
    rcases hp with rfl | rfl
    · exact ⟨hk₁ _ _ hx, Nat.ne_of_lt (Heap.lt_size hx), hideAll_none _ (by simp)⟩
    · exact ⟨hk₁ _ _ hdx, Nat.ne_of_lt (Heap.lt_size hdx), hideAll_none _ (by simp)⟩
  refine ks_wpAt_mono (E := fun _ _ => False) ?_ (fun _ _ x => x) (fun _ _ x => x.elim)
  generalize s.heap.objs.size = L at S ⊢
  generalize ({ s with heap := h₁, toks := s.toks + [(Str.ofString "self", Value.ref x), (Str.ofString "initial_size", v)].length } : Shared) = s₁ at S ⊢
  refine ks_wpAt_execs_cons (wpAt_of_wpAny ?_)
  refine plainObj_wpAny_Assign_Attribute ?_
  repeat (walk_at "1")
  refine sa_acc (es₀ := []) Gg.toCl S ⟨S.at (.head _), S.at (.tail _ (.head _))⟩ 1 rfl Gg.ini2 rfl rfl (by simp) ?_
  intro t s₂ S2
  refine ks_wpAt_execs_cons (ks_wpAt_Expr_any (ks_wpAt_MethodCall ?_))
  obtain ⟨oc, vs, file, tf, e1, e2, e3, e4⟩ := Gg.c105
  refine ks_wpAt_super_base (f := 106) (cc := 105) rfl rfl rfl rfl (S2.kept _ _ Gg.f106.ob) rfl rfl rfl (S2.kept _ _ e1) e2 e3 e4 rfl ?_
  have Gg2 := Gg.keeps S2.kept
  obtain ⟨ob93, hc1, hc2⟩ := Gg2.cell93
  refine ks_loadName_global rfl rfl (loadGlobal_builtin (env := callEnv (mthAt 0 (.ref 98) 105 [(Str.ofString "__class__", 93)] (.ref 99)) L 106) Gg2.gs Gg2.sup0 Gg2.bs Gg2.sup1 ⟨rfl, ?_⟩)
  refine wpAny_loadName_free rfl rfl rfl ⟨_, hc1, hc2⟩ ?_
  refine n_loc S2 rfl ?_
  obtain ⟨cd, hcd, hmro, _, _, _⟩ := Gg2.cd
  obtain ⟨oD, hD1, hD2⟩ : ∃ oD, s₂.heap.get? 167 = some oD ∧ oD.data = .cls cd := by
    have hcd' := hcd
    unfold clsIn at hcd'
    split at hcd'
    · rename_i ho; cases hcd'; exact ⟨_, Gg2.X _ _ ho, rfl⟩
    · cases hcd'
  have hsub : Looks (model prog w) s₂.heap (isSubtype (.ref 167) (.ref 167)) true := looks_mroIn Gg2.X (by unfold mroIn; rw [hcd, Option.bind_some, hmro]; rfl)
  have hxx := S2.at (.head _)
  have hdd := S2.at (.tail _ (.head _))
  have hne167 : x ≠ 167 := fun q => by rw [q, hD1] at hxx; cases hxx; cases hD2
  obtain ⟨hh, gg, dd', tk, os'⟩ := s₂
  dsimp only at hD1 hsub hxx hdd
  refine ks_wpAny_isType_cls hD1 hD2 ⟨rfl, ?_⟩
  refine ks_wpAny_call_super hD1 hD2 hxx rfl (by intro c q; cases q) hsub (fun h' e k => ?_)
  have S3 := S2.grown (s' := ⟨h', gg, dd', tk, os'⟩) k rfl rfl
  have Gg3 := Gg.keeps S3.kept
  have hmro3 : Looks (model prog w) h' (mroOf (.ref 167)) [.ref 167, .type "list", .type "object"] := by rw [← hmro]; exact (looks_clsIn Gg3.X hcd).andThen .now
  refine super_method e (looks_opaque Gg3.X Gg3.third) hmro3 (S3.at (.head _)) (looks_mroIn Gg3.X Gg3.sub) hne167 ?_
  have S4 := S3.new { cls := .type "method-wrapper", data := .fields #[.builtin "list.__init__", .ref x] } rfl
  refine callWith_mw (S4.at (.head _)) ?_
  refine call_mw (s := { heap := h'.push { cls := .type "method-wrapper", data := .fields #[.builtin "list.__init__", .ref x] }, gens := gg, drawn := dd', toks := tk + 1, os := os' }) (S4.at (.head _)) (S4.at (.tail _ (.head _))) ?_
  intro h'' n' hs ho
  have S5 := (S4.tok (t := tk + 1)).upd 1 rfl hs ho
  refine wpAt_of_wpAny (wpAny_execs_nil ?_)
  exact h t n' _ (fun b ob hb e => S5.keepsBut b ob hb e) ho (S5.at (.tail _ (.tail _ (.head _)))) S5.os S5.gn
end

section
variable {w : World} {A : Around} {E : Value → Shared → Prop} {s : Shared} {h : Heap} {g : Array GenState} {d : Drawn} {t : Nat} {os : OsState} {K : Frag} {R : Result → Shared → Prop}

structure MakesL (w : World) (h : Heap) : Prop where
  obj : ∃ oc od cd sl, h.get? 167 = some ⟨oc, od, .cls cd, sl⟩ ∧ cd.hasDel = false
  mro : Looks (model prog w) h (mroOf (.ref 167)) [.ref 167, .type "list", .type "object"]
  made : Looks (model prog w) h (Bind.madeBy (.ref 167)) (some "list.__new__")
  base : Looks (model prog w) h (Bind.staticBase (.ref 167)) (.ref 167)
  self : Looks (model prog w) h (isSubtype (.ref 167) (.ref 167)) true
  top : Looks (model prog w) h (isSubtype (.ref 167) (.type "list")) true
  call : Looks (model prog w) h (specialOf (.ref 167) "__call__") (some (.builtin "type.__call__"))
  typ : Looks (model prog w) h (isInstance (.ref 167) (.type "type")) true

theorem kind_list_new : builtinKind "list.__new__" = some .builtinFn := by decide +kernel
theorem split_list_new : splitId "list.__new__" = some ("list", "__new__") := by decide +kernel
theorem check_list_new (v : Value) {Q : Unit → Shared → Prop} (Y : MakesL w h) (hq : Q () ⟨h, g, d, t, os⟩) : wpAny (model prog w) A (checkBuiltinCall "list.__new__" ⟨[.ref 167, v], []⟩) Q E ⟨h, g, d, t, os⟩ := by
  obtain ⟨⟨oc, od, cd, sl, hC, e2⟩, mro, made, base, self, top, call, typ⟩ := Y
  simp only [checkBuiltinCall, kind_list_new, split_list_new]
  repeat (first | simp only [bne_self_eq_false, Bool.false_eq_true, if_false] | lk)
  exact hq

theorem codeNew (v : Value) (Y : MakesL w h) (hq : R (.ok (.ret (.ref (h.objs.size + 1)))) ⟨(h.push emptyDict).push (accObj [] 0 h.objs.size), g, d, t, os⟩) :
    codeAny (model prog w) A (.call (.builtin "list.__new__") ⟨[.ref 167, v], []⟩) R ⟨h, g, d, t, os⟩ := by
  refine codeAny_of_tree ?_
  show wpAny _ A.in1 (checkBuiltinCall "list.__new__" ⟨[.ref 167, v], []⟩ >>= fun _ => again (.builtin "list.__new__" ⟨[.ref 167, v], []⟩)) _ _ _
  refine wpAny_bind (check_list_new v Y (wpAny_pure ⟨plainId_quiet PySem.F.plain_list_new _, codeAny_builtin_stack PySem.F.entry_list_new rfl fun p st => ?_⟩))
  rw [Around.under_plainId PySem.F.plain_list_new _]
  obtain ⟨⟨oc, od, cd, sl, hC, e2⟩, mro, made, base, self, top, call, typ⟩ := Y
  have hown := owner_list_new
  simp only [hown]
  have hC1 := Heap.get?_push_of_some (accObj [] 0 h.objs.size) (Heap.get?_push_of_some emptyDict hC)
  have sz : (h.push emptyDict).objs.size = h.objs.size + 1 := Heap.size_push ..
  refine wpAny_bind (m := isType (.ref 167)) ?_
  repeat lk
  rw [show ({ cls := .ref 167, dict := some h.objs.size, data := .seq #[] } : Obj) = accObj [] 0 h.objs.size from rfl]
  rw [e2, if_neg Bool.false_ne_true]
  refine wpAny_pure (wpAny_pure ?_)
  show R (.ok (.ret (.ref (h.push emptyDict).objs.size))) _
  rw [sz]
  exact hq

theorem make_acc {fI : Addr} (v : Value) (Y : MakesL w h) (hi : Looks (model prog w) h (typeLookup (.ref 167) "__init__") (some (.ref fI)))
    (hb : ∀ self, Looks (model prog w) h (bindSpecial (.ref fI) self) (.ref fI, [self]))
    (hq : codeAny (model prog w) (A.under (.builtin "type.__call__" ⟨[.ref 167, v], []⟩)) (.call (.ref fI) ⟨[.ref (h.objs.size + 1), v], []⟩) (InitBack (h.objs.size + 1) R) ⟨(h.push emptyDict).push (accObj [] 0 h.objs.size), g, d, t, os⟩) :
    codeAny (model prog w) A (.call (.ref 167) ⟨[v], []⟩) R ⟨h, g, d, t, os⟩ := by
  have Y' := Y
  obtain ⟨⟨oc, od, cd, sl, hC, e2⟩, mro, made, base, self, top, call, typ⟩ := Y
  refine codeAny_of_tree ?_
  show wpAny _ _ (callAny (.ref 167) _) _ _ _
  refine nd_load hC ?_
  show wpAny _ _ (callAny.viaDunder (.ref 167) _) _ _ _
  unfold callAny.viaDunder
  refine wpAny_bind (call.at ?_)
  dsimp only
  rw [tc_bind]
  refine wpAny_bind (wpAny_pure (wpAny_bind (wpAny_pure ?_)))
  refine wpAny_pure (a := Fin.again (.call (.builtin "type.__call__") ⟨[.ref 167, v], []⟩)) (And.intro rfl ?_)
  refine codeAny_call_builtin_at (Code.quiet_builtin _ (by decide +kernel)) entry_typeCall (check_slot tc_kind tc_split typ (tc_args _ _ _) ?_)
  unfold Builtin.«type.__call__»
  repeat (first | simp only [Bool.false_eq_true, if_false] | with_reducible refine wpAny_call ?_ | lk)
  refine codeNew v Y' ?_
  have k : ∀ b o, h.get? b = some o → ((h.push emptyDict).push (accObj [] 0 h.objs.size)).get? b = some o := fun b o e => Heap.get?_push_of_some _ (Heap.get?_push_of_some _ e)
  have hx : ((h.push emptyDict).push (accObj [] 0 h.objs.size)).get? (h.objs.size + 1) = some (accObj [] 0 h.objs.size) := by
    have := Heap.get?_push_size (h.push emptyDict) (o := accObj [] 0 h.objs.size) rfl
    rwa [Heap.size_push] at this
  have t1 : Looks (model prog w) ((h.push emptyDict).push (accObj [] 0 h.objs.size)) (typeOf (.ref (h.objs.size + 1))) (.ref 167) := (Looks.ld hx).andThen .now
  have s1 := self.keeps k
  have i1 := hi.keeps k
  have b1 := (hb (.ref (h.objs.size + 1))).keeps k
  unfold isInstance callSpecial? specialOf
  repeat (first | with_reducible refine wpAny_call ?_ | lk)
  refine codeAny_mono hq fun r s' z => ?_
  rcases r with e | (v | _ | _ | _) <;> first | exact z | exact z.elim | skip
  obtain ⟨rfl, z⟩ := z
  exact wpAny_pure (wpAny_pure z)
end

section
variable {w : World} {A : Around} {E : Value → Shared → Prop} {s : Shared} {g g₀ : Heap} {L : Addr} {l : List (Str × Value)} {N : List (Addr × Obj)} {o : OsState} {mg mb : Str → Option Value} {K : Frag} {x dx : Addr} {xs : List Value} {n : Nat} {od : Obj}

theorem Cl.makes (C : Cl K g) (w : World) : MakesL w g := by
  obtain ⟨cd, hc, hmro, _, _, hdel⟩ := C.cd
  obtain ⟨oc, od, cd', sl, hl, hs⟩ := C.mk4
  have hcc : clsIn K 167 = some cd' := by unfold clsIn; rw [hl]
  have e : cd' = cd := by rw [hcc] at hc; exact Option.some.inj hc
  subst e
  have hm : Looks (model prog w) g (mroOf (.ref 167)) [.ref 167, .type "list", .type "object"] := by rw [← hmro]; exact (looks_clsIn C.X hc).andThen .now
  have made : Looks (model prog w) g (Bind.madeBy (.ref 167)) (some "list.__new__") := by
    intro A Q E s k q
    unfold Bind.madeBy
    refine wpAny_bind (hm A _ E s k ?_)
    rw [List.forIn_cons]
    refine wpAny_bind (wpAny_bind (wpAny_bind (wpAny_bind (wpAny_loadPart (k _ _ (C.X _ _ hl)) (wpAny_pure ?_)))))
    dsimp only
    rw [← Array.getElem?_toList, hs]
    exact wpAny_pure (wpAny_pure (wpAny_pure q))
  refine ⟨⟨oc, od, cd', sl, C.X _ _ hl, hdel⟩, hm, made, ?_, looks_mroIn C.X ?_, looks_mroIn C.X C.sub, looks_specialIn C.X C.call', looks_instIn C.X C.typ'⟩
  · intro A Q E s k q
    unfold Bind.staticBase
    refine wpAny_bind (hm A _ E s k ?_)
    rw [List.forIn_cons]
    exact wpAny_bind (wpAny_bind (wpAny_bind (made A _ E s k (wpAny_pure (wpAny_pure (wpAny_pure q))))))
  · unfold mroIn; rw [hc, Option.bind_some, hmro]; rfl

theorem make_ok {v : Value} {Q : Value → Shared → Prop} (G : Gw K mg mb g₀) (Kp : Keeps g₀ s.heap) (hd : A.depth + 10 < recursionLimit) (hg : AllBare s.gens)
    (h : ∀ x dx n t s', s.heap.get? x = none → s.heap.get? dx = none → x ≠ dx → Keeps s.heap s'.heap → s'.heap.get? x = some (accObj [] n dx) → s'.heap.get? dx = some (dOb w v t) → s'.os = s.os → AllBare s'.gens → Q (.ref x) s') :
    wpAny (model prog w) A (call (.ref 167) [v]) Q E s := by
  have G' := G.keeps Kp
  obtain ⟨hh, gg, dd, tk, os⟩ := s
  refine wpAny_call ?_
  refine make_acc v (G'.toCl.makes w) (looks_findIn G'.X G'.ini) (fun self => bind_fn G'.X self G'.ini') ?_
  have hx1 : hh.get? (hh.objs.size + 1) = none := Heap.get?_none_of_le (by walk_at "l")
  have hx2 : hh.get? hh.objs.size = none := Heap.get?_none_of_le (Nat.le_refl _)
  have k2 : Keeps hh ((hh.push emptyDict).push (accObj [] 0 hh.objs.size)) := fun b o e => Heap.get?_push_of_some _ (Heap.get?_push_of_some _ e)
  have gn : ∀ a, hh.get? a = none → g₀.get? a = none := fun a ha => by
    cases e : g₀.get? a with
    | none => rfl
    | some ob => rw [Kp _ _ e] at ha; cases ha
  refine init_code (n := 0) (x := hh.objs.size + 1) (dx := hh.objs.size) G (Kp.trans k2) (gn _ hx1) (gn _ hx2) (Nat.succ_ne_self _) (by rw [depth_under_make]; lia) hg ?_ ?_ ?_
  · have := Heap.get?_push_size (hh.push emptyDict) (o := accObj [] 0 hh.objs.size) rfl
    rwa [Heap.size_push] at this
  · exact Heap.get?_push_of_some _ (Heap.get?_push_size _ rfl)
  · intro t n' s' q1 q2 q3 q4 q5
    refine ⟨rfl, h _ _ _ _ _ hx1 hx2 (Nat.succ_ne_self _) (fun b ob e => q1 b ob (fun hm => ?_) (k2 b ob e)) q2 q3 q4 q5⟩
    rcases List.mem_cons.mp hm with q | q
    · rw [q] at e; rw [show hh.get? (hh.objs.size + 1) = some ob from e] at hx1; cases hx1
    · rw [List.mem_singleton.mp q] at e; rw [show hh.get? hh.objs.size = some ob from e] at hx2; cases hx2
end

section
variable {w : World} {A : Around} {E : Value → Shared → Prop} {s : Shared} {g g₀ : Heap} {L : Addr} {l : List (Str × Value)} {N : List (Addr × Obj)} {o : OsState} {mg mb : Str → Option Value} {K : Frag} {x dx : Addr} {xs : List Value} {n : Nat} {od : Obj}
theorem kind_list_si : builtinKind "list.__setitem__" = some .slot := by decide +kernel
theorem split_list_si : splitId "list.__setitem__" = some ("list", "__setitem__") := by decide +kernel
noncomputable def sliceObj : Obj := { cls := .type "slice", data := .fields #[.none, .none, .none] }
theorem ss_acc {sl v : Addr} {ys : List Value} {m : Nat} {Q : Unit → Shared → Prop} (C : Cl K g) (hseq : (seqItemTypes.all fun n => subIn K (.ref 167) (.type n) == some false) = true) (S : St g L l N o s) (i : Nat) (hi : N[i]? = some (x, accObj xs n dx)) (hd : s.heap.get? dx = some od)
    (hsl : s.heap.get? sl = some sliceObj) (hv : s.heap.get? v = some (seqObj "list" ys.toArray m)) (hne : x ≠ v) (hz1 : xs.length ≤ 1000) (hz2 : ys.length ≤ 1000)
    (h : ∀ n' s', St g L l (N.set i (x, accObj ys n' dx)) o s' → Q () s') : wpAny (model prog w) A (setItem (.ref x) (.ref sl) (.ref v)) Q E s := by
  have C' := C.keeps S.kept
  have ho := S.at (List.mem_of_getElem? hi)
  have a : AccAt s.heap x xs n dx od := ⟨ho, hd⟩
  have I := a.inst
  unfold setItem
  refine wpAny_holding ?_
  have hk : ∀ (Q' : Value → Shared → Prop) E', Q' (.ref sl) s → wpAny (model prog w) A (sequenceKey (.ref x) (.ref sl) "__setitem__") Q' E' s := fun Q' E' hq => by
    unfold sequenceKey
    refine wpAny_bind (I.type.here ?_)
    refine wpAny_bind ((anyM_none (M := model prog w) C'.X hseq).here ?_)
    exact wpAny_pure hq
  refine wpAny_bind (hk _ _ ?_)
  unfold callSpecial? specialOf
  refine wpAny_bind (wpAny_bind (wpAny_bind (I.type.here ((looks_findIn C'.X C'.sit).here (wpAny_holding ?_)))))
  rw [slot_list_setitem.bind]
  refine wpAny_bind (wpAny_pure (wpAny_bind ?_))
  show wpAny _ _ (call (.builtin "list.__setitem__") [.ref x, .ref sl, .ref v]) _ _ _
  refine acc_call C' a (.inl kind_list_si) split_list_si slot_list_setitem.plain entry_list_setitem (args_list_setitem _ _ _) ?_
  show wpAny _ _ (Builtin.List.listSubscript? (.ref sl) >>= _) _ _ s
  have hS := fun n' h' hs hoo => h n' _ (S.upd (h' := h') (ob' := accObj ys n' dx) i hi hs hoo)
  clear h S
  have hT : s.TypeIs (.ref sl) "slice" := ⟨_, hsl, rfl⟩
  refine wpAny_bind ?_
  unfold Builtin.List.listSubscript?
  refine wpAny_bind (wpAny_specialOf hT (show typeLookup (.type "slice") "__index__" = pure none by rw [typeLookup_type, builtinLookup_eq_fast]; kernel_rfl) ?_)
  refine wpAny_pure ?_
  refine wpAny_bind (wpAny_typeOf hT ?_)
  first | refine wI_neg (by decide) ?_ | rw [if_neg (by decide)]
  refine wpAny_bind (m := Builtin.List.listSliceParts (.ref sl)) ?_
  have f0 := looks_field (M := model prog w) hsl 0 (v := .none) rfl
  have f1 := looks_field (M := model prog w) hsl 1 (v := .none) rfl
  have f2 := looks_field (M := model prog w) hsl 2 (v := .none) rfl
  obtain ⟨hh, gg, dd, tk, os⟩ := s
  dsimp only at f0 f1 f2
  unfold Builtin.List.listSliceParts
  refine wpAny_bind (f2.at (wpAny_bind ?_))
  refine wpAny_of_eq (a := Value.none) rfl ?_
  first | refine wI_neg (by decide) ?_ | rw [if_neg (by decide)]
  refine wpAny_bind (f0.at (wpAny_bind (wpAny_of_eq (a := Value.none) rfl (wpAny_bind (f1.at (wpAny_bind (wpAny_of_eq (a := Value.none) rfl (wpAny_pure ?_))))))))
  dsimp only
  first | refine wI_neg (by simp [Builtin.List.listSameRef, hne]) ?_ | rw [if_neg (by simp [Builtin.List.listSameRef, hne])]
  unfold Builtin.List.listAllItems
  have hTv : (⟨hh, gg, dd, tk, os⟩ : Shared).TypeIs (.ref v) "list" := ⟨_, hv, rfl⟩
  refine wpAny_bind (wpAny_bind (wpAny_typeOf hTv ?_))
  first | refine wI_pos (by decide) ?_ | rw [if_pos (by decide)]
  refine listItems_at hv rfl ?_
  refine wpAny_bind (listItems_at ho rfl ?_)
  refine wpAny_bind (wpAny_of_eq (a := ((0 : Int), (xs.toArray.size : Int), (1 : Int))) rfl ?_)
  dsimp only
  first | refine wI_pos (by decide) ?_ | rw [if_pos (by decide)]
  refine wpAny_bind (wpAny_rule ?_)
  first | refine wI_neg (by simp [Builtin.List.listTooLong, sizeLine_eq]; exact Nat.le_trans (Nat.add_le_add hz1 hz2) (by decide)) ?_ | rw [if_neg (by simp [Builtin.List.listTooLong, sizeLine_eq]; exact Nat.le_trans (Nat.add_le_add hz1 hz2) (by decide))]
  have e5 : (fun zs : Array Value => zs.extract 0 (Int.toNat 0) ++ ys.toArray ++ zs.extract (max 0 (xs.toArray.size : Int)).toNat) xs.toArray = ys.toArray := by simp
  refine wpAny_bind (m := updateSeq x _) (wpAny_updateSeq ho rfl ?_ ?_ (Nat.le_trans (Nat.le_of_eq (congrArg Array.size e5)) (by rw [sizeLine_eq]; simp; exact Nat.le_trans hz2 (by decide))))
  · obtain ⟨k, e⟩ : ∃ k, Obj.mapSeq (fun zs => zs.extract 0 (Int.toNat 0) ++ ys.toArray ++ zs.extract (max 0 (xs.toArray.size : Int)).toNat) (accObj xs n dx) = accObj ys k dx := by
      have e2 : (max 0 (xs.toArray.size : Int)).toNat = xs.length := by simp
      rw [e2]
      have e3 : xs.toArray.extract 0 (Int.toNat 0) ++ ys.toArray ++ xs.toArray.extract xs.length = ys.toArray := by simp
      have e4 : ∀ f : Array Value → Array Value, f xs.toArray = ys.toArray → ∃ k, Obj.mapSeq f (accObj xs n dx) = accObj ys k dx := fun f hf => by
        unfold Obj.mapSeq accObj
        dsimp only
        rw [hf]
        exact ⟨_, rfl⟩
      exact e4 _ e3
    refine wpAny_bind (wpAny_letGo (wpAny_pure ⟨_, rfl, wpAny_pure (wpAny_pure (hS k _ (Heap.SameBut.update ..) ?_))⟩))
    exact (Heap.get?_update_self _ ho (by rw [e]; rfl)).trans (congrArg some e)
  · rw [sizeLine_eq]; simp; exact Nat.le_trans hz1 (by decide)

theorem wpAny_Slice_none {env : Env} {pos : Pos} {Q : Value → Shared → Prop} (S : St g L l N o s) (h : ∀ a s', St g L l ((a, sliceObj) :: N) o s' → Q (.ref a) s') : wpAny (model prog w) A (eval (.Slice none none none pos) env) Q E s := by
  rw [arm_eval_Slice]
  refine wpAny_bind (wpAny_pure (wpAny_bind (wpAny_holding (wpAny_pure (wpAny_bind (wpAny_holding (wpAny_pure ?_)))))))
  exact t_new (T := "slice") S rfl fun a s' S' => h a s' S'
theorem reset_ok {v : Addr} {ys : List Value} {m : Nat} {u : Value} {t₀ : Tok} {Q : Value → Shared → Prop} (G : Gw K mg mb g₀) (Kp : Keeps g₀ s.heap) (hx0 : g₀.get? x = none) (hd0 : g₀.get? dx = none) (hne : x ≠ dx) (hd : A.depth + 5 < recursionLimit) (hg : AllBare s.gens)
    (hx : s.heap.get? x = some (accObj xs n dx)) (hdx : s.heap.get? dx = some (dOb w u t₀)) (hv : s.heap.get? v = some (seqObj "list" ys.toArray m)) (hz1 : xs.length ≤ 1000) (hz2 : ys.length ≤ 1000)
    (h : ∀ t t' n' s', KeepsBut [x, dx] s.heap s'.heap → s'.heap.get? x = some (accObj ys n' dx) → s'.heap.get? dx = some (dOb w (.int 0 t') t) → s'.os = s.os → AllBare s'.gens → Q .none s') :
    wpAny (model prog w) A (call (.ref 150) [.ref x, .ref v]) Q E s := by
  have Kg : Keeps g₀ (hideAll s.heap [x, dx]) := Kp.hide (by intro a ha; simp at ha; rcases ha with rfl | rfl; exact hx0; exact hd0)
  have Gg := G.keeps Kg
  have hvx : v ≠ x := fun q => by rw [q, hx] at hv; cases hv
  have hvd : v ≠ dx := fun q => by rw [q, hdx] at hv; have := congrArg (fun o : Option Obj => o.map (·.cls)) hv; exact absurd (Option.some.inj this) (by show ¬ (Value.type "dict" = Value.type "list"); decide)
  obtain ⟨_, _, e1, e2⟩ := G.d143
  refine call_fn (N := [(x, accObj xs n dx), (dx, dOb w u t₀)]) (binds := [(Str.ofString "self", .ref x), (Str.ofString "startval", .ref v)]) G.lim Kp G.f150 (by walk_at "l")
    (by intro q hq; simp at hq; rcases hq with rfl | rfl; exact hx; exact hdx) hg rfl (.of_defaults rfl (Kp _ _ e1) e2 rfl rfl) rfl rfl (by simpa using hne) ?_
  intro L s₁ S
  walk_at "put"
  repeat (walk_at "w")
  refine wpAny_Slice_none S ?_
  intro sl s₂ S
  refine ss_acc (od := dOb w u t₀) Gg.toCl Gg.seqs S 1 rfl (S.at (.tail _ (.tail _ (.head _)))) (S.at (.head _)) (S.kept _ _ (hideAll_get _ hv (by simp [hvx, hvd]))) hvx.symm hz1 hz2 ?_
  intro n' s₃ S
  refine x_cons (plainObj_wpAny_Assign_Attribute ?_)
  repeat (walk_at "1")
  rename St _ _ _ _ _ _ => S
  refine sa_acc (es₀ := [⟨_, _, _⟩]) Gg.toCl S ⟨S.at (.tail _ (.head _)), S.at (.tail _ (.tail _ (.head _)))⟩ 2 rfl Gg.ini2 rfl rfl (by simp) ?_
  intro t s₄ S
  repeat (walk_at "1")
  exact h _ _ _ _ (fun b ob hb e => S.keepsBut b ob hb e) (S.at (.tail _ (.head _))) (S.at (.tail _ (.tail _ (.head _)))) S.os S.gn
end

noncomputable def SortedBy (L : Nat → Nat → Bool) (vs out : List Value) : Prop :=
  ∃ σ : Nat → Nat, An4 (out.length = vs.length) (∀ k, k < vs.length → σ k < vs.length) (∀ k, k < vs.length → out[k]? = vs[σ k]?) (SortT L σ vs.length)
noncomputable def flp (b : Bool) (L : Nat → Nat → Bool) : Nat → Nat → Bool := if b then fun i j => L j i else L

theorem WO.flip {n : Nat} {L : Nat → Nat → Bool} (W : WO n L) : WO n (fun i j => L j i) :=
  ⟨W.irr, fun i j k hi hj hk h1 h2 => W.tr k j i hk hj hi h2 h1, fun i j k hi hj hk h => (W.neg k j i hk hj hi h).symm⟩
theorem WO.mirror {n : Nat} {L : Nat → Nat → Bool} (W : WO n L) : WO n (fun i j => L (n - 1 - i) (n - 1 - j)) :=
  ⟨fun i hi => W.irr _ (cnt1 hi), fun i j k hi hj hk h1 h2 => W.tr _ _ _ (cnt1 hi) (cnt1 hj) (cnt1 hk) h1 h2, fun i j k hi hj hk h => W.neg _ _ _ (cnt1 hi) (cnt1 hj) (cnt1 hk) h⟩
theorem SortedBy.self (L : Nat → Nat → Bool) (vs : List Value) (h : vs.length < 2) : SortedBy L vs vs := ⟨id, rfl, fun _ h => h, fun _ _ => rfl, fun i j hij hj => by walk_at "l"⟩

section
variable {w : World} {A : Around} {E : Value → Shared → Prop} {s : Shared} {L : Nat → Nat → Bool}

theorem sort_core {b : Bool} {kind : SortKind} {keys vs : List Value} {Q : Unit × SortSt → Shared → Prop} (hl : keys.length = vs.length) (h64 : vs.length < 64) (W : WO vs.length L)
    (hkind : 2 ≤ vs.length → ∀ (Q : SortKind → Shared → Prop) (E : Value → Shared → Prop), Q kind s → wpAny (model prog w) A (keyKind' keys.toArray) Q E s)
    (HK : ∀ i j x y, keys[i]? = some x → keys[j]? = some y → ∀ (E : Value → Shared → Prop) (Q : Bool → Shared → Prop), Q (L i j) s → wpAny (model prog w) A (keyLt' kind x y) Q E s)
    (h : ∀ st (out : List Value), failedOf st = none → (if b then ((arrOf st).map (·.2)).reverse else (arrOf st).map (·.2)) = out.toArray → SortedBy (flp b L) vs out → Q ((), st) s) :
    wpAny (model prog w) A (if vs.toArray.size < 2 then pure general' else keyKind' keys.toArray) (fun kind s' => wpAny (model prog w) A ((if vs.toArray.size < 2 then pure () else sortRuns').run (SortSt.mk' kind (if b then (keys.toArray.zip vs.toArray).reverse else keys.toArray.zip vs.toArray) #[] 7 none)) Q E s') E s := by
  have hz : (keys.toArray.zip vs.toArray).size = vs.length := by simp [hl]
  have hmap : ((keys.toArray.zip vs.toArray).map (·.2)) = vs.toArray := by
    apply Array.ext'
    simp only [Array.toList_map, Array.toList_zip]
    rw [List.map_snd_zip]
    simp [hl]
  by_cases h2 : vs.toArray.size < 2
  · rw [if_pos h2]
    refine wpAny_pure ?_
    rw [if_pos h2, StateT.run_pure]
    refine wpAny_pure (h _ vs rfl ?_ (SortedBy.self _ _ (by simpa using h2)))
    have hlen : vs.length < 2 := by simpa using h2
    cases b with
    | false => exact hmap
    | true =>
      show (((keys.toArray.zip vs.toArray).reverse).map (·.2)).reverse = _
      rw [Array.map_reverse, Array.reverse_reverse]; exact hmap
  · have hn2 : 2 ≤ vs.length := by simp at h2; lia
    first | refine wI_neg h2 ?_ | rw [if_neg h2]
    refine hkind hn2 _ _ ?_
    first | refine wI_neg h2 ?_ | rw [if_neg h2]
    have geta : ∀ i x p, (keys.toArray.zip vs.toArray)[i]? = some (x, p) → keys[i]? = some x ∧ vs[i]? = some p := fun i x p e => by
      rw [Array.getElem?_zip_eq_some] at e
      simpa using e
    cases b with
    | false =>
      first | refine wI_neg (by decide) ?_ | simp only [Bool.false_eq_true, if_false]
      refine wpAny_mono (s_runs (a₀ := keys.toArray.zip vs.toArray) (st := SortSt.mk' kind (keys.toArray.zip vs.toArray) #[] 7 none) (kind := kind) (L := L) (E := E) (Q := fun _ st => Q ((), st) s) (hz ▸ W) ?_
        ⟨rfl, fun k hk => rfl, fun k hk => hk, fun i j _ _ e => e, rfl, rfl, rfl⟩ (by rw [hz]; exact hn2) (by rw [hz]; exact h64) ?_) (fun r s' hq => ?_) fun _ _ e => e
      · intro i j x y p q hx hy E' Q' hq
        exact HK i j x y (geta _ _ _ hx).1 (geta _ _ _ hy).1 E' Q' hq
      · intro σ' st' hf hs' harr hlt hS
        rw [hz] at hs' harr hlt hS
        refine h st' ((arrOf st').map (·.2)).toList hf (by simp only [Bool.false_eq_true, if_false, Array.toArray_toList]) ⟨σ', by simp [hs'], hlt, fun k hk => ?_, hS⟩
        rw [Array.getElem?_toList, Array.getElem?_map, harr k hk, ← Array.getElem?_map, hmap]
        simp
      · obtain ⟨rfl, hq⟩ := hq; exact hq
    | true =>
      first | refine wI_pos rfl ?_ | simp only [if_true]
      have hz' : (keys.toArray.zip vs.toArray).reverse.size = vs.length := by rw [Array.size_reverse, hz]
      have rev : ∀ i, i < vs.length → (keys.toArray.zip vs.toArray).reverse[i]? = (keys.toArray.zip vs.toArray)[vs.length - 1 - i]? := fun i hi => by
        rw [Array.getElem?_reverse (by rw [hz]; exact hi), hz]
      refine wpAny_mono (s_runs (a₀ := (keys.toArray.zip vs.toArray).reverse) (st := SortSt.mk' kind (keys.toArray.zip vs.toArray).reverse #[] 7 none) (kind := kind) (L := fun i j => L (vs.length - 1 - i) (vs.length - 1 - j)) (E := E) (Q := fun _ st => Q ((), st) s) (hz' ▸ W.mirror) ?_
        ⟨rfl, fun k hk => rfl, fun k hk => hk, fun i j _ _ e => e, rfl, rfl, rfl⟩ (by rw [hz']; exact hn2) (by rw [hz']; exact h64) ?_) (fun r s' hq => ?_) fun _ _ e => e
      · intro i j x y p q hx hy E' Q' hq
        have hi : i < vs.length := by obtain ⟨q, _⟩ := Array.getElem?_eq_some_iff.mp hx; rwa [hz'] at q
        have hj : j < vs.length := by obtain ⟨q, _⟩ := Array.getElem?_eq_some_iff.mp hy; rwa [hz'] at q
        rw [rev i hi] at hx
        rw [rev j hj] at hy
        exact HK _ _ x y (geta _ _ _ hx).1 (geta _ _ _ hy).1 E' Q' hq
      · intro σ' st' hf hs' harr hlt hS
        rw [hz'] at hs' harr hlt hS
        refine h st' (((arrOf st').map (·.2)).reverse).toList hf (by simp only [if_true, Array.toArray_toList]) ⟨fun k => vs.length - 1 - σ' (vs.length - 1 - k), by simp [hs'], fun k hk => top_lt hn2, fun k hk => ?_, fun i j hij hj => ?_⟩
        · have hk' : vs.length - 1 - k < vs.length := cnt1 hk
          rw [Array.getElem?_toList, Array.getElem?_reverse (by simp [hs']; exact hk), Array.getElem?_map, show ((arrOf st').map (·.2)).size - 1 - k = vs.length - 1 - k by simp [hs'], harr _ hk', rev _ (hlt _ hk'), ← Array.getElem?_map, hmap]
          simp
        · have h1 := hS (vs.length - 1 - j) (vs.length - 1 - i) (cnt2 hij hj) (cnt1 (Nat.lt_trans hij hj))
          have l1 := hlt (vs.length - 1 - i) (cnt1 (Nat.lt_trans hij hj))
          have l2 := hlt (vs.length - 1 - j) (cnt1 hj)
          unfold flp TT
          first | refine wI_pos rfl ?_ | simp only [if_true]
          rcases h1 with h1 | ⟨h1, h3⟩
          · exact .inl h1
          · exact .inr ⟨h1, cnt2 h3 l1⟩
      · obtain ⟨rfl, hq⟩ := hq; exact hq
end

noncomputable def pTail (a : Addr) (b : Bool) (items : Array Value) (before : Nat) : Sem PySem.Fin := do
  if b then rule "list.sort.reverse"
  let kind ← if items.size < 2 then pure general' else keyKind' items
  let ((), s) ← (if items.size < 2 then pure () else sortRuns').run (SortSt.mk' kind (if b then (items.zip items).reverse else items.zip items) #[] 7 none)
  let sorted := (arrOf s).map (·.2)
  let touched := (← seqEpoch a) != before
  Builtin.List.listUpdate (.ref a) fun _ => if b then sorted.reverse else sorted
  if let some e := failedOf s then rule "list.sort.comparison-raised"; throw e
  if touched then rule "list.sort.modified"; raiseError "ValueError" "list modified during sort"
  ret .none
noncomputable def pTree (a : Addr) (b : Bool) : Sem PySem.Fin := do
  let items ← Builtin.List.listItems (.ref a)
  Builtin.List.listUpdate (.ref a) fun _ => #[]
  let before ← seqEpoch a
  let held ← newTuple items.toList
  let keyStore ← newList []
  holding [held, keyStore] (pTail a b items before)
theorem pt0 (a : Addr) : Builtin.«list.sort» ⟨[.ref a], []⟩ = pTree a false := rfl
theorem pt1 (a : Addr) (b : Bool) : Builtin.«list.sort» ⟨[.ref a], [(Str.ofString "reverse", .bool b)]⟩ = pTree a b := rfl
theorem pt2 (a : Addr) : Builtin.«list.sort» ⟨[.ref a], [(Str.ofString "key", .none)]⟩ = pTree a false := rfl
theorem pt3 (a : Addr) (b : Bool) : Builtin.«list.sort» ⟨[.ref a], [(Str.ofString "key", .none), (Str.ofString "reverse", .bool b)]⟩ = pTree a b := rfl

section
variable {w : World} {A : Around} {E : Value → Shared → Prop} {s : Shared} {g g₀ : Heap} {L : Addr} {l : List (Str × Value)} {N : List (Addr × Obj)} {o : OsState} {Lt : Nat → Nat → Bool}

theorem t_items {a : Addr} {c : String} {xs : List Value} {e : Nat} {Q : Array Value → Shared → Prop} (S : St g L l N o s) (i : Nat) (hi : N[i]? = some (a, seqObj c xs.toArray e)) (h : Q xs.toArray s) : wpAny (model prog w) A (Builtin.List.listItems (.ref a)) Q E s :=
  listItems_at (S.at (List.mem_of_getElem? hi)) rfl h
theorem t_update {a : Addr} {c : String} {xs ys : List Value} {e : Nat} {f : Array Value → Array Value} {Q : Unit → Shared → Prop} (S : St g L l N o s) (i : Nat) (hi : N[i]? = some (a, seqObj c xs.toArray e)) (hf : f xs.toArray = ys.toArray) (hz : xs.length ≤ 1000) (hz2 : ys.length ≤ 1000)
    (h : ∀ e' s', St g L l (N.set i (a, seqObj c ys.toArray e')) o s' → Q () s') : wpAny (model prog w) A (Builtin.List.listUpdate (.ref a) f) Q E s := by
  have ho := S.at (List.mem_of_getElem? hi)
  have ho' := get?_update_seq ho f
  rw [hf] at ho'
  exact listUpdate_at ho rfl (h _ _ (S.upd i hi (Heap.SameBut.update ..) ho')) (by rw [sizeLine_eq]; simp; lia) (by rw [hf, sizeLine_eq]; simp; lia)
theorem wpAny_ifBind {α β : Type} {c : Prop} [Decidable c] {x y : Sem α} {k : α → Sem β} {Q : β → Shared → Prop} (h : wpAny (model prog w) A (if c then x else y) (fun a s' => wpAny (model prog w) A (k a) Q E s') E s) : wpAny (model prog w) A (if c then x >>= k else y >>= k) Q E s := by
  by_cases hc : c
  · rw [if_pos hc] at h ⊢; exact wpAny_bind h
  · rw [if_neg hc] at h ⊢; exact wpAny_bind h
theorem t_epoch {a : Addr} {c : String} {xs : List Value} {e : Nat} {Q : Nat → Shared → Prop} (S : St g L l N o s) (i : Nat) (hi : N[i]? = some (a, seqObj c xs.toArray e)) (h : Q e s) : wpAny (model prog w) A (seqEpoch a) Q E s :=
  seqEpoch_at (S.at (List.mem_of_getElem? hi)) rfl h

theorem sort_plain {b : Bool} {kind : SortKind} {a : Addr} {e m : Nat} {vs : List Value} {P : Fin → Shared → Prop} (S : St g L l N o s) (i : Nat) (hi : N[i]? = some (a, seqObj "list" vs.toArray e)) (h64 : vs.length < 64) (hu : A.units + m < cLine) (W : WO vs.length Lt)
    (hkind : 2 ≤ vs.length → Ans w g m (keyKind' vs.toArray) kind) (HK : ∀ i j x y, vs[i]? = some x → vs[j]? = some y → Ans w g m (keyLt' kind x y) (Lt i j))
    (h : ∀ out e' s', SortedBy (flp b Lt) vs out → St g L l (N.set i (a, seqObj "list" out.toArray e')) o s' → P (.done (.ret .none)) s') : wpAny (model prog w) A (pTree a b) P E s := by
  obtain ⟨hlt, he⟩ := List.getElem?_eq_some_iff.mp hi
  unfold pTree
  refine wpAny_bind (t_items S i hi ?_)
  refine wpAny_bind (t_update (ys := []) S i hi rfl (by walk_at "l") (by simp) ?_)
  intro e1 s1 S1
  have hi1 : (N.set i (a, seqObj "list" ([] : List Value).toArray e1))[i]? = some (a, seqObj "list" ([] : List Value).toArray e1) := List.getElem?_set_self hlt
  refine wpAny_bind (t_epoch S1 i hi1 ?_)
  refine wpAny_bind (t_new (T := "tuple") S1 rfl (fun a1 s2 S2 => ?_) (by size_fits))
  refine wpAny_bind (t_new (T := "list") S2 rfl (fun a2 s3 S3 => ?_) (by size_fits))
  refine wpAny_holding ?_
  unfold pTail
  have body : ∀ s4, St g L l ((a2, { cls := .type "list", data := .seq ([] : List Value).toArray }) :: (a1, { cls := .type "tuple", data := .seq vs.toArray.toList.toArray }) :: N.set i (a, seqObj "list" ([] : List Value).toArray e1)) o s4 →
      wpAny (model prog w) A (do
        let kind ← if vs.toArray.size < 2 then pure general' else keyKind' vs.toArray
        let ((), s) ← (if vs.toArray.size < 2 then pure () else sortRuns').run (SortSt.mk' kind (if b then (vs.toArray.zip vs.toArray).reverse else vs.toArray.zip vs.toArray) #[] 7 none)
        let sorted := (arrOf s).map (·.2)
        let touched := (← seqEpoch a) != e1
        Builtin.List.listUpdate (.ref a) fun _ => if b then sorted.reverse else sorted
        if let some e := failedOf s then rule "list.sort.comparison-raised"; throw e
        if touched then rule "list.sort.modified"; raiseError "ValueError" "list modified during sort"
        ret .none) P E s4 := by
    intro s4 S4
    dsimp only
    refine wpAny_ifBind (wpAny_mono (sort_core (b := b) (kind := kind) (keys := vs) (vs := vs) rfl h64 W (fun h2 Q E hq => hkind h2 _ _ _ _ hu S4.kept hq) (fun p q x y hx hy E' Q' hq => HK p q x y hx hy _ _ _ _ hu S4.kept hq)
      (Q := fun r s' => s' = s4 ∧ ∃ out : List Value, failedOf r.2 = none ∧ (if b then ((arrOf r.2).map (·.2)).reverse else (arrOf r.2).map (·.2)) = out.toArray ∧ SortedBy (flp b Lt) vs out) fun st out h1 h2 h3 => ⟨rfl, out, h1, h2, h3⟩) (fun kd s5 hs5 => ?_) fun _ _ x => x)
    refine wpAny_bind (wpAny_mono hs5 (fun r s6 hr => ?_) fun _ _ x => x)
    obtain ⟨rfl, out, hf, hout, hsb⟩ := hr
    obtain ⟨⟨⟩, st⟩ := r
    dsimp only at hf hout ⊢
    refine wpAny_bind (t_epoch S4 (i + 2) (by simpa using hi1) ?_)
    rw [hout]
    refine wpAny_bind (t_update (ys := out) S4 (i + 2) (by simpa using hi1) rfl (by simp) (by obtain ⟨_, h1, _⟩ := hsb; lia) ?_)
    intro e6 s7 S7
    rw [hf]
    simp only [bne_self_eq_false, Bool.false_eq_true, if_false]
    refine wpAny_pure (h out e6 s7 hsb (S7.less ?_))
    simp only [List.set_cons_succ, List.set_set]
    exact .cons _ (.cons _ (.refl _))
  cases b with
  | false => exact body s3 S3
  | true => exact wpAny_bind (wpAny_rule (body s3 S3))
end

noncomputable def KeyOk (w : World) (g : Heap) (f : Value) (al : Addr) (kf : Value → Int) (P : Value → Prop) : Prop :=
  ∀ (x : Value) (asked : List Value) (e : Nat) (A : Around) (E : Value → Shared → Prop) (Q : Value → Shared → Prop) (s : Shared), P x → A.handled = none → A.depth + 10 < recursionLimit → A.units + 40 < cLine → Keeps g s.heap →
    s.heap.get? al = some (seqObj "list" asked.toArray e) → asked.length ≤ 500 → AllBare s.gens →
    (∀ t e' s', KeepsBut [al] s.heap s'.heap → s'.heap.get? al = some (seqObj "list" (asked ++ [x]).toArray e') → s'.os = s.os → AllBare s'.gens → Q (.int (kf x) t) s') → wpAny (model prog w) A (call f [x]) Q E s
theorem KeyOk.keeps {w : World} {g g' : Heap} {f : Value} {al : Addr} {kf : Value → Int} {P : Value → Prop} (C : KeyOk w g f al kf P) (k : Keeps g g') : KeyOk w g' f al kf P :=
  fun x asked e A E Q s h1 h2 h3 h4 h5 h6 h7 h8 h => C x asked e A E Q s h1 h2 h3 h4 (k.trans h5) h6 h7 h8 h
noncomputable def kLt (kf : Value → Int) (vs : List Value) : Nat → Nat → Bool := fun i j => decide (kf (vs.getD i .none) < kf (vs.getD j .none))
theorem kLt_wo (kf : Value → Int) (vs : List Value) (n : Nat) : WO n (kLt kf vs) :=
  ⟨fun i _ => by simp [kLt], fun i j k _ _ _ h1 h2 => by simp [kLt] at *; lia, fun i j k _ _ _ h => by simp [kLt] at *; lia⟩

section
variable {w : World} {A : Around} {E : Value → Shared → Prop} {s : Shared} {g g₀ : Heap} {L : Addr} {l : List (Str × Value)} {N : List (Addr × Obj)} {o : OsState}

theorem intsAre_getElem {vs : List Value} {ns : List Int} (h : IntsAre vs ns) : ∀ (i : Nat) (x : Value), vs[i]? = some x → ∃ n t, ns[i]? = some n ∧ x = Value.int n t := by
  induction h with
  | nil => intro i x hx; simp at hx
  | cons n t h ih =>
    intro i x hx
    cases i with
    | zero => simp at hx; exact ⟨n, t, rfl, hx.symm⟩
    | succ i => simpa using ih i x (by simpa using hx)

theorem sort_keyed {b : Bool} {f : Value} {al a : Addr} {e ea : Nat} {kf : Value → Int} {Pv : Value → Prop} {vs asked : List Value} {P : Fin → Shared → Prop} (S : St g L l N o s) (i j : Nat) (hij : i ≠ j) (hi : N[i]? = some (a, seqObj "list" vs.toArray e))
    (hj : N[j]? = some (al, seqObj "list" asked.toArray ea)) (h64 : vs.length < 64) (hz : asked.length + vs.length ≤ 500) (hh : A.handled = none) (hd : A.depth + 10 < recursionLimit) (hu : A.units + 40 < cLine) (C : KeyOk w g f al kf Pv) (hP : ∀ x ∈ vs, Pv x)
    (h : ∀ out e' e'' s', SortedBy (flp b (kLt kf vs)) vs out → St g L l ((N.set i (a, seqObj "list" out.toArray e')).set j (al, seqObj "list" (asked ++ vs).toArray e'')) o s' → P (.done (.ret .none)) s') : wpAny (model prog w) A (ksk_tree a f b) P E s := by
  obtain ⟨hlt, he⟩ := List.getElem?_eq_some_iff.mp hi
  obtain ⟨hltj, hej⟩ := List.getElem?_eq_some_iff.mp hj
  unfold ksk_tree
  refine wpAny_bind (t_items S i hi ?_)
  refine wpAny_bind (t_update (ys := []) S i hi rfl (by walk_at "l") (by simp) ?_)
  intro e1 s1 S1
  have hi1 : (N.set i (a, seqObj "list" ([] : List Value).toArray e1))[i]? = some (a, seqObj "list" ([] : List Value).toArray e1) := List.getElem?_set_self hlt
  refine wpAny_bind (t_epoch S1 i hi1 ?_)
  refine wpAny_bind (t_new (T := "tuple") S1 rfl (fun a1 s2 S2 => ?_) (by size_fits))
  refine wpAny_bind (t_new (T := "list") S2 rfl (fun kS s3 S3 => ?_) (by size_fits))
  refine wpAny_holding ?_
  unfold ksk_rest
  refine wpAny_bind (wpAny_rule ?_)
  rw [List.forIn_toArray]
  have S3' : St g L l ((kS, seqObj "list" ([] : List Value).toArray 0) :: (N.set i (a, seqObj "list" ([] : List Value).toArray e1))) o s3 := S3.less (.cons_cons _ (.cons _ (.refl _)))
  refine wpAny_bind (ksk_fold (fun k s' => ∃ (keys : List Value) (e2 e3 : Nat), St g L l ((kS, seqObj "list" keys.toArray e2) :: ((N.set i (a, seqObj "list" ([] : List Value).toArray e1)).set j (al, seqObj "list" (asked ++ vs.take k).toArray e3))) o s' ∧ IntsAre keys ((vs.take k).map kf) ∧ k ≤ vs.length) vs 0 s3 ⟨[], 0, ea, ?_, .nil, Nat.zero_le _⟩ ?_ ?_)
  · have e0 : (N.set i (a, seqObj "list" ([] : List Value).toArray e1)).set j (al, seqObj "list" (asked ++ vs.take 0).toArray ea) = N.set i (a, seqObj "list" ([] : List Value).toArray e1) := by
      apply List.ext_getElem?
      intro k
      by_cases hk : j = k
      · subst hk
        rw [List.getElem?_set_self (by simpa using hltj), List.getElem?_set_ne hij, hj]; simp
      · rw [List.getElem?_set_ne hk]
    rw [e0]; exact S3'
  · rintro k x s' hx ⟨keys, e2, e3, S4, hI, hk⟩
    simp only [Nat.zero_add] at *
    have hkl : k < vs.length := (List.getElem?_eq_some_iff.mp hx).1
    have hjj : ((kS, seqObj "list" keys.toArray e2) :: ((N.set i (a, seqObj "list" ([] : List Value).toArray e1)).set j (al, seqObj "list" (asked ++ vs.take k).toArray e3)))[j + 1]? = some (al, seqObj "list" (asked ++ vs.take k).toArray e3) := by
      rw [List.getElem?_cons_succ, List.getElem?_set_self (by simpa using hltj)]
    refine wpAny_bind (wpAny_attempt (C x (asked ++ vs.take k) e3 A _ _ s' (hP _ (List.mem_of_getElem? hx)) hh hd hu S4.kept (S4.at (List.mem_of_getElem? hjj)) (by simp; lia) S4.gn ?_))
    intro t e4 s5 k1 k2 k3 k4
    have S5 := S4.turnBut (j + 1) hjj k1 k2 k3 k4
    have et : asked ++ vs.take k ++ [x] = asked ++ vs.take (k + 1) := by rw [List.append_assoc, List.take_add_one, hx]; rfl
    have S5' : St g L l ((kS, seqObj "list" keys.toArray e2) :: ((N.set i (a, seqObj "list" ([] : List Value).toArray e1)).set j (al, seqObj "list" (asked ++ vs.take (k + 1)).toArray e4))) o s5 := by
      rw [← et]
      simpa using S5
    have hlen := hI.length
    refine wpAny_bind (t_update (ys := keys ++ [.int (kf x) t]) S5' 0 rfl (by simp) (by simp at hlen; lia) (by simp at hlen ⊢; lia) ?_)
    intro e5 s6 S6
    refine wpAny_pure ⟨rfl, _, _, _, S6, ?_, hkl⟩
    have em : (vs.take (k + 1)).map kf = (vs.take k).map kf ++ [kf x] := by rw [List.take_add_one, hx]; simp
    rw [em]
    exact ksk_snoc hI
  · rintro s' ⟨keys, e2, e3, S4, hI, _⟩
    simp only [Nat.zero_add, List.take_length] at S4 hI
    have hlen : keys.length = vs.length := by have := hI.length; simpa using this
    refine wpAny_bind (t_items S4 0 rfl ?_)
    unfold ksk_end
    dsimp only
    have hia : ((kS, seqObj "list" keys.toArray e2) :: ((N.set i (a, seqObj "list" ([] : List Value).toArray e1)).set j (al, seqObj "list" (asked ++ vs).toArray e3)))[i + 1]? = some (a, seqObj "list" ([] : List Value).toArray e1) := by
      rw [List.getElem?_cons_succ, List.getElem?_set_ne hij.symm, hi1]
    have body : wpAny (model prog w) A (if vs.toArray.size < 2 then (do
        let kind ← pure general'
        let ((), s) ← (if vs.toArray.size < 2 then pure () else sortRuns').run (SortSt.mk' kind (if b then (keys.toArray.zip vs.toArray).reverse else keys.toArray.zip vs.toArray) #[] 7 none)
        ksk_tail a b e1 (.ref kS) s) else (do
        let kind ← keyKind' keys.toArray
        let ((), s) ← (if vs.toArray.size < 2 then pure () else sortRuns').run (SortSt.mk' kind (if b then (keys.toArray.zip vs.toArray).reverse else keys.toArray.zip vs.toArray) #[] 7 none)
        ksk_tail a b e1 (.ref kS) s)) P E s' := by
      refine wpAny_ifBind (wpAny_mono (sort_core (b := b) (kind := oneType') (keys := keys) (vs := vs) (L := kLt kf vs) hlen h64 (kLt_wo kf vs _) (fun h2 Q E hq => ?_) (fun p q x y hx hy E' Q' hq => ?_)
        (Q := fun r s'' => s'' = s' ∧ ∃ out : List Value, failedOf r.2 = none ∧ (if b then ((arrOf r.2).map (·.2)).reverse else (arrOf r.2).map (·.2)) = out.toArray ∧ SortedBy (flp b (kLt kf vs)) vs out) fun st out h1 h2 h3 => ⟨rfl, out, h1, h2, h3⟩) (fun kd s5 hs5 => ?_) fun _ _ x => x)
      · rw [ksk_kind (by simpa using hI) (by simp; lia)]; exact wpAny_pure hq
      · obtain ⟨n1, t1, hn1, rfl⟩ := intsAre_getElem hI p x hx
        obtain ⟨n2, t2, hn2, rfl⟩ := intsAre_getElem hI q y hy
        refine kat_lt_int ?_
        have e1 : n1 = kf (vs.getD p .none) := by
          rw [List.getElem?_map] at hn1
          cases hv : vs[p]? with
          | none => rw [hv] at hn1; cases hn1
          | some v => rw [hv] at hn1; cases hn1; simp [List.getD, hv]
        have e2 : n2 = kf (vs.getD q .none) := by
          rw [List.getElem?_map] at hn2
          cases hv : vs[q]? with
          | none => rw [hv] at hn2; cases hn2
          | some v => rw [hv] at hn2; cases hn2; simp [List.getD, hv]
        rw [e1, e2]; exact hq
      refine wpAny_bind (wpAny_mono hs5 (fun r s6 hr => ?_) fun _ _ x => x)
      obtain ⟨rfl, out, hf, hout, hsb⟩ := hr
      obtain ⟨⟨⟩, st⟩ := r
      dsimp only at hf hout ⊢
      unfold ksk_tail
      dsimp only
      refine wpAny_bind (t_update (ys := []) S4 0 rfl rfl (by walk_at "l") (by simp) ?_)
      intro e6 s7 S7
      refine wpAny_bind (wpAny_letGo ?_)
      refine wpAny_bind (t_epoch S7 (i + 1) (by simpa using hia) ?_)
      rw [hout]
      refine wpAny_bind (t_update (ys := out) S7 (i + 1) (by simpa using hia) rfl (by simp) (by obtain ⟨_, h1, _⟩ := hsb; lia) ?_)
      intro e7 s8 S8
      rw [hf]
      simp only [bne_self_eq_false, Bool.false_eq_true, if_false]
      refine wpAny_pure (h out e7 e3 s8 hsb (S8.less ?_))
      dsimp only [List.set_cons_zero, List.set_cons_succ]
      rw [List.set_comm _ _ hij.symm, List.set_set]
      exact .cons _ (.refl _)
    cases b with
    | false => exact body
    | true => exact wpAny_bind (wpAny_rule body)
end

section
variable {w : World} {A : Around} {E : Value → Shared → Prop} {s : Shared} {g g₀ : Heap} {L : Addr} {l : List (Str × Value)} {N : List (Addr × Obj)} {o : OsState} {mg mb : Str → Option Value} {K : Frag} {x dx : Addr} {xs : List Value} {n : Nat} {od : Obj}

theorem extend_loop {R : Result → Shared → Prop} {r it : Addr} {res : Value} (hh : A.handled = none) (hz : xs.length ≤ 500) (hx : SeqAt g x xs) : ∀ (m k : Nat) (acc : List Value) (e : Nat) (s : Shared), m = xs.length - k → k ≤ xs.length → acc.length ≤ k →
    St g L l ((r, seqObj "list" acc.toArray e) :: (it, liObj x k) :: N) o s →
    (∀ e' s', St g L l ((r, seqObj "list" (acc ++ xs.drop k).toArray e') :: (it, liEnd xs.length) :: N) o s' → R (.ok (.ret res)) s') →
    codeAny (model prog w) A (.builtin "list.extend.loop" ⟨[.ref r, .ref it, res], []⟩) R s := by
  intro m
  induction m with
  | zero =>
    intro k acc e s hm hk ha S h
    have hk' : k = xs.length := sub_end ‹_› ‹_›
    subst hk'
    refine codeAny_builtin PySem.F.entry_extend_loop ?_
    rw [Around.under_plainId PySem.F.plain_extend_loop _]
    show wpAny _ A.in1 (pyNext (.ref it) >>= _) _ _ s
    refine wpAny_bind (n_li_end (A := A.in1) hh S 1 rfl (hx.to fun _ e => S.kept _ _ e) (Nat.le_refl _) ?_)
    intro s' S'
    refine wpAny_pure (h e s' ?_)
    simpa using S'
  | succ m ih =>
    intro k acc e s hm hk ha S h
    have hk' : k < xs.length := sub_gt ‹_›
    refine codeAny_builtin PySem.F.entry_extend_loop ?_
    rw [Around.under_plainId PySem.F.plain_extend_loop _]
    show wpAny _ A.in1 (pyNext (.ref it) >>= _) _ _ s
    refine wpAny_bind (n_li S 1 rfl (hx.to fun _ e => S.kept _ _ e) (List.getElem?_eq_getElem hk') ?_)
    intro s' S'
    refine wpAny_bind (t_update (ys := acc ++ [xs[k]]) S' 0 rfl (by simp) (by walk_at "l") (by simp; lia) ?_)
    intro e' s'' S''
    refine wpAny_pure ⟨plainId_quiet PySem.F.plain_extend_loop _, ih (k + 1) (acc ++ [xs[k]]) e' s'' (sub_pred ‹_›) hk' (by simp; lia) S'' fun e2 s2 S2 => h e2 s2 ?_⟩
    have : acc ++ [xs[k]] ++ xs.drop (k + 1) = acc ++ xs.drop k := by rw [List.append_assoc, List.drop_eq_getElem_cons hk']; rfl
    rw [this] at S2; exact S2

structure Row (K : Frag) (g : Heap) (x : Addr) (xs : List Value) (ps : List (Str × Str)) (a : Int) : Prop where
  at' : Ex4 fun (n : Nat) (dx : Addr) (od : Obj) (ta : Tok) => An2 (AccAt g x xs n dx od) (findObj K 167 (some od) (Str.ofString "_initial_size") = some (.value (.int a ta)))
  pcs : Pcs g xs ps
  few : xs.length < 64
  short : ∀ p ∈ ps, p.1.length < 1000 ∧ p.2.length < 1000
  first : 0 ≤ a ∧ a < 1000
theorem Row.keeps {g h : Heap} {ps : List (Str × Str)} {a : Int} (r : Row K g x xs ps a) (k : Keeps g h) : Row K h x xs ps a :=
  { r with at' := (by obtain ⟨n, dx, od, ta, h1, h2⟩ := r.at'; exact ⟨n, dx, od, ta, h1.keeps k, h2⟩), pcs := r.pcs.keeps k }
theorem Row.seq {g h : Heap} {ps : List (Str × Str)} {a : Int} (r : Row K g x xs ps a) (k : Keeps g h) : SeqAt h x xs := by
  obtain ⟨_, _, _, _, h1, _⟩ := r.at'
  exact (h1.keeps k).seq
theorem sizeOf_nonneg : ∀ ps : List (Str × Str), 0 ≤ sizeOf' ps
  | [] => by simp [sizeOf']
  | p :: ps => by have := sizeOf_nonneg ps; simp only [sizeOf', List.map_cons, List.sum_cons] at *; lia
theorem sizeOf_le : ∀ ps : List (Str × Str), (∀ p ∈ ps, p.1.length < 1000 ∧ p.2.length < 1000) → sizeOf' ps ≤ 2000 * ps.length
  | [], _ => by simp [sizeOf']
  | p :: ps, h => by
    have := sizeOf_le ps fun q hq => h q (.tail _ hq)
    have hp := h p (.head _)
    simp only [sizeOf', List.map_cons, List.sum_cons, List.length_cons] at *; lia
theorem Row.size {g : Heap} {ps : List (Str × Str)} {a : Int} (r : Row K g x xs ps a) : a + sizeOf' ps < 2 ^ 24 := by
  have h1 := sizeOf_le ps r.short
  have h2 := r.pcs.1
  have h3 := r.few
  have h4 := r.first
  lia
theorem Row.ne {g : Heap} {ps : List (Str × Str)} {a : Int} (r : Row K g x xs ps a) {b : Addr} (hb : g.get? b = none) : x ≠ b := fun q => by
  obtain ⟨n, dx, od, ta, h1, _⟩ := r.at'
  rw [← q, h1.ob] at hb; cases hb

theorem c_lenrow {ps : List (Str × Str)} {a : Int} {ob : Obj} {Q : Value → Shared → Prop} (G : Gw K mg mb g) (r : Row K g x xs ps a) (S : St g L l N o s) (i : Nat) (hi : N[i]? = some (130, ob)) (hT : Tab ob) (hh : A.handled = none) (hd : A.depth + 5 < recursionLimit)
    (h : ∀ t s' ob', Tab ob' → St g L l (N.set i (130, ob')) o s' → Q (.int (a + sizeOf' ps) t) s') : wpAny (model prog w) A (call (.builtin "len") [.ref x]) Q E s := by
  obtain ⟨n, dx, od, ta, h1, h2⟩ := r.at'
  have h130 := (S.nw _ (List.mem_of_getElem? hi)).2.2
  have := r.size
  exact c_lenacc G S i hi hT hh hd (h1.keeps S.kept) (r.ne h130) (fun q => by rw [← q, h1.di] at h130; cases h130) (r.pcs.keeps S.kept) r.short (by walk_at "l") h2 r.first h

theorem collect_row {ps : List (Str × Str)} {a : Int} {ob : Obj} {Q : List Value → Shared → Prop} (G : Gw K mg mb g) (r : Row K g x xs ps a) (S : St g L l N o s) (i : Nat) (hi : N[i]? = some (130, ob)) (hT : Tab ob) (hh : A.handled = none) (hd : A.depth + 5 < recursionLimit)
    (h : ∀ s' ob', Tab ob' → St g L l (N.set i (130, ob')) o s' → Q xs s') : wpAny (model prog w) A (collect (.ref x)) Q E s := by
  obtain ⟨n, dx, od, ta, hx1, hx2⟩ := r.at'
  have hsize := r.size
  have hnn := sizeOf_nonneg ps
  unfold collect
  refine wpAny_bind (wpAny_runValue (codeAny_builtin PySem.F.entry_proto_collect ?_))
  rw [Around.under_plainId PySem.F.plain_proto_collect _]
  show wpAny _ A.in1 (newList [] >>= fun l => again (.builtin "list.__iadd__" ⟨[l, .ref x], []⟩)) _ _ s
  refine wpAny_bind (t_new (T := "list") S rfl (fun rl s1 S1 => ?_) (by size_fits))
  refine wpAny_pure ⟨plainId_quiet PySem.F.plain_list_iadd _, codeAny_builtin PySem.F.entry_list_iadd ?_⟩
  rw [Around.under_plainId PySem.F.plain_list_iadd _]
  show wpAny _ A.in1 (Builtin.List.listExtendWith (.ref rl) (.ref x) (.ref rl)) _ _ _
  unfold Builtin.List.listExtendWith
  have I1 := (hx1.keeps S1.kept).inst
  have hxr : rl ≠ x := fun q => by have := (S1.nw _ (.head _)).2.2; rw [show rl = x from q, hx1.ob] at this; cases this
  refine wpAny_bind (I1.type.here ?_)
  first | refine wI_neg (by simp [Builtin.List.listSameRef, hxr]) ?_ | rw [if_neg (by simp [Builtin.List.listSameRef, hxr])]
  refine wpAny_bind (i_acc G.toCl S1 (hx1.keeps S1.kept) ?_)
  intro it s2 S2
  refine wpAny_bind (wpAny_holding ?_)
  unfold Builtin.List.listLengthHint
  have G2 := G.keeps S2.kept
  have I2 := (hx1.keeps S2.kept).inst
  refine wpAny_bind (m := specialOf (.ref x) "__len__") (wpAny_bind (I2.type.here ((looks_findIn G2.X G2.len).here ?_)))
  dsimp only
  show wpAny _ _ (if (false : Bool) = true then _ else _) _ _ _
  first | refine wI_neg Bool.false_ne_true ?_ | rw [if_neg Bool.false_ne_true]
  show wpAny _ _ (if (true : Bool) = true then _ else _) _ _ _
  first | refine wI_pos rfl ?_ | rw [if_pos rfl]
  refine wpAny_bind (wpAny_rule ?_)
  refine wpAny_bind (wpAny_attempt (c_lenrow (A := A.in1) G r S2 (i + 2) (by simpa using hi) hT hh hd ?_))
  intro t s3 ob' hT' S3
  have hi' : i < N.length := (List.getElem?_eq_some_iff.mp hi).1
  dsimp only
  refine wpAny_bind (wpAny_of_eq (a := some (a + sizeOf' ps)) rfl ?_)
  dsimp only
  first | refine wI_neg (by simp [Builtin.List.listTooLong, sizeLine_eq]; have := r.first; lia) ?_ | rw [if_neg (by simp [Builtin.List.listTooLong, sizeLine_eq]; have := r.first; lia)]
  refine wpAny_pure ?_
  have S3' : St g L l ((it, liObj x 0) :: (rl, seqObj "list" ([] : List Value).toArray 0) :: N.set i (130, ob')) o s3 := by simpa using S3
  have fin : ∀ e s4, St g L l ((it, liObj x 0) :: (rl, seqObj "list" ([] : List Value).toArray e) :: N.set i (130, ob')) o s4 → codeAny (model prog w) A (.builtin "list.extend.loop" ⟨[.ref rl, .ref it, .ref rl], []⟩)
      (fun rr s' => match rr with | .ok (.ret v) => wpAny (model prog w) A (match v with | .ref a => load a >>= fun ob => (match ob.data with | .seq xs _ => pure xs.toList | _ => unsupported "internal:collect") | _ => unsupported "internal:collect") Q E s' | .ok _ => False | .error e => E e s') s4 := by
    intro e s4 S4
    have S4' : St g L l ((rl, seqObj "list" ([] : List Value).toArray e) :: (it, liObj x 0) :: N.set i (130, ob')) o s4 := by
      refine ⟨S4.fr, fun p hp => S4.nw p ?_, ?_, S4.os, S4.gn⟩
      · simp only [List.mem_cons] at hp ⊢
        rcases hp with h | h | h
        · exact .inr (.inl h)
        · exact .inl h
        · exact .inr (.inr h)
      · have nd := S4.nd
        simp only [List.map_cons, List.nodup_cons, List.mem_cons, not_or] at nd ⊢
        exact ⟨⟨fun q => nd.1.1 q.symm, nd.2.1⟩, nd.1.2, nd.2.2⟩
    refine extend_loop (x := x) (xs := xs) hh (by have := r.few; lia) (hx1.seq) xs.length 0 [] e s4 (by walk_at "l") (Nat.zero_le _) (by simp) S4' ?_
    intro e' s5 S5
    show wpAny _ _ (load rl >>= _) _ _ _
    refine wpAny_bind (wpAny_load (S5.at (.head _)) ?_)
    refine wpAny_pure ?_
    have := h s5 ob' hT' (S5.less (.cons _ (.cons _ (.refl _))))
    simpa using this
  have fin2 : ∀ e s4, St g L l ((it, liObj x 0) :: (rl, seqObj "list" ([] : List Value).toArray e) :: N.set i (130, ob')) o s4 → wpAny (model prog w) A.in1 (again (.builtin "list.extend.loop" ⟨[.ref rl, .ref it, .ref rl], []⟩))
      (fun fin s' => match fin with
        | .done f => (match (Except.ok f : Result) with | .ok (.ret v) => wpAny (model prog w) A (match v with | .ref a => load a >>= fun ob => (match ob.data with | .seq xs _ => pure xs.toList | _ => unsupported "internal:collect") | _ => unsupported "internal:collect") Q E s' | .ok _ => False | .error e => E e s')
        | .again c' => c'.quiet = true ∧ codeAny (model prog w) A c' (fun rr s' => match rr with | .ok (.ret v) => wpAny (model prog w) A (match v with | .ref a => load a >>= fun ob => (match ob.data with | .seq xs _ => pure xs.toList | _ => unsupported "internal:collect") | _ => unsupported "internal:collect") Q E s' | .ok _ => False | .error e => E e s') s') (fun e s' => E e s') s4 :=
    fun e s4 S4 => wpAny_pure ⟨plainId_quiet PySem.F.plain_extend_loop _, fin e s4 S4⟩
  split
  · refine wpAny_bind (wpAny_rule ?_)
    refine wpAny_bind ?_
    unfold Builtin.List.listTouch
    refine wpAny_bind (t_update (ys := [.none]) S3' 1 rfl (by simp) (by simp) (by simp) ?_)
    intro e5 s5 S5
    refine t_update (ys := []) S5 1 rfl (by simp) (by simp) (by simp) ?_
    intro e6 s6 S6
    exact fin2 e6 s6 S6
  · exact fin2 0 s3 S3'
end

section
variable {w : World} {A : Around} {E : Value → Shared → Prop} {s : Shared} {g g₀ : Heap} {L : Addr} {l : List (Str × Value)} {N : List (Addr × Obj)} {o : OsState} {mg mb : Str → Option Value} {K : Frag} {x dx : Addr} {xs : List Value} {n : Nat} {od : Obj}

noncomputable def kwKey (k : Value) (b : Bool) : List (Str × Value) := if b then [(Str.ofString "key", k), (Str.ofString "reverse", .bool true)] else [(Str.ofString "key", k)]

theorem c_sort {rl : Addr} {vs : List Value} {e : Nat} {kw : List (Str × Value)} {T : Sem Fin} {Q : Value → Shared → Prop} (ho : s.heap.get? rl = some (seqObj "list" vs.toArray e)) (ha : argsOk "list.sort" ⟨[.ref rl], kw⟩) (ht : Builtin.«list.sort» ⟨[.ref rl], kw⟩ = T)
    (h : wpAny (model prog w) A.in1 T (fun fin s' => ∃ v, fin = .done (.ret v) ∧ Q v s') E s) : wpAny (model prog w) A (call (.builtin "list.sort") [.ref rl] kw) Q E s := by
  subst ht
  refine wpAny_call (codeAny_call_builtin slot_list_sort.plain entry_list_sort (slot_list_sort.check _ _ _ _ _ _ _ _ ⟨_, ho, rfl⟩ ha (wpAny_mono h (fun fin s' hq => ?_) fun _ _ x => x)))
  obtain ⟨v, rfl, hq⟩ := hq; exact hq

theorem args_sorted_kw (a k : Value) (b : Bool) : argsOk "sorted" ⟨[a], kwKey k b⟩ := by cases b; exact ksk_s1 a k; exact ksk_s2 a k _
theorem args_sort_kw (a k : Value) (b : Bool) : argsOk "list.sort" ⟨[a], kwKey k b⟩ := by cases b; exact ksk_l1 a k; exact ksk_l2 a k _

theorem call_sorted_tree {v : Value} {kw : List (Str × Value)} {Q : Value → Shared → Prop} (ha : argsOk "sorted" ⟨[v], kw⟩)
    (h : wpAny (model prog w) A.in1 (collect v) (fun xs s₁ => wpAny (model prog w) A.in1 (newList xs) (fun rl s₂ => wpAny (model prog w) A.in1 (call (.builtin "list.sort") [rl] kw) (fun _ s₃ => Q rl s₃) E s₂) E s₁) E s) :
    wpAny (model prog w) A (call (.builtin "sorted") [v] kw) Q E s := by
  refine wpAny_call (codeAny_call_builtin plain_sorted entry_sorted ?_)
  have hc : checkBuiltinCall "sorted" ⟨[v], kw⟩ = (match Manifest.signature? "sorted" with | some sig => Bind.checkArgs "sorted" sig ⟨[v], kw⟩ | none => pure ()) := by
    simp only [checkBuiltinCall, kind_sorted]
    cases Manifest.signature? "sorted" <;> rfl
  rw [hc]
  have hq : (match Manifest.signature? "sorted" with | some sig => Bind.checkArgs "sorted" sig ⟨[v], kw⟩ | none => pure ()) = (pure () : Sem Unit) := by
    unfold argsOk at ha
    cases hs : Manifest.signature? "sorted" with
    | none => rfl
    | some sig => rw [hs] at ha; exact ha
  rw [hq]
  refine wpAny_pure ?_
  show wpAny _ _ (collect v >>= fun xs => newList xs >>= fun l => holding [l] (call (.builtin "list.sort") [l] kw) >>= fun _ => ret l) _ _ _
  refine wpAny_bind (wpAny_mono h (fun xs s₁ h₁ => wpAny_bind (wpAny_mono h₁ (fun rl s₂ h₂ => wpAny_bind (wpAny_holding (wpAny_mono h₂ (fun _ s₃ h₃ => wpAny_pure h₃) fun _ _ x => x))) fun _ _ x => x)) fun _ _ x => x)

theorem c_sorted_key {b : Bool} {ps : List (Str × Str)} {a : Int} {ob : Obj} {q al : Addr} {asked : List Value} {ea : Nat} {kf : Value → Int} {Pv : Value → Prop} {Q : Value → Shared → Prop} (G : Gw K mg mb g) (r : Row K g x xs ps a) (S : St g L l N o s) (i j : Nat) (hij : i ≠ j) (hi : N[i]? = some (130, ob)) (hT : Tab ob)
    (hj : N[j]? = some (al, seqObj "list" asked.toArray ea)) (hz : asked.length ≤ 400) (hh : A.handled = none) (hd : A.depth + 10 < recursionLimit) (hu : A.units + 50 < cLine) (C : KeyOk w g (.ref q) al kf Pv) (hP : ∀ x ∈ xs, Pv x)
    (h : ∀ rl out e e'' ob' s', SortedBy (flp b (kLt kf xs)) xs out → Tab ob' → St g L l ((rl, seqObj "list" out.toArray e) :: (N.set i (130, ob')).set j (al, seqObj "list" (asked ++ xs).toArray e'')) o s' → Q (.ref rl) s') :
    wpAny (model prog w) A (call (.builtin "sorted") [.ref x] (kwKey (.ref q) b)) Q E s := by
  have hfew := r.few
  obtain ⟨hlt, he⟩ := List.getElem?_eq_some_iff.mp hi
  refine call_sorted_tree (args_sorted_kw _ _ _) ?_
  refine collect_row (A := A.in1) G r S i hi hT hh (by show A.depth + 5 < _; lia) ?_
  intro s1 ob' hT' S1
  refine t_new (T := "list") S1 rfl (fun rl s2 S2 => ?_) (by size_fits)
  refine c_sort (T := ksk_tree rl (.ref q) b) (vs := xs) (e := 0) (S2.at (.head _)) (args_sort_kw _ _ _) (by cases b; exact ksk_t1 q rl; exact ksk_t2 q rl true) ?_
  refine sort_keyed (A := A.in1.in1) (a := rl) (vs := xs) (e := 0) S2 0 (j + 1) (by walk_at "l") rfl (by simpa [List.getElem?_set_ne hij] using hj) hfew (by walk_at "l") hh (by show A.depth + 10 < _; lia) (by show A.units + 1 + 1 + 40 < _; lia) C hP ?_
  intro out e' e'' s3 hsb S3
  exact ⟨_, rfl, h rl out e' e'' ob' s3 hsb hT' (by simpa using S3)⟩

theorem c_sorted_none {b : Bool} {kind : SortKind} {m : Nat} {Lt : Nat → Nat → Bool} {ps : List (Str × Str)} {a : Int} {ob : Obj} {Q : Value → Shared → Prop} (G : Gw K mg mb g) (r : Row K g x xs ps a) (S : St g L l N o s) (i : Nat) (hi : N[i]? = some (130, ob)) (hT : Tab ob)
    (hh : A.handled = none) (hd : A.depth + 10 < recursionLimit) (hu : A.units + m + 10 < cLine) (W : WO xs.length Lt)
    (hkind : 2 ≤ xs.length → Ans w g m (keyKind' xs.toArray) kind) (HK : ∀ i j x y, xs[i]? = some x → xs[j]? = some y → Ans w g m (keyLt' kind x y) (Lt i j))
    (h : ∀ rl out e ob' s', SortedBy (flp b Lt) xs out → Tab ob' → St g L l ((rl, seqObj "list" out.toArray e) :: N.set i (130, ob')) o s' → Q (.ref rl) s') :
    wpAny (model prog w) A (call (.builtin "sorted") [.ref x] (kwKey .none b)) Q E s := by
  have hfew := r.few
  refine call_sorted_tree (args_sorted_kw _ _ _) ?_
  refine collect_row (A := A.in1) G r S i hi hT hh (by show A.depth + 5 < _; lia) ?_
  intro s1 ob' hT' S1
  refine t_new (T := "list") S1 rfl (fun rl s2 S2 => ?_) (by size_fits)
  refine c_sort (T := pTree rl b) (vs := xs) (e := 0) (S2.at (.head _)) (args_sort_kw _ _ _) (by cases b; exact pt2 rl; exact pt3 rl true) ?_
  refine sort_plain (A := A.in1.in1) (m := m) (a := rl) (vs := xs) (e := 0) S2 0 rfl hfew (by show A.units + 1 + 1 + m < _; lia) W hkind HK ?_
  intro out e' s3 hsb S3
  exact ⟨_, rfl, h rl out e' ob' s3 hsb hT' (by simpa using S3)⟩
end

noncomputable def Least (L : Nat → Nat → Bool) (k i : Nat) : Prop := i < k ∧ ∀ j, j < k → j ≠ i → TT L i j
theorem Least.new {n k i : Nat} {L : Nat → Nat → Bool} (W : WO n L) (hk : k < n) (h : Least L k i) (hb : L k i = true) : Least L (k + 1) k := by
  have h1 := h.1
  refine ⟨Nat.lt_succ_self _, fun j hj hjk => .inl ?_⟩
  by_cases hji : j = i
  · rw [hji]; exact hb
  · rcases h.2 j (by walk_at "l") hji with q | ⟨q, _⟩
    · exact W.tr k i j hk (by walk_at "l") (by walk_at "l") hb q
    · exact W.lt_le hk (by walk_at "l") (by walk_at "l") hb q
theorem wpAny_iteB {α : Type} {w : World} {A : Around} {E : Value → Shared → Prop} {s : Shared} {b : Bool} {x y : Sem α} {Q : α → Shared → Prop} (h1 : b = true → wpAny (model prog w) A x Q E s) (h2 : b = false → wpAny (model prog w) A y Q E s) : wpAny (model prog w) A (if b = true then x else y) Q E s := by
  cases b
  · exact h2 rfl
  · exact h1 rfl
theorem Least.old {k i : Nat} {L : Nat → Nat → Bool} (h : Least L k i) (hb : L k i = false) : Least L (k + 1) i := by
  refine ⟨Nat.lt_succ_of_lt h.1, fun j hj hji => ?_⟩
  by_cases hjk : j = k
  · rw [hjk]; exact .inr ⟨hb, h.1⟩
  · exact h.2 j (by walk_at "l") hji

theorem args_min_kw (a d k : Value) : argsOk "min" ⟨[a], [(Str.ofString "default", d), (Str.ofString "key", k)]⟩ := by unfold argsOk; kernel_rfl
section
variable {w : World} {A : Around} {E : Value → Shared → Prop} {s : Shared} {g g₀ : Heap} {L : Addr} {l : List (Str × Value)} {M : List (Addr × Obj)} {o : OsState} {x : Addr} {xs : List Value}

theorem min_loop_key {R : Result → Shared → Prop} {best it al q : Addr} {d : Value} {kf : Value → Int} {Pv : Value → Prop} {asked : List Value} (hh : A.handled = none) (hd : A.depth + 10 < recursionLimit) (hu : A.units + 50 < cLine) (hx : SeqAt g x xs) (hz : xs.length < 64) (hza : asked.length ≤ 400) (hne : xs ≠ [])
    (C : KeyOk w g (.ref q) al kf Pv) (hP : ∀ v ∈ xs, Pv v)
    (h : ∀ i e s', i < xs.length → Least (flp false (kLt kf xs)) xs.length i → St g L l ((it, liEnd xs.length) :: (al, seqObj "list" (asked ++ xs).toArray e) :: M) o s' → R (.ok (.ret (xs.getD i .none))) s') :
    ∀ (m k : Nat) (bs : List Value) (eb ea : Nat) (s : Shared), m = xs.length - k → k ≤ xs.length → ((k = 0 ∧ bs = []) ∨ ∃ i t, Least (flp false (kLt kf xs)) k i ∧ bs = [xs.getD i .none, .int (kf (xs.getD i .none)) t]) →
      St g L l ((best, seqObj "list" bs.toArray eb) :: (it, liObj x k) :: (al, seqObj "list" (asked ++ xs.take k).toArray ea) :: M) o s →
      codeAny (model prog w) A (.builtin "min.loop" ⟨[.ref it, .ref q, .ref best], [(Str.ofString "default", d)]⟩) R s := by
  have hname : (toString "min" ++ toString ".loop" : String) = "min.loop" := by decide
  intro m
  induction m with
  | zero =>
    intro k bs eb ea s hm hk hb S
    have hk' : k = xs.length := sub_end ‹_› ‹_›
    subst hk'
    refine codeAny_builtin PySem.F.entry_min_loop ?_
    rw [Around.under_plainId PySem.F.plain_min_loop _]
    show wpAny _ A.in1 (seqItems? (.ref best) >>= _) _ _ _
    refine wpAny_bind (wpAny_seqItems (S.at (.head _)) rfl ?_)
    show wpAny _ A.in1 (tryCatch (pyNext (.ref it)) _ >>= _) _ _ _
    refine wpAny_bind (wpAny_tryCatch (n_li_end (A := A.in1) hh S 1 rfl (hx.to fun _ e => S.kept _ _ e) (Nat.le_refl _) ?_))
    intro s1 S1
    rcases hb with ⟨h0, _⟩ | ⟨i, t, hL, rfl⟩
    · exact absurd (List.length_eq_zero_iff.mp h0) hne
    show wpAny _ A.in1 (updateSeq best (fun _ => #[]) >>= _) _ _ _
    refine wpAny_bind (t_update (ys := []) S1 0 rfl rfl (by simp) (by simp) ?_)
    intro e2 s2 S2
    refine wpAny_bind (wpAny_letGo (wpAny_pure ?_))
    refine h i ea s2 hL.1 hL ?_
    simpa using S2.less (N' := (it, liEnd xs.length) :: (al, seqObj "list" (asked ++ xs.take xs.length).toArray ea) :: M) (.cons _ (.refl _))
  | succ m ih =>
    intro k bs eb ea s hm hk hb S
    have hk' : k < xs.length := sub_gt ‹_›
    have hgk : xs[k]? = some (xs.getD k .none) := by simp [List.getD, List.getElem?_eq_getElem hk']
    refine codeAny_builtin PySem.F.entry_min_loop ?_
    rw [Around.under_plainId PySem.F.plain_min_loop _]
    show wpAny _ A.in1 (seqItems? (.ref best) >>= _) _ _ _
    refine wpAny_bind (wpAny_seqItems (S.at (.head _)) rfl ?_)
    show wpAny _ A.in1 (tryCatch (pyNext (.ref it)) _ >>= _) _ _ _
    refine wpAny_bind (wpAny_tryCatch (n_li (A := A.in1) S 1 rfl (hx.to fun _ e => S.kept _ _ e) hgk ?_))
    intro s1 S1
    show wpAny _ A.in1 (tryCatch (holding [xs.getD k .none] (call (.ref q) [xs.getD k .none])) _ >>= _) _ _ _
    refine wpAny_bind (wpAny_tryCatch (wpAny_holding (C (xs.getD k .none) (asked ++ xs.take k) ea A.in1 _ _ s1 (hP _ (List.mem_of_getElem? hgk)) hh hd (by show A.units + 1 + 40 < _; lia) S1.kept (S1.at (.tail _ (.tail _ (.head _)))) (by simp; lia) S1.gn ?_)))
    intro t e2 s2 k1 k2 k3 k4
    have S2 := S1.turnBut 2 rfl k1 k2 k3 k4
    have et : asked ++ xs.take k ++ [xs.getD k .none] = asked ++ xs.take (k + 1) := by rw [List.append_assoc, List.take_add_one, hgk]; rfl
    rw [et] at S2
    have fin : ∀ i t' eb' s3, Least (flp false (kLt kf xs)) (k + 1) i → St g L l ((best, seqObj "list" [xs.getD i .none, .int (kf (xs.getD i .none)) t'].toArray eb') :: (it, liObj x (k + 1)) :: (al, seqObj "list" (asked ++ xs.take (k + 1)).toArray e2) :: M) o s3 →
        wpAny (model prog w) A.in1 (again (.builtin (toString "min" ++ toString ".loop") ⟨[.ref it, .ref q, .ref best], [(Str.ofString "default", d)]⟩))
          (fun fin s' => match fin with | .done f => R (.ok f) s' | .again c' => c'.quiet = true ∧ codeAny (model prog w) A c' R s') (fun e s' => R (.error e) s') s3 := fun i t' eb' s3 hL S3 => by
      rw [hname]
      exact wpAny_pure ⟨plainId_quiet PySem.F.plain_min_loop _, ih (k + 1) _ eb' e2 s3 (sub_pred ‹_›) hk' (.inr ⟨i, t', hL, rfl⟩) S3⟩
    rcases hb with ⟨h0, rfl⟩ | ⟨i, t', hL, rfl⟩
    · show wpAny _ A.in1 (updateSeq best (fun _ => #[xs.getD k .none, .int (kf (xs.getD k .none)) t]) >>= _) _ _ _
      refine wpAny_bind (t_update (ys := [xs.getD k .none, .int (kf (xs.getD k .none)) t]) S2 0 rfl rfl (by simp) (by simp) ?_)
      intro e3 s3 S3
      exact fin k t e3 s3 ⟨by walk_at "l", fun j hj hjk => absurd hj (by walk_at "l")⟩ S3
    · show wpAny _ A.in1 (tryCatch (holding [xs.getD k .none, .int (kf (xs.getD k .none)) t] (richCompare .Lt (.int (kf (xs.getD k .none)) t) (.int (kf (xs.getD i .none)) t') >>= _)) _ >>= _) _ _ _
      refine wpAny_bind (wpAny_tryCatch (wpAny_holding (wpAny_bind (a_lt_int (w := w) (g := g) _ _ _ _ A.in1 _ _ s2 (by show A.units + 1 + 0 < _; lia) S2.kept ?_))))
      refine wpAny_bind (wpAny_holding (wpAny_truthy_bool ?_))
      refine wpAny_bind (wpAny_letGo (wpAny_pure ?_))
      have hLk : (flp false (kLt kf xs)) k i = decide (kf (xs.getD k .none) < kf (xs.getD i .none)) := rfl
      refine wpAny_iteB (fun hb => ?_) (fun hb => ?_)
      · refine wpAny_bind (t_update (f := fun _ => #[xs.getD k .none, .int (kf (xs.getD k .none)) t]) (ys := [xs.getD k .none, .int (kf (xs.getD k .none)) t]) S2 0 rfl rfl (by simp) (by simp) ?_)
        intro e3 s3 S3
        refine wpAny_bind (wpAny_letGo ?_)
        exact fin k t e3 s3 (Least.new (kLt_wo kf xs xs.length) hk' hL (hLk.trans hb)) S3
      · refine wpAny_bind (wpAny_letGo ?_)
        exact fin i t' eb s2 (Least.old hL (hLk.trans hb)) S2

theorem c_min_key {it al q : Addr} {d : Value} {kf : Value → Int} {Pv : Value → Prop} {asked : List Value} {ea : Nat} {Q : Value → Shared → Prop} (hh : A.handled = none) (hd : A.depth + 10 < recursionLimit) (hu : A.units + 50 < cLine) (hx : SeqAt g x xs) (hz : xs.length < 64) (hza : asked.length ≤ 400) (hne : xs ≠ [])
    (C : KeyOk w g (.ref q) al kf Pv) (hP : ∀ v ∈ xs, Pv v) (S : St g L l ((it, liObj x 0) :: (al, seqObj "list" asked.toArray ea) :: M) o s)
    (h : ∀ i e s', i < xs.length → Least (flp false (kLt kf xs)) xs.length i → St g L l ((it, liEnd xs.length) :: (al, seqObj "list" (asked ++ xs).toArray e) :: M) o s' → Q (xs.getD i .none) s') :
    wpAny (model prog w) A (call (.builtin "min") [.ref it] [(Str.ofString "default", d), (Str.ofString "key", .ref q)]) Q E s := by
  refine kmk_tree (by decide +kernel) (by decide +kernel) (entryFor_of_fast (b := Builtin.«min») (by kernel_rfl)) (args_min_kw _ _ _) ?_
  show wpAny _ _ (pyIter (.ref it) >>= _) _ _ _
  have hit : s.heap.IsListIter it x 0 := ⟨_, S.at (.head _), rfl, rfl⟩
  refine wpAny_bind (wpAny_pyIter_listiter hit ?_)
  refine wpAny_bind (t_new (T := "list") S rfl (fun best s1 S1 => ?_) (by size_fits))
  have hname : (toString "min" ++ toString ".loop" : String) = "min.loop" := by decide
  show wpAny _ _ (again (.builtin (toString "min" ++ toString ".loop") ⟨[.ref it, .ref q, .ref best], [(Str.ofString "default", d)]⟩)) _ _ _
  rw [hname]
  refine wpAny_pure ⟨plainId_quiet PySem.F.plain_min_loop _, min_loop_key hh hd hu hx hz hza hne C hP ?_ xs.length 0 [] 0 ea s1 (by walk_at "l") (Nat.zero_le _) (.inl ⟨rfl, rfl⟩) (by simpa using S1)⟩
  intro i e s' hi hL S'
  exact h i e s' hi hL S'

theorem min_loop_none {R : Result → Shared → Prop} {best it : Addr} {d : Value} {m : Nat} {Lt : Nat → Nat → Bool} (hh : A.handled = none) (hu : A.units + m + 10 < cLine) (hx : SeqAt g x xs) (hz : xs.length < 64) (hne : xs ≠ []) (W : WO xs.length Lt)
    (HC : ∀ i j, i < xs.length → j < xs.length → Ans w g m (richCompare .Lt (xs.getD i .none) (xs.getD j .none)) (.bool (flp false Lt i j)))
    (h : ∀ i s', i < xs.length → Least (flp false Lt) xs.length i → St g L l ((it, liEnd xs.length) :: M) o s' → R (.ok (.ret (xs.getD i .none))) s') :
    ∀ (m k : Nat) (bs : List Value) (eb : Nat) (s : Shared), m = xs.length - k → k ≤ xs.length → ((k = 0 ∧ bs = []) ∨ ∃ i, Least (flp false Lt) k i ∧ bs = [xs.getD i .none, xs.getD i .none]) →
      St g L l ((best, seqObj "list" bs.toArray eb) :: (it, liObj x k) :: M) o s →
      codeAny (model prog w) A (.builtin "min.loop" ⟨[.ref it, .none, .ref best], [(Str.ofString "default", d)]⟩) R s := by
  have hname : (toString "min" ++ toString ".loop" : String) = "min.loop" := by decide
  intro m
  induction m with
  | zero =>
    intro k bs eb s hm hk hb S
    have hk' : k = xs.length := sub_end ‹_› ‹_›
    subst hk'
    refine codeAny_builtin PySem.F.entry_min_loop ?_
    rw [Around.under_plainId PySem.F.plain_min_loop _]
    show wpAny _ A.in1 (seqItems? (.ref best) >>= _) _ _ _
    refine wpAny_bind (wpAny_seqItems (S.at (.head _)) rfl ?_)
    show wpAny _ A.in1 (tryCatch (pyNext (.ref it)) _ >>= _) _ _ _
    refine wpAny_bind (wpAny_tryCatch (n_li_end (A := A.in1) hh S 1 rfl (hx.to fun _ e => S.kept _ _ e) (Nat.le_refl _) ?_))
    intro s1 S1
    rcases hb with ⟨h0, _⟩ | ⟨i, hL, rfl⟩
    · exact absurd (List.length_eq_zero_iff.mp h0) hne
    show wpAny _ A.in1 (updateSeq best (fun _ => #[]) >>= _) _ _ _
    refine wpAny_bind (t_update (ys := []) S1 0 rfl rfl (by simp) (by simp) ?_)
    intro e2 s2 S2
    refine wpAny_bind (wpAny_letGo (wpAny_pure ?_))
    exact h i s2 hL.1 hL (S2.less (.cons _ (.refl _)))
  | succ m ih =>
    intro k bs eb s hm hk hb S
    have hk' : k < xs.length := sub_gt ‹_›
    have hgk : xs[k]? = some (xs.getD k .none) := by simp [List.getD, List.getElem?_eq_getElem hk']
    refine codeAny_builtin PySem.F.entry_min_loop ?_
    rw [Around.under_plainId PySem.F.plain_min_loop _]
    show wpAny _ A.in1 (seqItems? (.ref best) >>= _) _ _ _
    refine wpAny_bind (wpAny_seqItems (S.at (.head _)) rfl ?_)
    show wpAny _ A.in1 (tryCatch (pyNext (.ref it)) _ >>= _) _ _ _
    refine wpAny_bind (wpAny_tryCatch (n_li (A := A.in1) S 1 rfl (hx.to fun _ e => S.kept _ _ e) hgk ?_))
    intro s2 S2
    have fin : ∀ i eb' s3, Least (flp false Lt) (k + 1) i → St g L l ((best, seqObj "list" [xs.getD i .none, xs.getD i .none].toArray eb') :: (it, liObj x (k + 1)) :: M) o s3 →
        wpAny (model prog w) A.in1 (again (.builtin (toString "min" ++ toString ".loop") ⟨[.ref it, .none, .ref best], [(Str.ofString "default", d)]⟩))
          (fun fin s' => match fin with | .done f => R (.ok f) s' | .again c' => c'.quiet = true ∧ codeAny (model prog w) A c' R s') (fun e s' => R (.error e) s') s3 := fun i eb' s3 hL S3 => by
      rw [hname]
      exact wpAny_pure ⟨plainId_quiet PySem.F.plain_min_loop _, ih (k + 1) _ eb' s3 (sub_pred ‹_›) hk' (.inr ⟨i, hL, rfl⟩) S3⟩
    rcases hb with ⟨h0, rfl⟩ | ⟨i, hL, rfl⟩
    · show wpAny _ A.in1 (updateSeq best (fun _ => #[xs.getD k .none, xs.getD k .none]) >>= _) _ _ _
      refine wpAny_bind (t_update (ys := [xs.getD k .none, xs.getD k .none]) S2 0 rfl rfl (by simp) (by simp) ?_)
      intro e3 s3 S3
      exact fin k e3 s3 ⟨by walk_at "l", fun j hj hjk => absurd hj (by walk_at "l")⟩ S3
    · show wpAny _ A.in1 (tryCatch (holding [xs.getD k .none, xs.getD k .none] (richCompare .Lt (xs.getD k .none) (xs.getD i .none) >>= _)) _ >>= _) _ _ _
      have hi' := hL.1
      refine wpAny_bind (wpAny_tryCatch (wpAny_holding (wpAny_bind (HC k i hk' (by walk_at "l") A.in1 _ _ s2 (by show A.units + 1 + _ < _; lia) S2.kept ?_))))
      refine wpAny_bind (wpAny_holding (wpAny_truthy_bool ?_))
      refine wpAny_bind (wpAny_letGo (wpAny_pure ?_))
      refine wpAny_iteB (fun hb => ?_) (fun hb => ?_)
      · refine wpAny_bind (t_update (f := fun _ => #[xs.getD k .none, xs.getD k .none]) (ys := [xs.getD k .none, xs.getD k .none]) S2 0 rfl rfl (by simp) (by simp) ?_)
        intro e3 s3 S3
        refine wpAny_bind (wpAny_letGo ?_)
        exact fin k e3 s3 (Least.new W hk' hL hb) S3
      · refine wpAny_bind (wpAny_letGo ?_)
        exact fin i eb s2 (Least.old hL hb) S2
theorem c_min_none {it : Addr} {d : Value} {m : Nat} {Lt : Nat → Nat → Bool} {Q : Value → Shared → Prop} (hh : A.handled = none) (hu : A.units + m + 10 < cLine) (hx : SeqAt g x xs) (hz : xs.length < 64) (hne : xs ≠ []) (W : WO xs.length Lt)
    (HC : ∀ i j, i < xs.length → j < xs.length → Ans w g m (richCompare .Lt (xs.getD i .none) (xs.getD j .none)) (.bool (flp false Lt i j)))
    (S : St g L l ((it, liObj x 0) :: M) o s) (h : ∀ i s', i < xs.length → Least (flp false Lt) xs.length i → St g L l ((it, liEnd xs.length) :: M) o s' → Q (xs.getD i .none) s') :
    wpAny (model prog w) A (call (.builtin "min") [.ref it] [(Str.ofString "default", d), (Str.ofString "key", .none)]) Q E s := by
  refine kmk_tree (by decide +kernel) (by decide +kernel) (entryFor_of_fast (b := Builtin.«min») (by kernel_rfl)) (args_min_kw _ _ _) ?_
  show wpAny _ _ (pyIter (.ref it) >>= _) _ _ _
  have hit : s.heap.IsListIter it x 0 := ⟨_, S.at (.head _), rfl, rfl⟩
  refine wpAny_bind (wpAny_pyIter_listiter hit ?_)
  refine wpAny_bind (t_new (T := "list") S rfl (fun best s1 S1 => ?_) (by size_fits))
  have hname : (toString "min" ++ toString ".loop" : String) = "min.loop" := by decide
  show wpAny _ _ (again (.builtin (toString "min" ++ toString ".loop") ⟨[.ref it, .none, .ref best], [(Str.ofString "default", d)]⟩)) _ _ _
  rw [hname]
  refine wpAny_pure ⟨plainId_quiet PySem.F.plain_min_loop _, min_loop_none hh hu hx hz hne W HC ?_ xs.length 0 [] 0 s1 (by walk_at "l") (Nat.zero_le _) (.inl ⟨rfl, rfl⟩) (by simpa using S1)⟩
  intro i s' hi hL S'
  exact h i s' hi hL S'
end

theorem args_max_kw (a d k : Value) : argsOk "max" ⟨[a], [(Str.ofString "default", d), (Str.ofString "key", k)]⟩ := by unfold argsOk; kernel_rfl
section
variable {w : World} {A : Around} {E : Value → Shared → Prop} {s : Shared} {g g₀ : Heap} {L : Addr} {l : List (Str × Value)} {M : List (Addr × Obj)} {o : OsState} {x : Addr} {xs : List Value}

theorem max_loop_key {R : Result → Shared → Prop} {best it al q : Addr} {d : Value} {kf : Value → Int} {Pv : Value → Prop} {asked : List Value} (hh : A.handled = none) (hd : A.depth + 10 < recursionLimit) (hu : A.units + 50 < cLine) (hx : SeqAt g x xs) (hz : xs.length < 64) (hza : asked.length ≤ 400) (hne : xs ≠ [])
    (C : KeyOk w g (.ref q) al kf Pv) (hP : ∀ v ∈ xs, Pv v)
    (h : ∀ i e s', i < xs.length → Least (flp true (kLt kf xs)) xs.length i → St g L l ((it, liEnd xs.length) :: (al, seqObj "list" (asked ++ xs).toArray e) :: M) o s' → R (.ok (.ret (xs.getD i .none))) s') :
    ∀ (m k : Nat) (bs : List Value) (eb ea : Nat) (s : Shared), m = xs.length - k → k ≤ xs.length → ((k = 0 ∧ bs = []) ∨ ∃ i t, Least (flp true (kLt kf xs)) k i ∧ bs = [xs.getD i .none, .int (kf (xs.getD i .none)) t]) →
      St g L l ((best, seqObj "list" bs.toArray eb) :: (it, liObj x k) :: (al, seqObj "list" (asked ++ xs.take k).toArray ea) :: M) o s →
      codeAny (model prog w) A (.builtin "max.loop" ⟨[.ref it, .ref q, .ref best], [(Str.ofString "default", d)]⟩) R s := by
  have hname : (toString "max" ++ toString ".loop" : String) = "max.loop" := by decide
  intro m
  induction m with
  | zero =>
    intro k bs eb ea s hm hk hb S
    have hk' : k = xs.length := sub_end ‹_› ‹_›
    subst hk'
    refine codeAny_builtin PySem.F.entry_max_loop ?_
    rw [Around.under_plainId PySem.F.plain_max_loop _]
    show wpAny _ A.in1 (seqItems? (.ref best) >>= _) _ _ _
    refine wpAny_bind (wpAny_seqItems (S.at (.head _)) rfl ?_)
    show wpAny _ A.in1 (tryCatch (pyNext (.ref it)) _ >>= _) _ _ _
    refine wpAny_bind (wpAny_tryCatch (n_li_end (A := A.in1) hh S 1 rfl (hx.to fun _ e => S.kept _ _ e) (Nat.le_refl _) ?_))
    intro s1 S1
    rcases hb with ⟨h0, _⟩ | ⟨i, t, hL, rfl⟩
    · exact absurd (List.length_eq_zero_iff.mp h0) hne
    show wpAny _ A.in1 (updateSeq best (fun _ => #[]) >>= _) _ _ _
    refine wpAny_bind (t_update (ys := []) S1 0 rfl rfl (by simp) (by simp) ?_)
    intro e2 s2 S2
    refine wpAny_bind (wpAny_letGo (wpAny_pure ?_))
    refine h i ea s2 hL.1 hL ?_
    simpa using S2.less (N' := (it, liEnd xs.length) :: (al, seqObj "list" (asked ++ xs.take xs.length).toArray ea) :: M) (.cons _ (.refl _))
  | succ m ih =>
    intro k bs eb ea s hm hk hb S
    have hk' : k < xs.length := sub_gt ‹_›
    have hgk : xs[k]? = some (xs.getD k .none) := by simp [List.getD, List.getElem?_eq_getElem hk']
    refine codeAny_builtin PySem.F.entry_max_loop ?_
    rw [Around.under_plainId PySem.F.plain_max_loop _]
    show wpAny _ A.in1 (seqItems? (.ref best) >>= _) _ _ _
    refine wpAny_bind (wpAny_seqItems (S.at (.head _)) rfl ?_)
    show wpAny _ A.in1 (tryCatch (pyNext (.ref it)) _ >>= _) _ _ _
    refine wpAny_bind (wpAny_tryCatch (n_li (A := A.in1) S 1 rfl (hx.to fun _ e => S.kept _ _ e) hgk ?_))
    intro s1 S1
    show wpAny _ A.in1 (tryCatch (holding [xs.getD k .none] (call (.ref q) [xs.getD k .none])) _ >>= _) _ _ _
    refine wpAny_bind (wpAny_tryCatch (wpAny_holding (C (xs.getD k .none) (asked ++ xs.take k) ea A.in1 _ _ s1 (hP _ (List.mem_of_getElem? hgk)) hh hd (by show A.units + 1 + 40 < _; lia) S1.kept (S1.at (.tail _ (.tail _ (.head _)))) (by simp; lia) S1.gn ?_)))
    intro t e2 s2 k1 k2 k3 k4
    have S2 := S1.turnBut 2 rfl k1 k2 k3 k4
    have et : asked ++ xs.take k ++ [xs.getD k .none] = asked ++ xs.take (k + 1) := by rw [List.append_assoc, List.take_add_one, hgk]; rfl
    rw [et] at S2
    have fin : ∀ i t' eb' s3, Least (flp true (kLt kf xs)) (k + 1) i → St g L l ((best, seqObj "list" [xs.getD i .none, .int (kf (xs.getD i .none)) t'].toArray eb') :: (it, liObj x (k + 1)) :: (al, seqObj "list" (asked ++ xs.take (k + 1)).toArray e2) :: M) o s3 →
        wpAny (model prog w) A.in1 (again (.builtin (toString "max" ++ toString ".loop") ⟨[.ref it, .ref q, .ref best], [(Str.ofString "default", d)]⟩))
          (fun fin s' => match fin with | .done f => R (.ok f) s' | .again c' => c'.quiet = true ∧ codeAny (model prog w) A c' R s') (fun e s' => R (.error e) s') s3 := fun i t' eb' s3 hL S3 => by
      rw [hname]
      exact wpAny_pure ⟨plainId_quiet PySem.F.plain_max_loop _, ih (k + 1) _ eb' e2 s3 (sub_pred ‹_›) hk' (.inr ⟨i, t', hL, rfl⟩) S3⟩
    rcases hb with ⟨h0, rfl⟩ | ⟨i, t', hL, rfl⟩
    · show wpAny _ A.in1 (updateSeq best (fun _ => #[xs.getD k .none, .int (kf (xs.getD k .none)) t]) >>= _) _ _ _
      refine wpAny_bind (t_update (ys := [xs.getD k .none, .int (kf (xs.getD k .none)) t]) S2 0 rfl rfl (by simp) (by simp) ?_)
      intro e3 s3 S3
      exact fin k t e3 s3 ⟨by walk_at "l", fun j hj hjk => absurd hj (by walk_at "l")⟩ S3
    · show wpAny _ A.in1 (tryCatch (holding [xs.getD k .none, .int (kf (xs.getD k .none)) t] (richCompare .Gt (.int (kf (xs.getD k .none)) t) (.int (kf (xs.getD i .none)) t') >>= _)) _ >>= _) _ _ _
      refine wpAny_bind (wpAny_tryCatch (wpAny_holding (wpAny_bind (a_gt_int (w := w) (g := g) _ _ _ _ A.in1 _ _ s2 (by show A.units + 1 + 0 < _; lia) S2.kept ?_))))
      refine wpAny_bind (wpAny_holding (wpAny_truthy_bool ?_))
      refine wpAny_bind (wpAny_letGo (wpAny_pure ?_))
      have hLk : (flp true (kLt kf xs)) k i = decide (kf (xs.getD i .none) < kf (xs.getD k .none)) := rfl
      refine wpAny_iteB (fun hb => ?_) (fun hb => ?_)
      · refine wpAny_bind (t_update (f := fun _ => #[xs.getD k .none, .int (kf (xs.getD k .none)) t]) (ys := [xs.getD k .none, .int (kf (xs.getD k .none)) t]) S2 0 rfl rfl (by simp) (by simp) ?_)
        intro e3 s3 S3
        refine wpAny_bind (wpAny_letGo ?_)
        exact fin k t e3 s3 (Least.new (kLt_wo kf xs xs.length).flip hk' hL (hLk.trans hb)) S3
      · refine wpAny_bind (wpAny_letGo ?_)
        exact fin i t' eb s2 (Least.old hL (hLk.trans hb)) S2

theorem c_max_key {it al q : Addr} {d : Value} {kf : Value → Int} {Pv : Value → Prop} {asked : List Value} {ea : Nat} {Q : Value → Shared → Prop} (hh : A.handled = none) (hd : A.depth + 10 < recursionLimit) (hu : A.units + 50 < cLine) (hx : SeqAt g x xs) (hz : xs.length < 64) (hza : asked.length ≤ 400) (hne : xs ≠ [])
    (C : KeyOk w g (.ref q) al kf Pv) (hP : ∀ v ∈ xs, Pv v) (S : St g L l ((it, liObj x 0) :: (al, seqObj "list" asked.toArray ea) :: M) o s)
    (h : ∀ i e s', i < xs.length → Least (flp true (kLt kf xs)) xs.length i → St g L l ((it, liEnd xs.length) :: (al, seqObj "list" (asked ++ xs).toArray e) :: M) o s' → Q (xs.getD i .none) s') :
    wpAny (model prog w) A (call (.builtin "max") [.ref it] [(Str.ofString "default", d), (Str.ofString "key", .ref q)]) Q E s := by
  refine kmk_tree (by decide +kernel) (by decide +kernel) (entryFor_of_fast (b := Builtin.«max») (by kernel_rfl)) (args_max_kw _ _ _) ?_
  show wpAny _ _ (pyIter (.ref it) >>= _) _ _ _
  have hit : s.heap.IsListIter it x 0 := ⟨_, S.at (.head _), rfl, rfl⟩
  refine wpAny_bind (wpAny_pyIter_listiter hit ?_)
  refine wpAny_bind (t_new (T := "list") S rfl (fun best s1 S1 => ?_) (by size_fits))
  have hname : (toString "max" ++ toString ".loop" : String) = "max.loop" := by decide
  show wpAny _ _ (again (.builtin (toString "max" ++ toString ".loop") ⟨[.ref it, .ref q, .ref best], [(Str.ofString "default", d)]⟩)) _ _ _
  rw [hname]
  refine wpAny_pure ⟨plainId_quiet PySem.F.plain_max_loop _, max_loop_key hh hd hu hx hz hza hne C hP ?_ xs.length 0 [] 0 ea s1 (by walk_at "l") (Nat.zero_le _) (.inl ⟨rfl, rfl⟩) (by simpa using S1)⟩
  intro i e s' hi hL S'
  exact h i e s' hi hL S'

theorem max_loop_none {R : Result → Shared → Prop} {best it : Addr} {d : Value} {m : Nat} {Lt : Nat → Nat → Bool} (hh : A.handled = none) (hu : A.units + m + 10 < cLine) (hx : SeqAt g x xs) (hz : xs.length < 64) (hne : xs ≠ []) (W : WO xs.length Lt)
    (HC : ∀ i j, i < xs.length → j < xs.length → Ans w g m (richCompare .Gt (xs.getD i .none) (xs.getD j .none)) (.bool (flp true Lt i j)))
    (h : ∀ i s', i < xs.length → Least (flp true Lt) xs.length i → St g L l ((it, liEnd xs.length) :: M) o s' → R (.ok (.ret (xs.getD i .none))) s') :
    ∀ (m k : Nat) (bs : List Value) (eb : Nat) (s : Shared), m = xs.length - k → k ≤ xs.length → ((k = 0 ∧ bs = []) ∨ ∃ i, Least (flp true Lt) k i ∧ bs = [xs.getD i .none, xs.getD i .none]) →
      St g L l ((best, seqObj "list" bs.toArray eb) :: (it, liObj x k) :: M) o s →
      codeAny (model prog w) A (.builtin "max.loop" ⟨[.ref it, .none, .ref best], [(Str.ofString "default", d)]⟩) R s := by
  have hname : (toString "max" ++ toString ".loop" : String) = "max.loop" := by decide
  intro m
  induction m with
  | zero =>
    intro k bs eb s hm hk hb S
    have hk' : k = xs.length := sub_end ‹_› ‹_›
    subst hk'
    refine codeAny_builtin PySem.F.entry_max_loop ?_
    rw [Around.under_plainId PySem.F.plain_max_loop _]
    show wpAny _ A.in1 (seqItems? (.ref best) >>= _) _ _ _
    refine wpAny_bind (wpAny_seqItems (S.at (.head _)) rfl ?_)
    show wpAny _ A.in1 (tryCatch (pyNext (.ref it)) _ >>= _) _ _ _
    refine wpAny_bind (wpAny_tryCatch (n_li_end (A := A.in1) hh S 1 rfl (hx.to fun _ e => S.kept _ _ e) (Nat.le_refl _) ?_))
    intro s1 S1
    rcases hb with ⟨h0, _⟩ | ⟨i, hL, rfl⟩
    · exact absurd (List.length_eq_zero_iff.mp h0) hne
    show wpAny _ A.in1 (updateSeq best (fun _ => #[]) >>= _) _ _ _
    refine wpAny_bind (t_update (ys := []) S1 0 rfl rfl (by simp) (by simp) ?_)
    intro e2 s2 S2
    refine wpAny_bind (wpAny_letGo (wpAny_pure ?_))
    exact h i s2 hL.1 hL (S2.less (.cons _ (.refl _)))
  | succ m ih =>
    intro k bs eb s hm hk hb S
    have hk' : k < xs.length := sub_gt ‹_›
    have hgk : xs[k]? = some (xs.getD k .none) := by simp [List.getD, List.getElem?_eq_getElem hk']
    refine codeAny_builtin PySem.F.entry_max_loop ?_
    rw [Around.under_plainId PySem.F.plain_max_loop _]
    show wpAny _ A.in1 (seqItems? (.ref best) >>= _) _ _ _
    refine wpAny_bind (wpAny_seqItems (S.at (.head _)) rfl ?_)
    show wpAny _ A.in1 (tryCatch (pyNext (.ref it)) _ >>= _) _ _ _
    refine wpAny_bind (wpAny_tryCatch (n_li (A := A.in1) S 1 rfl (hx.to fun _ e => S.kept _ _ e) hgk ?_))
    intro s2 S2
    have fin : ∀ i eb' s3, Least (flp true Lt) (k + 1) i → St g L l ((best, seqObj "list" [xs.getD i .none, xs.getD i .none].toArray eb') :: (it, liObj x (k + 1)) :: M) o s3 →
        wpAny (model prog w) A.in1 (again (.builtin (toString "max" ++ toString ".loop") ⟨[.ref it, .none, .ref best], [(Str.ofString "default", d)]⟩))
          (fun fin s' => match fin with | .done f => R (.ok f) s' | .again c' => c'.quiet = true ∧ codeAny (model prog w) A c' R s') (fun e s' => R (.error e) s') s3 := fun i eb' s3 hL S3 => by
      rw [hname]
      exact wpAny_pure ⟨plainId_quiet PySem.F.plain_max_loop _, ih (k + 1) _ eb' s3 (sub_pred ‹_›) hk' (.inr ⟨i, hL, rfl⟩) S3⟩
    rcases hb with ⟨h0, rfl⟩ | ⟨i, hL, rfl⟩
    · show wpAny _ A.in1 (updateSeq best (fun _ => #[xs.getD k .none, xs.getD k .none]) >>= _) _ _ _
      refine wpAny_bind (t_update (ys := [xs.getD k .none, xs.getD k .none]) S2 0 rfl rfl (by simp) (by simp) ?_)
      intro e3 s3 S3
      exact fin k e3 s3 ⟨by walk_at "l", fun j hj hjk => absurd hj (by walk_at "l")⟩ S3
    · show wpAny _ A.in1 (tryCatch (holding [xs.getD k .none, xs.getD k .none] (richCompare .Gt (xs.getD k .none) (xs.getD i .none) >>= _)) _ >>= _) _ _ _
      have hi' := hL.1
      refine wpAny_bind (wpAny_tryCatch (wpAny_holding (wpAny_bind (HC k i hk' (by walk_at "l") A.in1 _ _ s2 (by show A.units + 1 + _ < _; lia) S2.kept ?_))))
      refine wpAny_bind (wpAny_holding (wpAny_truthy_bool ?_))
      refine wpAny_bind (wpAny_letGo (wpAny_pure ?_))
      refine wpAny_iteB (fun hb => ?_) (fun hb => ?_)
      · refine wpAny_bind (t_update (f := fun _ => #[xs.getD k .none, xs.getD k .none]) (ys := [xs.getD k .none, xs.getD k .none]) S2 0 rfl rfl (by simp) (by simp) ?_)
        intro e3 s3 S3
        refine wpAny_bind (wpAny_letGo ?_)
        exact fin k e3 s3 (Least.new W.flip hk' hL hb) S3
      · refine wpAny_bind (wpAny_letGo ?_)
        exact fin i eb s2 (Least.old hL hb) S2
theorem c_max_none {it : Addr} {d : Value} {m : Nat} {Lt : Nat → Nat → Bool} {Q : Value → Shared → Prop} (hh : A.handled = none) (hu : A.units + m + 10 < cLine) (hx : SeqAt g x xs) (hz : xs.length < 64) (hne : xs ≠ []) (W : WO xs.length Lt)
    (HC : ∀ i j, i < xs.length → j < xs.length → Ans w g m (richCompare .Gt (xs.getD i .none) (xs.getD j .none)) (.bool (flp true Lt i j)))
    (S : St g L l ((it, liObj x 0) :: M) o s) (h : ∀ i s', i < xs.length → Least (flp true Lt) xs.length i → St g L l ((it, liEnd xs.length) :: M) o s' → Q (xs.getD i .none) s') :
    wpAny (model prog w) A (call (.builtin "max") [.ref it] [(Str.ofString "default", d), (Str.ofString "key", .none)]) Q E s := by
  refine kmk_tree (by decide +kernel) (by decide +kernel) (entryFor_of_fast (b := Builtin.«max») (by kernel_rfl)) (args_max_kw _ _ _) ?_
  show wpAny _ _ (pyIter (.ref it) >>= _) _ _ _
  have hit : s.heap.IsListIter it x 0 := ⟨_, S.at (.head _), rfl, rfl⟩
  refine wpAny_bind (wpAny_pyIter_listiter hit ?_)
  refine wpAny_bind (t_new (T := "list") S rfl (fun best s1 S1 => ?_) (by size_fits))
  have hname : (toString "max" ++ toString ".loop" : String) = "max.loop" := by decide
  show wpAny _ _ (again (.builtin (toString "max" ++ toString ".loop") ⟨[.ref it, .none, .ref best], [(Str.ofString "default", d)]⟩)) _ _ _
  rw [hname]
  refine wpAny_pure ⟨plainId_quiet PySem.F.plain_max_loop _, max_loop_none hh hu hx hz hne W HC ?_ xs.length 0 [] 0 s1 (by walk_at "l") (Nat.zero_le _) (.inl ⟨rfl, rfl⟩) (by simpa using S1)⟩
  intro i s' hi hL S'
  exact h i s' hi hL S'
end

section
variable {w : World} {A : Around} {E : Value → Shared → Prop} {s : Shared} {g g₀ : Heap} {L : Addr} {l : List (Str × Value)} {N : List (Addr × Obj)} {o : OsState} {mg mb : Str → Option Value} {K : Frag} {x dx : Addr} {xs : List Value} {n : Nat} {od : Obj} {env : Env}

theorem St.perm {N' : List (Addr × Obj)} (S : St g L l N o s) (h : N.Perm N') : St g L l N' o s :=
  ⟨S.fr, fun p hp => S.nw p (h.mem_iff.mpr hp), ((h.map _).nodup_iff).mp S.nd, S.os, S.gn⟩

theorem args_iter1 (a : Value) : argsOk "iter" ⟨[a], []⟩ := by unfold argsOk; kernel_rfl
theorem c_iter {ps : List (Str × Str)} {a : Int} {Q : Value → Shared → Prop} (G : Gw K mg mb g) (r : Row K g x xs ps a) (S : St g L l N o s) (h : ∀ it s', St g L l ((it, liObj x 0) :: N) o s' → Q (.ref it) s') : wpAny (model prog w) A (call (.builtin "iter") [.ref x]) Q E s := by
  obtain ⟨n, dx, od, ta, h1, h2⟩ := r.at'
  refine call_function_tree (b := Builtin.«iter») (by decide +kernel) (by decide +kernel) (entryFor_of_fast (by kernel_rfl)) (args_iter1 _) ?_
  show wpAny _ _ (pyIter (.ref x) >>= fun r => ret r) _ _ _
  exact wpAny_bind (i_acc G.toCl S (h1.keeps S.kept) fun it s' S' => wpAny_pure (h it s' S'))

noncomputable def objObj : Obj := { cls := .type "object", data := .plain }

noncomputable def slObj (a b c : Value) : Obj := { cls := .type "slice", data := .fields #[a, b, c] }
theorem e_slice_up {e : Expr} {p : Pos} {Q : Value → Shared → Prop} (h : wpAny (model prog w) A (eval e env) (fun u s₁ => ∃ g L l N o, St g L l N o s₁ ∧ ∀ a s', St g L l ((a, slObj .none u .none) :: N) o s' → Q (.ref a) s') E s) :
    wpAny (model prog w) A (eval (.Slice none (some e) none p) env) Q E s := by
  refine wpAny_Slice (evalPart_none_step (evalPart_some_step (wpAny_mono h (fun u s₁ h₁ => evalPart_none_step ?_) fun _ _ x => x)))
  obtain ⟨g, L, l, N, o, S, h⟩ := h₁
  exact h _ _ (S.new _ rfl)
theorem e_slice_from {e : Expr} {p : Pos} {Q : Value → Shared → Prop} (h : wpAny (model prog w) A (eval e env) (fun u s₁ => ∃ g L l N o, St g L l N o s₁ ∧ ∀ a s', St g L l ((a, slObj u .none .none) :: N) o s' → Q (.ref a) s') E s) :
    wpAny (model prog w) A (eval (.Slice (some e) none none p) env) Q E s := by
  refine wpAny_Slice (evalPart_some_step (wpAny_mono h (fun u s₁ h₁ => evalPart_none_step (evalPart_none_step ?_)) fun _ _ x => x))
  obtain ⟨g, L, l, N, o, S, h⟩ := h₁
  exact h _ _ (S.new _ rfl)
theorem tail_slice {value : Expr} {lower upper : Option Expr} {p : Pos} {a sl : Addr} {vs out : List Value} {e : Nat} {vl vu : Value} {lo hi : Option Int} {Q : Value → Shared → Prop} (S : St g L l N o s) (ha : s.heap.get? a = some (seqObj "list" vs.toArray e)) (hs : s.heap.get? sl = some (slObj vl vu .none))
    (pl : IsPart vl lo) (pu : IsPart vu hi) (hz : vs.length ≤ 1000) (hout : slicePick vs.toArray lo hi none = out.toArray) (h : ∀ r s', St g L l ((r, seqObj "list" out.toArray 0) :: N) o s' → Q (.ref r) s') :
    wpAny (model prog w) A (subscriptTail value (.Slice lower upper none p) (.ref a) (.ref sl)) Q E s := by
  have hl : s.heap.IsList a vs.toArray := ⟨_, ha, rfl, _, rfl⟩
  unfold subscriptTail
  refine wpAny_bind ?_
  rw [getitemInPython_of_ne hl.typeIs.not_modules]
  refine wpAny_bind (wpAny_specialOf hl.typeIs list_getitem_lookup ?_)
  have fin : wpAny (model prog w) A (operate [.ref sl, .ref a] (getItem (.ref a) (.ref sl))) (fun r s₃ => wpAny (model prog w) A (letTemporaryGo value (.ref a) r >>= fun _ => pure r) Q E s₃) E s := by
    refine wpAny_operating (wpAny_getItem_list_slice hl ⟨_, hs, rfl, rfl⟩ pl pu .none (by simp) ?_ (by rw [sizeLine_eq]; simp; lia))
    refine wpAny_bind (wpAny_letTemporaryGo (wpAny_pure ?_))
    rw [hout]
    exact h _ _ (S.new (seqObj "list" out.toArray 0) rfl)
  first
    | exact wpAny_pure (wpAny_bind fin)
    | exact wpAny_bind (wpAny_pure (wpAny_bind fin))
    | exact wpAny_bind fin
theorem tail_up {value : Expr} {up : Expr} {p : Pos} {a sl : Addr} {vs : List Value} {e : Nat} {k : Int} {t : Tok} {Q : Value → Shared → Prop} (S : St g L l N o s) (ha : s.heap.get? a = some (seqObj "list" vs.toArray e)) (hs : s.heap.get? sl = some (slObj .none (.int k t) .none))
    (hk : 0 ≤ k) (hz : vs.length ≤ 1000) (h : ∀ r s', St g L l ((r, seqObj "list" (vs.take k.toNat).toArray 0) :: N) o s' → Q (.ref r) s') :
    wpAny (model prog w) A (subscriptTail value (.Slice none (some up) none p) (.ref a) (.ref sl)) Q E s := by
  refine tail_slice S ha hs .none (.int k t) hz ?_ h
  obtain ⟨m, rfl⟩ := Int.eq_ofNat_of_zero_le hk
  exact (slicePick_upto' _ _).trans (by simp)
theorem tail_from {value : Expr} {lw : Expr} {p : Pos} {a sl : Addr} {vs : List Value} {e m : Nat} {t : Tok} {Q : Value → Shared → Prop} (S : St g L l N o s) (ha : s.heap.get? a = some (seqObj "list" vs.toArray e)) (hs : s.heap.get? sl = some (slObj (.int (m : Int) t) .none .none))
    (hz : vs.length ≤ 1000) (h : ∀ r s', St g L l ((r, seqObj "list" (vs.drop m).toArray 0) :: N) o s' → Q (.ref r) s') :
    wpAny (model prog w) A (subscriptTail value (.Slice (some lw) none none p) (.ref a) (.ref sl)) Q E s := by
  refine tail_slice S ha hs (.int m t) .none hz ?_ h
  exact (slicePick_from' _ _).trans (by simp)
end

theorem mro_object : mroOf (.type "object") = pure [.type "object"] := by rw [mroOf_type]; kernel_rfl
theorem lookup_object_new : typeLookup (.type "object") "__new__" = pure (some (.builtin "object.__new__")) := by rw [typeLookup_type, builtinLookup_eq_fast]; kernel_rfl
theorem slot_oo_init : Slot "object" "__init__" "object.__init__" := .of (owner := "object") (n := "__init__") (by rw [typeLookup_type, builtinLookup_eq_fast]; kernel_rfl) (by decide +kernel) (by decide +kernel) (by decide +kernel)
  (by first | exact .inl (by decide +kernel) | exact .inr (by decide +kernel)) (by rw [isSubtype_type]; kernel_rfl)
theorem called_object : TypeCalled "object" "object.__new__" "object.__init__" :=
  ⟨by decide +kernel, by decide +kernel, ⟨_, _, mro_object⟩, madeBy_type mro_object lookup_object_new (by decide +kernel), by decide +kernel, by rw [isSubtype_type]; kernel_rfl, slot_oo_init⟩
theorem newCall_object : checkBuiltinCall "object.__new__" ⟨[.type "object"], []⟩ = pure () := by kernel_rfl
theorem typeCall_object : checkTypeCall "object" ⟨[], []⟩ = pure () := by kernel_rfl
theorem entry_oo_new : entryFor table "object.__new__" = some Builtin.«object.__new__» := entryFor_of_tree (by kernel_rfl)
theorem on_eq : Builtin.«object.__new__» ⟨[.type "object"], []⟩ = (newObj (.type "object") .plain none >>= fun r => ret r) := by kernel_rfl
section
variable {w : World} {A : Around} {E : Value → Shared → Prop} {s : Shared} {g g₀ : Heap} {L : Addr} {l : List (Str × Value)} {N : List (Addr × Obj)} {o : OsState}
theorem code_object_new {Q₁ : Value → Shared → Prop} (h : Q₁ (.ref s.heap.objs.size) { s with heap := s.heap.push objObj }) :
    codeAny (model prog w) A (.call (.builtin "object.__new__") ⟨[.type "object"], []⟩) (wants Q₁ E) s := by
  refine codeAny_of_tree ?_
  show wpAny _ A.in1 (checkBuiltinCall "object.__new__" ⟨[.type "object"], []⟩ >>= fun _ => again (.builtin "object.__new__" ⟨[.type "object"], []⟩)) _ _ _
  refine wpAny_bind (wpAny_of_eq newCall_object (wpAny_pure ⟨Code.quiet_builtin _ (by decide +kernel), codeAny_builtin entry_oo_new ?_⟩))
  rw [on_eq]
  exact wpAny_bind (wpAny_newObj_type (wpAny_pure h))
theorem c_object {Q : Value → Shared → Prop} (S : St g L l N o s) (h : ∀ a s', St g L l ((a, objObj) :: N) o s' → Q (.ref a) s') : wpAny (model prog w) A (call (.type "object") []) Q E s := by
  refine callType_codes (Q₁ := fun obj s₁ => obj = .ref s.heap.objs.size ∧ s₁ = { s with heap := s.heap.push objObj }) called_object typeCall_object entry_oi (code_object_new ⟨rfl, rfl⟩) ?_
  rintro obj s₁ ⟨rfl, rfl⟩
  refine ⟨⟨_, Heap.get?_push_size _ rfl, rfl⟩, oi_args _, ?_⟩
  rw [oi_run]
  exact wpAny_pure ⟨rfl, h _ _ (S.new objObj rfl)⟩
end

section
variable {w : World} {A : Around} {E : Value → Shared → Prop} {s : Shared} {g g₀ : Heap} {L : Addr} {l : List (Str × Value)} {N M : List (Addr × Obj)} {o : OsState} {x : Addr} {xs : List Value}

theorem c_ri {it : Addr} {v : Int} {left : Nat} {step : Int} {Q : Option Value → Shared → Prop} (S : St g L l N o s) (i : Nat) (hi : N[i]? = some (it, riObj v ((left : Int) + 1) step))
    (h : ∀ t s', St g L l (N.set i (it, riObj (v + step) left step)) o s' → Q (some (.int v t)) s') : wpAny (model prog w) A (callSpecial? (.ref it) (Str.ofString "__next__")) Q E s := by
  have hit := S.at (List.mem_of_getElem? hi)
  obtain ⟨hlt, _⟩ := List.getElem?_eq_some_iff.mp hi
  have hT : s.TypeIs (.ref it) "range_iterator" := ⟨_, hit, rfl⟩
  refine wpAny_callSpecial?_slot (name := Str.ofString "__next__") hT PySem.F.slot_range_iterator_next (wpAny_call_entry PySem.F.slot_range_iterator_next hT PySem.F.entry_range_iterator_next ?_ (PySem.F.args_range_iterator_next_1 _))
  show wpAny _ _ (field (.ref it) 0 >>= _) _ _ s
  refine wpAny_bind (wpAny_field hit rfl (x := rawInt v) rfl ?_)
  show wpAny _ _ (field (.ref it) 1 >>= _) _ _ s
  refine wpAny_bind (wpAny_field hit rfl (x := rawInt ((left : Int) + 1)) rfl ?_)
  show wpAny _ _ (field (.ref it) 2 >>= _) _ _ s
  refine wpAny_bind (wpAny_field hit rfl (x := rawInt step) rfl ?_)
  show wpAny _ _ (if (left : Int) + 1 ≤ 0 then _ else _) _ _ s
  first | refine wI_neg (by walk_at "l") ?_ | rw [if_neg (by walk_at "l")]
  refine wpAny_bind (t_setField (c := .type "range_iterator") S i hi (by simp) fun s1 S1 => ?_)
  refine wpAny_bind (t_setField (c := .type "range_iterator") S1 i (List.getElem?_set_self hlt) (by simp) fun s2 S2 => ?_)
  refine wpAny_bind (wpAny_mkInt (wpAny_pure ⟨_, rfl, h _ _ ?_⟩))
  rw [List.set_set] at S2
  have e : (left : Int) + 1 - 1 = left := by walk_at "l"
  have S3 := S2.tok (t := s2.toks + 1)
  rw [e] at S3
  exact S3
theorem c_ri_end {it : Addr} {v : Int} {step : Int} {Q : Option Value → Shared → Prop} (hh : A.handled = none) (S : St g L l N o s) (i : Nat) (hi : N[i]? = some (it, riObj v 0 step))
    (h : ∀ e s', St g L l N o s' → s'.TypeIs (.ref e) "StopIteration" → E (.ref e) s') : wpAny (model prog w) A (callSpecial? (.ref it) (Str.ofString "__next__")) Q E s := by
  have hit := S.at (List.mem_of_getElem? hi)
  have hT : s.TypeIs (.ref it) "range_iterator" := ⟨_, hit, rfl⟩
  refine wpAny_callSpecial?_slot (name := Str.ofString "__next__") hT PySem.F.slot_range_iterator_next (wpAny_call_entry PySem.F.slot_range_iterator_next hT PySem.F.entry_range_iterator_next ?_ (PySem.F.args_range_iterator_next_1 _))
  show wpAny _ _ (field (.ref it) 0 >>= _) _ _ s
  refine wpAny_bind (wpAny_field hit rfl (x := rawInt v) rfl ?_)
  show wpAny _ _ (field (.ref it) 1 >>= _) _ _ s
  refine wpAny_bind (wpAny_field hit rfl (x := rawInt 0) rfl ?_)
  show wpAny _ _ (field (.ref it) 2 >>= _) _ _ s
  refine wpAny_bind (wpAny_field hit rfl (x := rawInt step) rfl ?_)
  show wpAny _ _ (if (0 : Int) ≤ 0 then _ else _) _ _ s
  first | refine wI_pos (by walk_at "l") ?_ | rw [if_pos (by walk_at "l")]
  refine wpAny_bind (wpAny_rule ?_)
  exact wpAny_bind (t_stop hh S h)

noncomputable def zipObj (f0 : Value) (TI TO : Addr) : Obj := { cls := .type "zip", data := .fields #[f0, .bool false, .bool false, .ref TI, .ref TO] }
noncomputable abbrev prObj (a b : Value) : Obj := seqObj "tuple" #[a, b] 0

noncomputable def zipL (z TI TO ri it : Addr) (f0 a b : Value) (ro io : Obj) : List (Addr × Obj) := [(z, zipObj f0 TI TO), (TO, prObj a b), (TI, prObj (.ref ri) (.ref it)), (ri, ro), (it, io)]

theorem t_pair {T : Addr} {a b y : Value} {k : Nat} {Q : Unit → Shared → Prop} (S : St g L l N o s) (i : Nat) (hi : N[i]? = some (T, prObj a b)) (h : ∀ s', St g L l (N.set i (T, { cls := .type "tuple", data := .seq ((#[a, b] : Array Value).setIfInBounds k y) })) o s' → Q () s') :
    wpAny (model prog w) A (updateSeq T (·.setIfInBounds k y)) Q E s :=
  wpAny_updateSeq_pair (S.at (List.mem_of_getElem? hi)) fun _ h1 hs => h _ (S.upd i hi hs h1)

theorem n_zip {z TI TO ri it : Addr} {a b : Value} {v step : Int} {left k : Nat} {y : Value} {Q : Option Value → Shared → Prop} (hx : SeqAt g x xs) (S : St g L l (zipL z TI TO ri it .none a b (riObj v ((left : Int) + 1) step) (liObj x k) ++ M) o s) (hy : xs[k]? = some y)
    (h : ∀ T t s', St g L l ((T, prObj (.int v t) y) :: zipL z TI TO ri it (rawInt T) (.int v t) y (riObj (v + step) left step) (liObj x (k + 1)) ++ M) o s' → Q (some (.ref T)) s') : wpAny (model prog w) A (pyNext (.ref z)) Q E s := by
  unfold zipL at S
  simp only [List.cons_append, List.nil_append] at S
  have hz := S.at (.head _)
  have hT : s.TypeIs (.ref z) "zip" := ⟨_, hz, rfl⟩
  refine pyNext_of (X := fun _ _ => False) (wpAny_callSpecial?_slot (name := Str.ofString "__next__") hT PySem.F.slot_zip_next (wpAny_call_entry PySem.F.slot_zip_next hT PySem.F.entry_zip_next ?_ (PySem.F.args_zip_next_1 _))) (fun _ _ q => q.elim)
  show wpAny _ _ (field (.ref z) 2 >>= _) _ _ _
  refine wpAny_bind (wpAny_field hz rfl (x := .bool false) rfl ?_)
  show wpAny _ _ (field (.ref z) 3 >>= _) _ _ _
  refine wpAny_bind (wpAny_field hz rfl (x := .ref TI) rfl ?_)
  refine wpAny_bind (wpAny_seqItems (S.at (.tail _ (.tail _ (.head _)))) rfl ?_)
  show wpAny _ _ (Builtin.SmallTypes.ownedTupleIsFree (.ref z) >>= _) _ _ _
  refine wpAny_bind ?_
  unfold Builtin.SmallTypes.ownedTupleIsFree
  refine wpAny_bind (wpAny_field hz rfl (x := .none) rfl (wpAny_pure ?_))
  first | refine wI_pos rfl ?_ | simp only [if_true]
  refine wpAny_bind (wpAny_rule ?_)
  refine wpAny_bind (wpAny_field hz rfl (x := .ref TO) rfl ?_)
  refine wpAny_bind (t_setField (c := .type "zip") S 0 rfl (by simp) fun s1 S1 => ?_)
  refine wpAny_bind ?_
  simp only [List.zipIdx_cons, List.zipIdx_nil, List.forIn_cons, List.forIn_nil]
  refine wpAny_bind (wpAny_bind (wpAny_onRaise ?_))
  show wpAny _ _ (Builtin.SmallTypes.nextOf (.ref ri) >>= _) _ _ _
  refine wpAny_bind (nextOf_of (c_ri S1 3 rfl fun t s2 S2 => ⟨_, rfl, wpAny_pure ?_⟩))
  refine wpAny_bind (wpAny_seqItems (S2.at (.tail _ (.head _))) rfl ?_)
  refine wpAny_bind (t_pair S2 1 rfl fun s3 S3 => ?_)
  refine wpAny_bind (wpAny_letGo (wpAny_pure ?_))
  refine wpAny_bind (wpAny_bind (wpAny_onRaise ?_))
  show wpAny _ _ (Builtin.SmallTypes.nextOf (.ref it) >>= _) _ _ _
  refine wpAny_bind (nextOf_of (c_li S3 4 rfl (hx.to fun _ e => S3.kept _ _ e) hy fun s4 S4 => ⟨_, rfl, wpAny_pure ?_⟩))
  refine wpAny_bind (wpAny_seqItems (S4.at (.tail _ (.head _))) rfl ?_)
  refine wpAny_bind (t_pair (a := .int v t) (b := b) S4 1 rfl fun s5 S5 => ?_)
  refine wpAny_bind (wpAny_letGo (wpAny_pure (wpAny_pure ?_)))
  refine wpAny_bind (wpAny_seqItems (S5.at (.tail _ (.head _))) rfl ?_)
  refine wpAny_bind (t_new (T := "tuple") S5 rfl (fun T s6 S6 => ?_) (by show (((#[Value.int v t, b] : Array Value).setIfInBounds (0 + 1) y).toList.toArray).size ≤ sizeLine; simp [sizeLine_eq]))
  show wpAny _ _ (Builtin.SmallTypes.ownedTupleHandOut (.ref z) (.ref T) >>= _) _ _ _
  refine wpAny_bind ?_
  unfold Builtin.SmallTypes.ownedTupleHandOut
  refine wpAny_bind (t_setField (c := .type "zip") S6 1 rfl (by simp) fun s7 S7 => ?_)
  refine t_setField (c := .type "zip") S7 1 rfl (by simp) fun s8 S8 => ?_
  exact wpAny_pure ⟨_, rfl, _, rfl, h T t s8 S8⟩

theorem n_zip_end1 {z TI TO ri it : Addr} {a b : Value} {v step : Int} {io : Obj} {Q : Option Value → Shared → Prop} (hh : A.handled = none) (S : St g L l (zipL z TI TO ri it .none a b (riObj v 0 step) io ++ M) o s)
    (h : ∀ s', St g L l (zipL z TI TO ri it .none a b (riObj v 0 step) io ++ M) o s' → Q none s') : wpAny (model prog w) A (pyNext (.ref z)) Q E s := by
  unfold zipL at S h
  simp only [List.cons_append, List.nil_append] at S h
  have hz := S.at (.head _)
  have hT : s.TypeIs (.ref z) "zip" := ⟨_, hz, rfl⟩
  refine pyNext_of (X := fun e s' => ∃ a, e = .ref a ∧ s'.TypeIs (.ref a) "StopIteration" ∧ Q none s') (wpAny_callSpecial?_slot (name := Str.ofString "__next__") hT PySem.F.slot_zip_next (wpAny_call_entry PySem.F.slot_zip_next hT PySem.F.entry_zip_next ?_ (PySem.F.args_zip_next_1 _))) (fun _ _ q => q)
  show wpAny _ _ (field (.ref z) 2 >>= _) _ _ _
  refine wpAny_bind (wpAny_field hz rfl (x := .bool false) rfl ?_)
  show wpAny _ _ (field (.ref z) 3 >>= _) _ _ _
  refine wpAny_bind (wpAny_field hz rfl (x := .ref TI) rfl ?_)
  refine wpAny_bind (wpAny_seqItems (S.at (.tail _ (.tail _ (.head _)))) rfl ?_)
  show wpAny _ _ (Builtin.SmallTypes.ownedTupleIsFree (.ref z) >>= _) _ _ _
  refine wpAny_bind ?_
  unfold Builtin.SmallTypes.ownedTupleIsFree
  refine wpAny_bind (wpAny_field hz rfl (x := .none) rfl (wpAny_pure ?_))
  first | refine wI_pos rfl ?_ | simp only [if_true]
  refine wpAny_bind (wpAny_rule ?_)
  refine wpAny_bind (wpAny_field hz rfl (x := .ref TO) rfl ?_)
  refine wpAny_bind (t_setField (c := .type "zip") S 0 rfl (by simp) fun s1 S1 => ?_)
  refine wpAny_bind ?_
  simp only [List.zipIdx_cons, List.zipIdx_nil, List.forIn_cons, List.forIn_nil]
  refine wpAny_bind (wpAny_bind (wpAny_onRaise ?_))
  show wpAny _ _ (Builtin.SmallTypes.nextOf (.ref ri) >>= _) _ _ _
  refine wpAny_bind (nextOf_of (c_ri_end (A := A.in1) hh S1 3 rfl fun e s2 S2 hE => ?_))
  have ne : e ≠ z := fun q => by obtain ⟨oe, h1, h2⟩ := hE; rw [q, S2.at (.head _)] at h1; cases h1; exact absurd h2 (by show ¬ (Value.type "zip" = Value.type "StopIteration"); decide)
  obtain ⟨oe, he1, he2⟩ := hE
  refine wpAny_setField_rec (S2.at (.head _)) (by simp) fun h' h1 hs => ?_
  exact ⟨e, rfl, ⟨oe, (hs.2 e ne).trans he1, he2⟩, h _ (S2.upd 0 rfl hs h1)⟩
theorem n_zip_end2 {z TI TO ri it : Addr} {a b : Value} {v step : Int} {left : Nat} {Q : Option Value → Shared → Prop} (hh : A.handled = none) (hx : SeqAt g x xs) (S : St g L l (zipL z TI TO ri it .none a b (riObj v ((left : Int) + 1) step) (liObj x xs.length) ++ M) o s)
    (h : ∀ s', St g L l ((it, liEnd xs.length) :: M) o s' → Q none s') : wpAny (model prog w) A (pyNext (.ref z)) Q E s := by
  unfold zipL at S
  simp only [List.cons_append, List.nil_append] at S
  have hz := S.at (.head _)
  have hT : s.TypeIs (.ref z) "zip" := ⟨_, hz, rfl⟩
  refine pyNext_of (X := fun e s' => ∃ a, e = .ref a ∧ s'.TypeIs (.ref a) "StopIteration" ∧ Q none s') (wpAny_callSpecial?_slot (name := Str.ofString "__next__") hT PySem.F.slot_zip_next (wpAny_call_entry PySem.F.slot_zip_next hT PySem.F.entry_zip_next ?_ (PySem.F.args_zip_next_1 _))) (fun _ _ q => q)
  show wpAny _ _ (field (.ref z) 2 >>= _) _ _ _
  refine wpAny_bind (wpAny_field hz rfl (x := .bool false) rfl ?_)
  show wpAny _ _ (field (.ref z) 3 >>= _) _ _ _
  refine wpAny_bind (wpAny_field hz rfl (x := .ref TI) rfl ?_)
  refine wpAny_bind (wpAny_seqItems (S.at (.tail _ (.tail _ (.head _)))) rfl ?_)
  show wpAny _ _ (Builtin.SmallTypes.ownedTupleIsFree (.ref z) >>= _) _ _ _
  refine wpAny_bind ?_
  unfold Builtin.SmallTypes.ownedTupleIsFree
  refine wpAny_bind (wpAny_field hz rfl (x := .none) rfl (wpAny_pure ?_))
  first | refine wI_pos rfl ?_ | simp only [if_true]
  refine wpAny_bind (wpAny_rule ?_)
  refine wpAny_bind (wpAny_field hz rfl (x := .ref TO) rfl ?_)
  refine wpAny_bind (t_setField (c := .type "zip") S 0 rfl (by simp) fun s1 S1 => ?_)
  refine wpAny_bind ?_
  simp only [List.zipIdx_cons, List.zipIdx_nil, List.forIn_cons, List.forIn_nil]
  refine wpAny_bind (wpAny_bind (wpAny_onRaise ?_))
  show wpAny _ _ (Builtin.SmallTypes.nextOf (.ref ri) >>= _) _ _ _
  refine wpAny_bind (nextOf_of (c_ri S1 3 rfl fun t s2 S2 => ⟨_, rfl, wpAny_pure ?_⟩))
  refine wpAny_bind (wpAny_seqItems (S2.at (.tail _ (.head _))) rfl ?_)
  refine wpAny_bind (t_pair S2 1 rfl fun s3 S3 => ?_)
  refine wpAny_bind (wpAny_letGo (wpAny_pure ?_))
  refine wpAny_bind (wpAny_bind (wpAny_onRaise ?_))
  show wpAny _ _ (Builtin.SmallTypes.nextOf (.ref it) >>= _) _ _ _
  refine wpAny_bind (nextOf_of (c_li_end (A := A.in1) hh S3 4 rfl (hx.to fun _ e => S3.kept _ _ e) (Nat.le_refl _) fun e s4 S4 hE => ?_))
  have ne : e ≠ z := fun q => by obtain ⟨oe, h1, h2⟩ := hE; rw [q, S4.at (.head _)] at h1; cases h1; exact absurd h2 (by show ¬ (Value.type "zip" = Value.type "StopIteration"); decide)
  obtain ⟨oe, he1, he2⟩ := hE
  refine wpAny_setField_rec (S4.at (.head _)) (by simp) fun h' h1 hs => ?_
  exact ⟨e, rfl, ⟨oe, (hs.2 e ne).trans he1, he2⟩, h _ ((S4.upd 0 rfl hs h1).less (.cons _ (.cons _ (.cons _ (.cons _ (.refl _))))))⟩

theorem go_zip {elts : List Expr} {k : Nat} {pos : Pos} {z TI TO T : Addr} {Q : Unit → Shared → Prop} (S : St g L l N o s) (i : Nat) (hi : N[i]? = some (z, zipObj (rawInt T) TI TO)) (h : ∀ s', St g L l (N.set i (z, zipObj .none TI TO)) o s' → Q () s') :
    wpAny (model prog w) A (letOwnedTupleGo (.Tuple elts k pos) (.ref z) (.ref T)) Q E s :=
  wpAny_letOwnedTupleGo_zip (S.at (List.mem_of_getElem? hi)) fun _ h1 hs => h _ (S.upd i hi hs h1)
theorem i_zip {z TI TO : Addr} {f0 : Value} {Q : Value → Shared → Prop} (hz : s.heap.get? z = some (zipObj f0 TI TO)) (h : Q (.ref z) s) : wpAny (model prog w) A (pyIter (.ref z)) Q E s := wpAny_pyIter_zip hz h
end

section
variable {w : World} {A : Around} {E : Value → Shared → Prop} {s : Shared} {g g₀ : Heap} {L : Addr} {l : List (Str × Value)} {N M : List (Addr × Obj)} {o : OsState} {x : Addr} {xs : List Value}
theorem c_zip {r it : Addr} {k : Nat} {va vb vc : Int} {t u v : Tok} {Q : Value → Shared → Prop} (hr : s.heap.get? r = some (rngObj va vb vc t u v)) (hsm : Builtin.Range.small va vb vc = true) (S : St g L l ((it, liObj x k) :: M) o s)
    (h : ∀ ri TI TO z s', St g L l (zipL z TI TO ri it .none .none .none (riObj va (Builtin.Range.rangeSize va vb vc) vc) (liObj x k) ++ M) o s' → Q (.ref z) s') : wpAny (model prog w) A (call (.type "zip") [.ref r, .ref it]) Q E s := by
  refine callType_newIn (S := fun A' R s' => s' = s ∧ ∀ ri TI TO z s'', St g L l (zipL z TI TO ri it .none .none .none (riObj va (Builtin.Range.rangeSize va vb vc) vc) (liObj x k) ++ M) o s'' → R (.ok (.ret (.ref z))) s'') PySem.F.called_zip (by decide) (PySem.F.typeCall_zip_2 _ _) (PySem.F.newCall_zip_2 _ _) (fun obj => PySem.F.args_object_init_3 obj _ _) PySem.F.entry_zip_new ?_ ⟨rfl, ?_⟩
  · refine .of_wp fun A' R s' hs => ?_
    obtain ⟨rfl, hq⟩ := hs
    unfold Builtin.«zip.__new__»
    refine wpAny_bind (wpAny_of_eq (a := (Value.type "zip", [Value.ref r, Value.ref it])) (by kernel_rfl) ?_)
    show wpAny _ _ (Builtin.SmallTypes.iterAll [.ref r, .ref it] >>= fun its => newTuple its >>= fun a => newTuple (its.map fun _ => .none) >>= fun b => Builtin.SmallTypes.newRecord (.type "zip") [.none, .bool false, .bool false, a, b] >>= fun z => ret z) _ _ _
    refine wpAny_bind ?_
    unfold Builtin.SmallTypes.iterAll
    simp only [List.forIn_cons, List.forIn_nil]
    refine wpAny_bind (wpAny_bind (wpAny_bind (wpAny_holding (wpAny_pyIter_range hr hsm ?_))))
    have S1 := S.new (riObj va (Builtin.Range.rangeSize va vb vc) vc) rfl
    refine wpAny_pure ?_
    have hit : ({ s' with heap := s'.heap.push (riObj va (Builtin.Range.rangeSize va vb vc) vc) } : Shared).heap.IsListIter it x k := ⟨_, S1.at (.tail _ (.head _)), rfl, rfl⟩
    refine wpAny_bind (wpAny_bind (wpAny_holding (wpAny_pyIter_listiter hit ?_)))
    refine wpAny_pure (wpAny_pure (wpAny_pure ?_))
    refine wpAny_bind (t_new (T := "tuple") S1 rfl (fun TI s2 S2 => ?_) (by show Array.size _ ≤ sizeLine; simp [sizeLine_eq]))
    refine wpAny_bind (t_new (T := "tuple") S2 rfl (fun TO s3 S3 => ?_) (by show Array.size _ ≤ sizeLine; simp [sizeLine_eq]))
    refine wpAny_bind (t_new (T := "zip") (d := .fields #[.none, .bool false, .bool false, .ref TI, .ref TO]) S3 rfl (fun z s4 S4 => ?_) (by show Array.size _ ≤ _; simp [sizeLine_eq]))
    exact wpAny_pure ⟨_, rfl, hq _ TI TO z s4 S4⟩
  · intro ri TI TO z s'' S''
    exact ⟨⟨_, S''.at (.head _), rfl⟩, h ri TI TO z s'' S''⟩
end

section
variable {w : World} {A : Around} {E : Value → Shared → Prop} {s : Shared} {g g₀ : Heap} {L : Addr} {l : List (Str × Value)} {N : List (Addr × Obj)} {o : OsState} {env : Env}

theorem as_tup {elts : List Expr} {k : Nat} {pos : Pos} {t : Addr} {items : List Value} {e : Nat} {Q : Unit → Shared → Prop} (hh : A.handled = none) (S : St g L l N o s) (ht : s.heap.get? t = some (seqObj "tuple" items.toArray e))
    (h : ∀ s', St g L l N o s' → wpAny (model prog w) A (assignInOrder ((assignEach elts env).map (·.2)) items) Q E s') (hn : (assignEach elts env).length = items.length := by rfl) (hstar : (assignEach elts env).findIdx? (·.1) = none := by rfl) :
    wpAny (model prog w) A (assign (.Tuple elts k pos) env (.ref t)) Q E s := by
  refine assign_Tuple_tuple hh (items := items.toArray) ⟨_, ht, rfl, _, rfl⟩ (by simpa using hn) hstar fun h' he => ?_
  have := h { s with heap := h' } (S.grown (fun b ob q => he b ob (Nat.ne_of_lt (Heap.lt_size q)) q) rfl rfl)
  simpa using this
theorem tr_list {a : Addr} {vs : List Value} {e : Nat} {Q : Bool → Shared → Prop} (S : St g L l N o s) (ho : s.heap.get? a = some (seqObj "list" vs.toArray e)) (hz : vs.length < 1000) (h : ∀ s', St g L l N o s' → Q (decide (vs ≠ [])) s') : wpAny (model prog w) A (truthy (.ref a)) Q E s := by
  refine wpAny_truthy_list (items := vs.toArray) ⟨_, ho, rfl, _, rfl⟩ (by simp; lia) ?_
  have e : (!vs.toArray.isEmpty) = decide (vs ≠ []) := by cases vs <;> simp
  rw [e]
  exact h _ S.tok
theorem i_tup {value slice : Expr} {t : Addr} {items : List Value} {e j : Nat} {k : Int} {u : Tok} {v : Value} {Q : Value → Shared → Prop} (ho : s.heap.get? t = some (seqObj "tuple" items.toArray e)) (hk : k = (j : Int)) (hj : items[j]? = some v) (hz : items.length < 1000) (h : Q v s)
    (hs : subscripted slice false (.ref t) (.int k u) = operate [.ref t, .int k u] (getItem (.ref t) (.int k u)) := by with_unfolding_all rfl) : wpAny (model prog w) A (subscriptTail value slice (.ref t) (.int k u)) Q E s := by
  have ht : IsTup s.heap t items.toArray := ⟨_, ho, rfl, _, rfl⟩
  obtain ⟨q, _⟩ := List.getElem?_eq_some_iff.mp hj
  subst hk
  exact item_tupleT (j := j) ht (by walk_at "l") (by walk_at "l") (seqIndex_of (Int.natCast_nonneg j) (Int.ofNat_lt.mpr q)) hj h hs
theorem ia_add {a b : Int} {t u : Tok} {Q : Value → Shared → Prop} (S : St g L l N o s) (h : ∀ t s', St g L l N o s' → Q (.int (a + b) t) s') : wpAny (model prog w) A (inplaceOp .Add (.int a t) (.int b u)) Q E s := PyProof.Rows.iadd_int (h _ _ S.tok)
theorem ia_sub {a b : Int} {t u : Tok} {Q : Value → Shared → Prop} (S : St g L l N o s) (h : ∀ t s', St g L l N o s' → Q (.int (a - b) t) s') : wpAny (model prog w) A (inplaceOp .Sub (.int a t) (.int b u)) Q E s := PyProof.Rows.isub_int (h _ _ S.tok)
end

section
variable {n : Nat} {L : Nat → Nat → Bool}
theorem TT.tr (W : WO n L) {i j k : Nat} (hi : i < n) (hj : j < n) (hk : k < n) (h1 : TT L i j) (h2 : TT L j k) : TT L i k := by
  rcases h1 with h1 | ⟨h1, l1⟩ <;> rcases h2 with h2 | ⟨h2, l2⟩
  · exact .inl (W.tr i j k hi hj hk h1 h2)
  · exact .inl (W.lt_le hi hj hk h1 h2)
  · exact .inl (W.le_lt hi hj hk h1 h2)
  · exact .inr ⟨W.le_tr hi hj hk h1 h2, by walk_at "l"⟩
theorem TT.tot {i j : Nat} (h : i ≠ j) : TT L i j ∨ TT L j i := by
  cases h1 : L i j with
  | true => exact .inl (.inl h1)
  | false =>
    cases h2 : L j i with
    | true => exact .inr (.inl h2)
    | false =>
      rcases Nat.lt_or_gt_of_ne h with q | q
      · exact .inl (.inr ⟨h2, q⟩)
      · exact .inr (.inr ⟨h1, q⟩)
theorem TT.asym (W : WO n L) {i j : Nat} (hi : i < n) (hj : j < n) (h1 : TT L i j) : ¬ TT L j i := by
  rintro (h2 | ⟨h2, l2⟩) <;> rcases h1 with h1 | ⟨h1, l1⟩
  · have := W.asy hi hj h1; rw [h2] at this; cases this
  · rw [h2] at h1; cases h1
  · rw [h1] at h2; cases h2
  · lia
theorem ins_exists (W : WO n L) {a : Nat} (ha : a < n) : ∀ (l : List Nat), (∀ x ∈ l, x < n) → l.Pairwise (TT L) → a ∉ l → ∃ l' : List Nat, l'.Perm (a :: l) ∧ l'.Pairwise (TT L)
  | [], _, _, _ => ⟨[a], .refl _, by simp⟩
  | b :: l, hl, hp, han => by
    have hb := hl b (.head _)
    have hp' := List.pairwise_cons.mp hp
    have hab : a ≠ b := fun q => han (q ▸ .head _)
    rcases TT.tot (L := L) hab with h | h
    · refine ⟨a :: b :: l, .refl _, List.pairwise_cons.mpr ⟨fun c hc => ?_, hp⟩⟩
      rcases List.mem_cons.mp hc with rfl | hc
      · exact h
      · exact TT.tr W ha hb (hl c (.tail _ hc)) h (hp'.1 c hc)
    · obtain ⟨l', p, q⟩ := ins_exists W ha l (fun x hx => hl x (.tail _ hx)) hp'.2 (fun hm => han (.tail _ hm))
      refine ⟨b :: l', (p.cons b).trans (.swap ..), List.pairwise_cons.mpr ⟨fun c hc => ?_, q⟩⟩
      rcases List.mem_cons.mp (p.mem_iff.mp hc) with rfl | hc
      · exact h
      · exact hp'.1 c hc
theorem ord_exists (W : WO n L) : ∀ k, k ≤ n → ∃ τ : List Nat, τ.Perm (List.range k) ∧ τ.Pairwise (TT L)
  | 0, _ => ⟨[], by simp, by simp⟩
  | k + 1, hk => by
    obtain ⟨τ, p, q⟩ := ord_exists W k (by walk_at "l")
    obtain ⟨τ', p', q'⟩ := ins_exists W (a := k) (by walk_at "l") τ (fun x hx => by have := List.mem_range.mp (p.mem_iff.mp hx); lia) q (fun hm => by have := List.mem_range.mp (p.mem_iff.mp hm); lia)
    refine ⟨τ', p'.trans ((p.cons k).trans ?_), q'⟩
    rw [List.range_succ]
    exact (List.perm_append_singleton k (List.range k)).symm
theorem ord_uniq (W : WO n L) : ∀ (l₁ l₂ : List Nat), (∀ x ∈ l₁, x < n) → l₁.Perm l₂ → l₁.Pairwise (TT L) → l₂.Pairwise (TT L) → l₁ = l₂
  | [], l₂, _, p, _, _ => (List.Perm.nil_eq p)
  | a :: l₁, [], _, p, _, _ => by have := p.length_eq; simp at this
  | a :: l₁, b :: l₂, hl, p, q1, q2 => by
    have h1 := List.pairwise_cons.mp q1
    have h2 := List.pairwise_cons.mp q2
    have e : a = b := Classical.byContradiction fun hne => by
      have hbm : b ∈ l₁ := by
        rcases List.mem_cons.mp (p.mem_iff.mpr (.head _)) with q | q
        · exact absurd q.symm hne
        · exact q
      have ham : a ∈ l₂ := by
        rcases List.mem_cons.mp (p.mem_iff.mp (.head _)) with q | q
        · exact absurd q hne
        · exact q
      exact TT.asym W (hl a (.head _)) (hl b (.tail _ hbm)) (h1.1 b hbm) (h2.1 a ham)
    subst e
    rw [ord_uniq W l₁ l₂ (fun x hx => hl x (.tail _ hx)) (List.Perm.cons_inv p) h1.2 h2.2]
end

theorem nodup_le : ∀ (n : Nat) (l : List Nat), l.Nodup → (∀ x ∈ l, x < n) → l.length ≤ n
  | 0, [], _, _ => Nat.le_refl _
  | 0, x :: _, _, h => absurd (h x (.head _)) (by walk_at "l")
  | n + 1, l, hn, h => by
    by_cases hm : n ∈ l
    · have := nodup_le n (l.erase n) (hn.erase n) (fun x hx => by
        have h1 := hn.mem_erase_iff.mp hx
        have h2 := h x h1.2
        have h3 := h1.1
        lia)
      rw [List.length_erase_of_mem hm] at this
      have : 0 < l.length := List.length_pos_of_mem hm
      lia
    · have := nodup_le n l hn (fun x hx => by
        have h2 := h x hx
        have h3 : x ≠ n := fun q => hm (q ▸ hx)
        lia)
      lia
theorem nodup_perm : ∀ (n : Nat) (l : List Nat), l.Nodup → l.length = n → (∀ x ∈ l, x < n) → l.Perm (List.range n)
  | 0, [], _, _, _ => .refl _
  | 0, _ :: _, _, h, _ => absurd h (by simp)
  | n + 1, l, hn, hl, h => by
    have hm : n ∈ l := Classical.byContradiction fun hm => by
      have := nodup_le n l hn (fun x hx => by
        have h2 := h x hx
        have h3 : x ≠ n := fun q => hm (q ▸ hx)
        lia)
      lia
    have ih := nodup_perm n (l.erase n) (hn.erase n) (by rw [List.length_erase_of_mem hm]; lia) (fun x hx => by
      have h1 := hn.mem_erase_iff.mp hx
      have h2 := h x h1.2
      have h3 := h1.1
      lia)
    refine (List.perm_cons_erase hm).trans ((ih.cons n).trans ?_)
    rw [List.range_succ]
    exact (List.perm_append_singleton n (List.range n)).symm

section
variable {L : Nat → Nat → Bool} {vs : List Value}
theorem SortedBy.places {out : List Value} (W : WO vs.length L) (h : SortedBy L vs out) : ∃ τ : List Nat, τ.Perm (List.range vs.length) ∧ τ.Pairwise (TT L) ∧ out = τ.map (vs.getD · .none) := by
  obtain ⟨σ, h1, h2, h3, h4⟩ := h
  have hpw : ((List.range vs.length).map σ).Pairwise (TT L) := by
    rw [List.pairwise_iff_getElem]
    intro i j hi hj hij
    simp at hi hj ⊢
    exact h4 i j hij hj
  have hnd : ((List.range vs.length).map σ).Nodup := by
    refine List.Pairwise.imp_of_mem ?_ hpw
    intro a b ha hb hab e
    subst e
    obtain ⟨k, hk, rfl⟩ := List.mem_map.mp ha
    have hk' := h2 k (List.mem_range.mp hk)
    exact TT.asym W hk' hk' hab hab
  refine ⟨(List.range vs.length).map σ, ?_, hpw, ?_⟩
  · exact nodup_perm _ _ hnd (by simp) fun x hx => by
      obtain ⟨k, hk, rfl⟩ := List.mem_map.mp hx
      exact h2 k (List.mem_range.mp hk)
  · apply List.ext_getElem?
    intro k
    by_cases hk : k < vs.length
    · rw [h3 k hk]
      simp [hk, List.getD, List.getElem?_eq_getElem (h2 k hk)]
    · rw [List.getElem?_eq_none (by walk_at "l"), List.getElem?_eq_none (by simp; lia)]
theorem SortedBy.uniq {a b : List Value} (W : WO vs.length L) (h1 : SortedBy L vs a) (h2 : SortedBy L vs b) : a = b := by
  obtain ⟨τ, p, q, rfl⟩ := h1.places W
  obtain ⟨τ', p', q', rfl⟩ := h2.places W
  rw [ord_uniq W τ τ' (fun x hx => List.mem_range.mp (p.mem_iff.mp hx)) (p.trans p'.symm) q q']
theorem SortedBy.of {τ : List Nat} (p : τ.Perm (List.range vs.length)) (q : τ.Pairwise (TT L)) : SortedBy L vs (τ.map (vs.getD · .none)) := by
  have hlen : τ.length = vs.length := by simpa using p.length_eq
  have hlt : ∀ k (hk : k < τ.length), τ[k] < vs.length := fun k hk => List.mem_range.mp (p.mem_iff.mp (List.getElem_mem hk))
  refine ⟨fun k => τ.getD k 0, by simpa using hlen, fun k hk => ?_, fun k hk => ?_, fun i j hij hj => ?_⟩
  · simpa [List.getD, List.getElem?_eq_getElem (hlen ▸ hk)] using hlt k (hlen ▸ hk)
  · have hk' : k < τ.length := by walk_at "l"
    have := hlt k hk'
    simp [List.getD, hk', this]
  · have hi' : i < τ.length := by walk_at "l"
    have hj' : j < τ.length := by walk_at "l"
    have := List.pairwise_iff_getElem.mp q i j hi' hj' hij
    simpa [List.getD, hi', hj'] using this
theorem sorted_exists (W : WO vs.length L) : ∃ out, SortedBy L vs out := by
  obtain ⟨τ, p, q⟩ := ord_exists W vs.length (Nat.le_refl _)
  exact ⟨_, SortedBy.of p q⟩
theorem Least.out {out : List Value} {i : Nat} (W : WO vs.length L) (hL : Least L vs.length i) (h : SortedBy L vs out) : out.take 1 = [vs.getD i .none] := by
  obtain ⟨τ, p, q, rfl⟩ := h.places W
  match τ, p, q with
  | [], p, _ =>
    have := p.length_eq
    have h1 := hL.1
    simp at this
    lia
  | t :: τ', p, q =>
    have ht : t < vs.length := List.mem_range.mp (p.mem_iff.mp (.head _))
    have e : t = i := Classical.byContradiction fun hne => by
      have hi : i ∈ τ' := by
        rcases List.mem_cons.mp (p.mem_iff.mpr (List.mem_range.mpr hL.1)) with q | q
        · exact absurd q.symm hne
        · exact q
      exact TT.asym W ht hL.1 ((List.pairwise_cons.mp q).1 i hi) (hL.2 t ht hne)
    subst e
    simp
end

section
variable {α : Type} {lt : α → α → Bool}
theorem hole_perm {xs : List α} {pos i : Nat} {v new : α} (hp : pos < xs.length) (hi : xs[i]? = some v) (hne : i ≠ pos) : ((xs.set pos v).set i new).Perm (xs.set pos new) := by
  obtain ⟨hi', rfl⟩ := List.getElem?_eq_some_iff.mp hi
  have h := List.set_set_perm (as := xs.set pos new) (i := pos) (j := i) (by simpa using hp) (by simpa using hi')
  have e1 : (xs.set pos new)[i]'(by simpa using hi') = xs[i] := by rw [List.getElem_set_ne hne.symm]
  have e2 : (xs.set pos new)[pos]'(by simpa using hp) = new := by simp
  rw [e1, e2, List.set_set] at h
  exact h
theorem sd_perm {new : α} {start : Nat} : ∀ {pos : Nat} {xs : List α}, pos < xs.length → ((sdLoop lt new start pos xs).1.set (sdLoop lt new start pos xs).2 new).Perm (xs.set pos new) := by
  intro pos
  induction pos using Nat.strongRecOn with
  | ind pos ih =>
    intro xs hpos
    rw [sdLoop]
    split
    · split
      · rename_i p hp
        split
        · have hpp : (pos - 1) / 2 < pos := Nat.lt_of_le_of_lt (Nat.div_le_self _ _) (Nat.sub_lt (Nat.lt_of_le_of_lt (Nat.zero_le start) ‹_›) (by decide))
          have h1 := ih ((pos - 1) / 2) hpp (xs := xs.set pos p) (by simpa using Nat.lt_trans hpp hpos)
          exact h1.trans (hole_perm hpos hp (Nat.ne_of_lt hpp))
        · exact .refl _
      · exact .refl _
    · exact .refl _
theorem su_perm {new : α} {e : Nat} : ∀ (n : Nat) {pos : Nat} {xs : List α}, e - pos ≤ n → e ≤ xs.length → pos < xs.length → ((suLoop lt e pos xs).1.set (suLoop lt e pos xs).2 new).Perm (xs.set pos new) := by
  intro n
  induction n with
  | zero => intro pos xs h _ _; rw [suLoop_stop _ _ _ _ (by walk_at "l")]
  | succ n ih =>
    intro pos xs h he hpos
    rw [suLoop]
    split
    · split
      · rename_i c hc
        split
        · rename_i r hr
          split
          · exact (ih (xs := xs.set pos r) (su_le h two2) (by simpa using he) (by simpa using (List.getElem?_eq_some_iff.mp hr).1)).trans (hole_perm hpos hr (Nat.ne_of_gt two2))
          · exact (ih (xs := xs.set pos c) (su_le h two1) (by simpa using he) (by simpa using (List.getElem?_eq_some_iff.mp hc).1)).trans (hole_perm hpos hc (Nat.ne_of_gt two1))
        · exact (ih (xs := xs.set pos c) (su_le h two1) (by simpa using he) (by simpa using (List.getElem?_eq_some_iff.mp hc).1)).trans (hole_perm hpos hc (Nat.ne_of_gt two1))
      · exact .refl _
    · exact .refl _
theorem su_lt {e : Nat} : ∀ (n : Nat) {pos : Nat} {xs : List α}, e - pos ≤ n → e ≤ xs.length → pos < xs.length → (suLoop lt e pos xs).2 < xs.length ∧ pos ≤ (suLoop lt e pos xs).2 := by
  intro n
  induction n with
  | zero => intro pos xs h _ hp; rw [suLoop_stop _ _ _ _ (by walk_at "l")]; exact ⟨hp, Nat.le_refl _⟩
  | succ n ih =>
    intro pos xs h he hpos
    rw [suLoop]
    split
    · split
      · rename_i c hc
        split
        · rename_i r hr
          split
          · have := ih (pos := 2 * pos + 2) (xs := xs.set pos r) (su_le h two2) (by simpa using he) (by simpa using (List.getElem?_eq_some_iff.mp hr).1); simp at this; exact ⟨this.1, Nat.le_trans (Nat.le_of_lt two2) this.2⟩
          · have := ih (pos := 2 * pos + 1) (xs := xs.set pos c) (su_le h two1) (by simpa using he) (by simpa using (List.getElem?_eq_some_iff.mp hc).1); simp at this; exact ⟨this.1, Nat.le_trans (Nat.le_of_lt two1) this.2⟩
        · have := ih (pos := 2 * pos + 1) (xs := xs.set pos c) (su_le h two1) (by simpa using he) (by simpa using (List.getElem?_eq_some_iff.mp hc).1); simp at this; exact ⟨this.1, Nat.le_trans (Nat.le_of_lt two1) this.2⟩
      · exact ⟨hpos, Nat.le_refl _⟩
    · exact ⟨hpos, Nat.le_refl _⟩
theorem sup_perm {pos : Nat} {xs : List α} : (sup lt pos xs).Perm xs := by
  unfold sup
  split
  · rename_i new hn
    obtain ⟨hp, e⟩ := List.getElem?_eq_some_iff.mp hn
    have h1 := su_perm (lt := lt) (new := new) xs.length (pos := pos) (xs := xs) (e := xs.length) (by walk_at "l") (Nat.le_refl _) hp
    have h2 := su_lt (lt := lt) xs.length (pos := pos) (xs := xs) (e := xs.length) (by walk_at "l") (Nat.le_refl _) hp
    have hl : (suLoop lt xs.length pos xs).1.length = xs.length := suLoop_length xs.length (by walk_at "l")
    unfold sdown
    refine (sd_perm (by simp [hl]; exact h2.1)).trans ?_
    rw [List.set_set]
    refine h1.trans ?_
    rw [← e, List.set_getElem_self]
  · exact .refl _
theorem hfy_perm : ∀ (k : Nat) (xs : List α), (hfy lt k xs).Perm xs
  | 0, _ => .refl _
  | k + 1, xs => (hfy_perm k _).trans sup_perm
end

noncomputable def Child (i c : Nat) : Prop := c = 2 * i + 1 ∨ c = 2 * i + 2
theorem Child.lt {i c : Nat} (h : Child i c) : i < c := by rcases h with rfl | rfl; exact two1; exact two2
theorem Child.ge {i c : Nat} (h : Child i c) : 2 * i + 1 ≤ c := by rcases h with rfl | rfl; exact Nat.le_refl _; exact Nat.le_succ _
theorem Child.half {i c : Nat} (h : Child i c) : (c - 1) / 2 = i := by
  rcases h with rfl | rfl
  · exact Nat.mul_div_cancel_left i (by decide)
  · exact (Nat.mul_add_div (by decide) i 1).trans rfl
theorem child_half {p : Nat} (h : 0 < p) : Child ((p - 1) / 2) p := by unfold Child; lia
inductive Desc (j : Nat) : Nat → Prop
  | refl : Desc j j
  | left {i : Nat} : Desc j i → Desc j (2 * i + 1)
  | right {i : Nat} : Desc j i → Desc j (2 * i + 2)
theorem Desc.le {j i : Nat} (h : Desc j i) : j ≤ i := by induction h <;> lia
theorem Desc.up {j i : Nat} (h : Desc j i) (hne : j < i) : Desc j ((i - 1) / 2) := by
  cases h with
  | refl => lia
  | @left k h => rw [Child.half (.inl rfl)]; exact h
  | @right k h => rw [Child.half (.inr rfl)]; exact h
structure LO {α : Type} (lt : α → α → Bool) : Prop where
  asy : ∀ a b, lt a b = true → lt b a = false
  ntr : ∀ a b c, lt b a = false → lt c b = false → lt c a = false
section
variable {α : Type} {lt : α → α → Bool}
noncomputable def Edge (lt : α → α → Bool) (xs : List α) (i c : Nat) : Prop := ∀ a b, xs[i]? = some a → xs[c]? = some b → lt b a = false
noncomputable def HeapFrom (lt : α → α → Bool) (j : Nat) (xs : List α) : Prop := ∀ i c, j ≤ i → Child i c → Edge lt xs i c
structure Hole (lt : α → α → Bool) (j p : Nat) (xs : List α) : Prop where
  desc : Desc j p
  away : ∀ i c, j ≤ i → Child i c → i ≠ p → c ≠ p → Edge lt xs i c
  over : j < p → ∀ c, Child p c → Edge lt xs ((p - 1) / 2) c
theorem get_set {xs : List α} {i k : Nat} {v a : α} (h : (xs.set i v)[k]? = some a) : (k = i ∧ a = v) ∨ (k ≠ i ∧ xs[k]? = some a) := by
  by_cases hk : i = k
  · subst hk
    rw [List.getElem?_set] at h
    simp at h
    exact .inl ⟨rfl, h.2.symm⟩
  · rw [List.getElem?_set_ne hk] at h
    exact .inr ⟨fun q => hk q.symm, h⟩
theorem Hole.down {j p q r : Nat} {xs : List α} {v : α} (O : LO lt) (H : Hole lt j p xs) (hq : Child p q) (hv : xs[q]? = some v) (hs : ∀ c b, Child p c → xs[c]? = some b → lt b v = false) : Hole lt j q (xs.set p v) := by
  have hpq : p < q := hq.lt
  have hup : (q - 1) / 2 = p := hq.half
  refine ⟨by rcases hq with h | h <;> rw [h]; exact H.desc.left; exact H.desc.right, fun i c hi hc h1 h2 a b ha hb => ?_, fun _ c hc a b ha hb => ?_⟩
  · rcases get_set ha with ⟨rfl, rfl⟩ | ⟨n1, ha⟩
    · rcases get_set hb with ⟨e, _⟩ | ⟨n2, hb⟩
      · exact absurd e (Nat.ne_of_gt hc.lt)
      · exact hs c b hc hb
    · rcases get_set hb with ⟨e1, e2⟩ | ⟨n2, hb⟩
      · have hjp : j < p := e1 ▸ Nat.lt_of_le_of_lt hi hc.lt
        have e : (p - 1) / 2 = i := e1 ▸ hc.half
        have := H.over hjp q hq
        rw [e] at this
        rw [e2]
        exact this _ _ ha hv
      · exact H.away i c hi hc n1 n2 a b ha hb
  · rw [hup] at ha
    rcases get_set ha with ⟨_, rfl⟩ | ⟨n1, _⟩
    · have hcp : c ≠ p := Nat.ne_of_gt (Nat.lt_trans hpq hc.lt)
      rcases get_set hb with ⟨e, _⟩ | ⟨_, hb⟩
      · exact absurd e hcp
      · exact H.away q c (Nat.le_of_lt (Nat.lt_of_le_of_lt H.desc.le hpq)) hc (Nat.ne_of_gt hpq) hcp _ _ hv hb
    · exact absurd rfl n1
theorem su_hole (O : LO lt) {e j : Nat} : ∀ (n : Nat) {p : Nat} {xs : List α}, e - p ≤ n → e = xs.length → p < xs.length → Hole lt j p xs → Hole lt j (suLoop lt e p xs).2 (suLoop lt e p xs).1 ∧ ¬ 2 * (suLoop lt e p xs).2 + 1 < e := by
  intro n
  induction n with
  | zero => intro p xs h he hp H; rw [suLoop_stop _ _ _ _ (by walk_at "l")]; exact ⟨H, by show ¬ 2 * p + 1 < e; lia⟩
  | succ n ih =>
    intro p xs h he hp H
    by_cases hc : 2 * p + 1 < e
    · have hc' : 2 * p + 1 < xs.length := he ▸ hc
      have hcv : xs[2 * p + 1]? = some (xs[2 * p + 1]'(by walk_at "l")) := List.getElem?_eq_getElem (by walk_at "l")
      by_cases hr : 2 * p + 2 < e ∧ lt (xs[2 * p + 1]'(by walk_at "l")) (xs.getD (2 * p + 2) (xs[2 * p + 1]'(by walk_at "l"))) = false
      · have hr' : 2 * p + 2 < xs.length := he ▸ hr.1
        have hrv : xs[2 * p + 2]? = some (xs[2 * p + 2]'(by walk_at "l")) := List.getElem?_eq_getElem (by walk_at "l")
        have hl : lt (xs[2 * p + 1]'(by walk_at "l")) (xs[2 * p + 2]'(by walk_at "l")) = false := by simpa [List.getD, hrv] using hr.2
        rw [suLoop_right _ _ _ _ hr.1 hcv hrv hl]
        refine ih (su_le h two2) (by simpa using he) (by simpa using hr') (H.down (r := 0) O (.inr rfl) hrv fun c b hc' hb => ?_)
        rcases hc' with h1 | h1
        · rw [h1, hcv] at hb; cases hb; exact hl
        · rw [h1, hrv] at hb; cases hb
          cases hq : lt (xs[2 * p + 2]'(by walk_at "l")) (xs[2 * p + 2]'(by walk_at "l")) with
          | false => rfl
          | true => exact absurd (O.asy _ _ hq) (by rw [hq]; simp)
      · have hl : ∀ r, 2 * p + 2 < e → xs[2 * p + 2]? = some r → lt (xs[2 * p + 1]'(by walk_at "l")) r = true := fun r h1 h2 => by
          cases hq : lt (xs[2 * p + 1]'(by walk_at "l")) r with
          | true => rfl
          | false => exact absurd ⟨h1, by simpa [List.getD, h2] using hq⟩ hr
        rw [suLoop_left _ _ _ _ hc hcv hl]
        refine ih (su_le h two1) (by simpa using he) (by simpa using hc') (H.down (r := 0) O (.inl rfl) hcv fun c b hc' hb => ?_)
        rcases hc' with h1 | h1
        · rw [h1, hcv] at hb; cases hb
          cases hq : lt (xs[2 * p + 1]'(by walk_at "l")) (xs[2 * p + 1]'(by walk_at "l")) with
          | false => rfl
          | true => exact absurd (O.asy _ _ hq) (by rw [hq]; simp)
        · obtain ⟨hlt, _⟩ := List.getElem?_eq_some_iff.mp hb
          exact O.asy _ _ (hl b (by walk_at "l") (h1 ▸ hb))
    · rw [suLoop_stop _ _ _ _ hc]; exact ⟨H, hc⟩
structure HoleUp (lt : α → α → Bool) (j p : Nat) (new : α) (xs : List α) : Prop extends Hole lt j p xs where
  under : ∀ c b, Child p c → xs[c]? = some b → lt b new = false
theorem HoleUp.fill {j p : Nat} {new : α} {xs : List α} (H : HoleUp lt j p new xs) (hstop : j < p → ∀ a, xs[(p - 1) / 2]? = some a → lt new a = false) : HeapFrom lt j (xs.set p new) := by
  intro i c hi hc a b ha hb
  rcases get_set ha with ⟨rfl, rfl⟩ | ⟨n1, ha⟩
  · rcases get_set hb with ⟨e, _⟩ | ⟨n2, hb⟩
    · exact absurd e (Nat.ne_of_gt hc.lt)
    · exact H.under c b hc hb
  · rcases get_set hb with ⟨e1, e2⟩ | ⟨n2, hb⟩
    · have e : (p - 1) / 2 = i := e1 ▸ hc.half
      rw [e2]
      exact hstop (e1 ▸ Nat.lt_of_le_of_lt hi hc.lt) a (e ▸ ha)
    · exact H.away i c hi hc n1 n2 a b ha hb
theorem HoleUp.up {j p : Nat} {new v : α} {xs : List α} (O : LO lt) (H : HoleUp lt j p new xs) (hjp : j < p) (hv : xs[(p - 1) / 2]? = some v) (hlt : lt new v = true) : HoleUp lt j ((p - 1) / 2) new (xs.set p v) := by
  have hd := H.desc.up hjp
  have hj := hd.le
  have hch : Child ((p - 1) / 2) p := child_half (Nat.lt_of_le_of_lt (Nat.zero_le _) hjp)
  have hpp : (p - 1) / 2 < p := hch.lt
  have hnv := O.asy _ _ hlt
  refine ⟨⟨hd, fun i c hi hc h1 h2 a b ha hb => ?_, fun hjg c hc a b ha hb => ?_⟩, fun c b hc hb => ?_⟩
  · rcases get_set ha with ⟨rfl, rfl⟩ | ⟨n1, ha⟩
    · rcases get_set hb with ⟨e, _⟩ | ⟨n2, hb⟩
      · exact absurd e (Nat.ne_of_gt hc.lt)
      · exact H.over hjp c hc _ _ hv hb
    · rcases get_set hb with ⟨rfl, rfl⟩ | ⟨n2, hb⟩
      · exact absurd hc.half.symm h1
      · exact H.away i c hi hc n1 n2 a b ha hb
  · have hgp : Child (((p - 1) / 2 - 1) / 2) ((p - 1) / 2) := child_half (Nat.lt_of_le_of_lt (Nat.zero_le _) hjg)
    have hgne : ((p - 1) / 2 - 1) / 2 ≠ p := Nat.ne_of_lt (Nat.lt_trans hgp.lt hpp)
    have hgj := (hd.up hjg).le
    rcases get_set ha with ⟨e, _⟩ | ⟨_, ha⟩
    · exact absurd e hgne
    · have hgv : lt v a = false := H.away _ _ hgj hgp hgne (Nat.ne_of_lt hpp) a v ha hv
      rcases get_set hb with ⟨_, rfl⟩ | ⟨n2, hb⟩
      · exact hgv
      · exact O.ntr a v b hgv (H.away _ c hj hc (Nat.ne_of_lt hpp) n2 v b hv hb)
  · rcases get_set hb with ⟨_, rfl⟩ | ⟨n2, hb⟩
    · exact hnv
    · exact O.ntr new v b hnv (H.away _ c hj hc (Nat.ne_of_lt hpp) n2 v b hv hb)
theorem sd_heap (O : LO lt) {new : α} {j : Nat} : ∀ {p : Nat} {xs : List α}, p < xs.length → HoleUp lt j p new xs → HeapFrom lt j (sdown lt new j p xs) := by
  intro p
  induction p using Nat.strongRecOn with
  | ind p ih =>
    intro xs hp H
    unfold sdown
    by_cases hj : j < p
    · have hpp := (child_half (Nat.lt_of_le_of_lt (Nat.zero_le _) hj)).lt
      have hpl : (p - 1) / 2 < xs.length := Nat.lt_trans hpp hp
      rw [sdLoop_go _ _ _ _ _ hj (List.getElem?_eq_getElem hpl)]
      split
      · rename_i hl
        exact ih ((p - 1) / 2) hpp (by simpa using hpl) (H.up O hj (List.getElem?_eq_getElem hpl) hl)
      · rename_i hl
        exact H.fill fun _ a ha => by rw [List.getElem?_eq_getElem hpl] at ha; cases ha; simpa using hl
    · rw [sdLoop_stop _ _ _ _ _ hj]
      exact H.fill fun h => absurd h hj
theorem sup_heap (O : LO lt) {j : Nat} {xs : List α} (hj : j < xs.length) (H : HeapFrom lt (j + 1) xs) : HeapFrom lt j (sup lt j xs) := by
  have H0 : Hole lt j j xs := ⟨.refl, fun i c hi hc h1 _ => H i c (Nat.lt_of_le_of_ne hi h1.symm) hc, fun h => absurd h (Nat.lt_irrefl _)⟩
  obtain ⟨H1, hleaf⟩ := su_hole O xs.length (e := xs.length) (Nat.sub_le _ _) rfl hj H0
  have hl : (suLoop lt xs.length j xs).1.length = xs.length := suLoop_length xs.length (Nat.sub_le _ _)
  have hlt := su_lt (lt := lt) xs.length (pos := j) (xs := xs) (e := xs.length) (Nat.sub_le _ _) (Nat.le_refl _) hj
  unfold sup
  rw [List.getElem?_eq_getElem hj]
  dsimp only
  have key : ∀ (q : Nat) (ys : List α), Hole lt j q ys → ys.length = xs.length → ¬ 2 * q + 1 < xs.length → q < ys.length → HeapFrom lt j (sdown lt xs[j] j q (ys.set q xs[j])) := fun q ys Hq hy hq hql => by
    refine sd_heap O (by simpa using hql) ⟨⟨Hq.desc, fun i c hi hc h1 h2 a b ha hb => ?_, fun hjq c hc a b ha hb => ?_⟩, fun c b hc hb => ?_⟩
    · rcases get_set ha with ⟨e, _⟩ | ⟨_, ha⟩
      · exact absurd e h1
      · rcases get_set hb with ⟨e, _⟩ | ⟨_, hb⟩
        · exact absurd e h2
        · exact Hq.away i c hi hc h1 h2 a b ha hb
    · obtain ⟨hcl, _⟩ := List.getElem?_eq_some_iff.mp hb
      simp at hcl
      exact absurd (Nat.lt_of_le_of_lt hc.ge (hy ▸ hcl)) hq
    · obtain ⟨hcl, _⟩ := List.getElem?_eq_some_iff.mp hb
      simp at hcl
      exact absurd (Nat.lt_of_le_of_lt hc.ge (hy ▸ hcl)) hq
  exact key _ _ H1 hl hleaf (by walk_at "l")
theorem hfy_heap (O : LO lt) : ∀ (k : Nat) (xs : List α), k ≤ xs.length → HeapFrom lt k xs → HeapFrom lt 0 (hfy lt k xs)
  | 0, _, _, H => H
  | k + 1, xs, hk, H => hfy_heap O k _ (by rw [sup_length]; lia) (sup_heap O (by walk_at "l") H)
theorem heap_start (xs : List α) : HeapFrom lt (xs.length / 2) xs := fun i c hi hc a b _ hb => by
  obtain ⟨hcl, _⟩ := List.getElem?_eq_some_iff.mp hb
  exact absurd (Nat.lt_of_le_of_lt hc.ge hcl) (by lia)
theorem heap_root (O : LO lt) {xs : List α} (H : HeapFrom lt 0 xs) {r : α} (hr : xs[0]? = some r) : ∀ (i : Nat) (b : α), xs[i]? = some b → lt b r = false := by
  intro i
  induction i using Nat.strongRecOn with
  | ind i ih =>
    intro b hb
    by_cases hi : i = 0
    · subst hi
      rw [hr] at hb; cases hb
      cases hq : lt r r with
      | false => rfl
      | true => exact absurd (O.asy _ _ hq) (by rw [hq]; simp)
    · obtain ⟨hil, _⟩ := List.getElem?_eq_some_iff.mp hb
      have hch := child_half (Nat.pos_of_ne_zero hi)
      have hpl : (i - 1) / 2 < xs.length := Nat.lt_trans hch.lt hil
      have h1 := ih ((i - 1) / 2) hch.lt _ (List.getElem?_eq_getElem hpl)
      exact O.ntr r _ b h1 (H ((i - 1) / 2) i (Nat.zero_le _) hch _ _ (List.getElem?_eq_getElem hpl) hb)
end

section
variable {L : Nat → Nat → Bool} {n : Nat}
structure Few (L : Nat → Nat → Bool) (j : Nat) (S : List Nat) : Prop where
  nd : S.Nodup
  lt : ∀ a ∈ S, a < j
  least : ∀ a ∈ S, ∀ b, b < j → b ∉ S → TT L a b
theorem Few.all (j : Nat) : Few L j (List.range j) := ⟨List.nodup_range, fun a ha => List.mem_range.mp ha, fun a _ b hb hn => absurd (List.mem_range.mpr hb) hn⟩
theorem Few.keep {j r : Nat} {S : List Nat} (W : WO n L) (hj : j < n) (F : Few L j S) (hr : r ∈ S) (hmax : ∀ a ∈ S, a ≠ r → TT L a r) (hb : L j r = false) : Few L (j + 1) S := by
  have hrj := F.lt r hr
  have h1 : TT L r j := .inr ⟨hb, hrj⟩
  refine ⟨F.nd, fun a ha => Nat.lt_succ_of_lt (F.lt a ha), fun a ha b hbj hn => ?_⟩
  by_cases e : b = j
  · subst e
    by_cases har : a = r
    · rw [har]; exact h1
    · exact TT.tr W (by have := F.lt a ha; lia) (by walk_at "l") hj (hmax a ha har) h1
  · exact F.least a ha b (by walk_at "l") hn
theorem Few.swap {j r : Nat} {S S' : List Nat} (W : WO n L) (hj : j < n) (F : Few L j S) (hr : r ∈ S) (hmax : ∀ a ∈ S, a ≠ r → TT L a r) (hb : L j r = true) (hS : S'.Perm (j :: S.erase r)) : Few L (j + 1) S' := by
  have hrj := F.lt r hr
  have h1 : TT L j r := .inl hb
  have mem : ∀ a, a ∈ S' ↔ a = j ∨ (a ≠ r ∧ a ∈ S) := fun a => by rw [hS.mem_iff, List.mem_cons, F.nd.mem_erase_iff]
  refine ⟨hS.nodup_iff.mpr (List.nodup_cons.mpr ⟨fun h => ?_, F.nd.erase r⟩), fun a ha => ?_, fun a ha b hbj hn => ?_⟩
  · exact absurd (F.lt j (F.nd.mem_erase_iff.mp h).2) (Nat.lt_irrefl _)
  · rcases (mem a).mp ha with rfl | ⟨_, h⟩
    · exact Nat.lt_succ_self _
    · exact Nat.lt_succ_of_lt (F.lt a h)
  · have hbj' : b ≠ j := fun q => hn ((mem b).mpr (.inl q))
    have hb2 : b = r ∨ b ∉ S := by
      by_cases q : b = r
      · exact .inl q
      · exact .inr fun h => hn ((mem b).mpr (.inr ⟨q, h⟩))
    have key : TT L r b ∨ b = r := by
      rcases hb2 with q | q
      · exact .inr q
      · exact .inl (F.least r hr b (by walk_at "l") q)
    rcases (mem a).mp ha with rfl | ⟨har, haS⟩
    · rcases key with q | q
      · exact TT.tr W hj (by walk_at "l") (by walk_at "l") h1 q
      · rw [q]; exact h1
    · rcases hb2 with q | q
      · rw [q]; exact hmax a haS har
      · exact F.least a haS b (by walk_at "l") q
theorem Few.out {vs out : List Value} {S τ' : List Nat} (W : WO vs.length L) (F : Few L vs.length S) (p : τ'.Perm S) (q : τ'.Pairwise (TT L)) (h : SortedBy L vs out) : out.take S.length = τ'.map (vs.getD · .none) := by
  obtain ⟨τ, pτ, qτ, rfl⟩ := h.places W
  have hlt : ∀ x ∈ τ, x < vs.length := fun x hx => List.mem_range.mp (pτ.mem_iff.mp hx)
  have hnd : τ.Nodup := pτ.nodup_iff.mpr List.nodup_range
  have hrest : ∀ x, x ∈ τ.filter (fun x => !S.contains x) ↔ x < vs.length ∧ x ∉ S := fun x => by
    rw [List.mem_filter, pτ.mem_iff, List.mem_range]; simp
  have hpw : (τ' ++ τ.filter (fun x => !S.contains x)).Pairwise (TT L) := by
    refine List.pairwise_append.mpr ⟨q, qτ.filter _, fun a ha b hb => ?_⟩
    obtain ⟨h1, h2⟩ := (hrest b).mp hb
    exact F.least a (p.mem_iff.mp ha) b h1 h2
  have hnd2 : (τ' ++ τ.filter (fun x => !S.contains x)).Nodup := by
    refine List.nodup_append.mpr ⟨p.nodup_iff.mpr F.nd, hnd.filter _, fun a ha b hb e => ?_⟩
    subst e
    exact ((hrest a).mp hb).2 (p.mem_iff.mp ha)
  have hmem : ∀ x, x ∈ τ' ++ τ.filter (fun x => !S.contains x) ↔ x ∈ τ := fun x => by
    rw [List.mem_append, hrest, p.mem_iff, pτ.mem_iff, List.mem_range]
    constructor
    · rintro (h | h)
      · exact F.lt x h
      · exact h.1
    · intro h
      by_cases hs : x ∈ S
      · exact .inl hs
      · exact .inr ⟨h, hs⟩
  have e := ord_uniq W _ τ (fun x hx => hlt x ((hmem x).mp hx)) ((List.perm_ext_iff_of_nodup hnd2 hnd).mpr hmem) hpw qτ
  have e' : τ.map (vs.getD · .none) = τ'.map (vs.getD · .none) ++ (τ.filter (fun x => !S.contains x)).map (vs.getD · .none) := by rw [← List.map_append, e]
  rw [e', ← p.length_eq, List.take_append_of_le_length (by simp)]
  exact List.take_of_length_le (by simp)
end

section
variable {w : World} {A : Around} {E : Value → Shared → Prop} {s : Shared} {g g₀ : Heap} {L : Addr} {l : List (Str × Value)} {N : List (Addr × Obj)} {o : OsState} {mg mb : Str → Option Value} {K : Frag} {x : Addr} {xs : List Value}
theorem one_cell {M : List (Addr × Obj)} {c : Addr} {d : Data} (h : M.map (fun p => (p.1, p.2.data)) = [(c, d)]) : ∃ oc, M = [(c, oc)] ∧ oc.data = d := by
  match M, h with
  | [(c', oc)], h => simp at h; exact ⟨oc, by rw [h.1], h.2⟩
  | [], h => simp at h
  | _ :: _ :: _, h => simp at h
theorem callWith_type0 {pos : Pos} {T : String} {Q : Value → Shared → Prop} {env : Env} (h : wpAny (model prog w) A (call (.type T) []) Q E s) : wpAny (model prog w) A (callWith pos (.type T) [] (backTo pos (starEach [] env)) []) Q E s := by
  show wpAny _ _ (callWith pos (.type T) [] [] []) Q E s
  unfold callWith
  refine wpAny_bind (wpAny_holding (PyProof.Rows.evalArgs_none ?_))
  refine wpAny_bind (wpAny_standAt ?_)
  refine wpAny_bind (wpAny_pure (a := Keeper.machine) ?_)
  refine wpAny_bind ?_
  refine wpAny_mono h (fun r s' hr => ?_) fun _ _ x => x
  exact wpAny_bind (wpAny_holding (wpAny_point (wpAny_pure hr)))
noncomputable abbrev ckQ (w : World) (A : Around) (E : Value → Shared → Prop) (pos : Pos) (args : List Expr) (kws : List Keyword) (env : Env) (Q : Value → Shared → Prop) : Value → Shared → Prop := fun f s₁ => wpAny (model prog w) A (callWith pos f [] (backTo pos (starEach args env)) (backToKw pos (keywordEach kws env))) Q E s₁
noncomputable abbrev kwQ (w : World) (A : Around) (E : Value → Shared → Prop) (pos : Pos) (rest : List Keyword) (env : Env) (Q : List Value → Shared → Prop) : Value → Shared → Prop := fun v s₁ => wpAny (model prog w) A (evalAll ((backToKw pos (keywordEach rest env)).map (·.2))) (consQ v Q) E s₁
theorem Call_kw {func : Expr} {args : List Expr} {kws : List Keyword} {pos : Pos} {env : Env} {Q : Value → Shared → Prop} (h : wpAny (model prog w) A (eval func env) (ckQ w A E pos args kws env Q) E s)
    (he : eval (.Call func args kws pos) env = (do callWith pos (← eval func env) [] (backTo pos (starEach args env)) (backToKw pos (keywordEach kws env))) := by rfl) : wpAny (model prog w) A (eval (.Call func args kws pos) env) Q E s := by
  rw [he]; exact wpAny_bind h
theorem kws_cons {name : Option Str} {e : Expr} {p pos : Pos} {rest : List Keyword} {env : Env} {Q : List Value → Shared → Prop} (h : wpAny (model prog w) A (eval e env) (kwQ w A E pos rest env Q) E s) :
    wpAny (model prog w) A (evalAll ((backToKw pos (keywordEach (⟨name, e, p⟩ :: rest) env)).map (·.2))) Q E s := by
  show wpAny _ _ (evalAll ((do let v ← eval e env; standAt pos; pure v) :: (backToKw pos (keywordEach rest env)).map (·.2))) _ _ _
  exact wpAny_evalAll_cons (wpAny_bind (wpAny_mono h (fun v s₁ h₁ => wpAny_bind (wpAny_standAt (wpAny_pure h₁))) fun _ _ x => x))
theorem kws_nil {pos : Pos} {env : Env} {Q : List Value → Shared → Prop} (h : Q [] s) : wpAny (model prog w) A (evalAll ((backToKw pos (keywordEach [] env)).map (·.2))) Q E s := wpAny_evalAll_nil h
theorem pick_perm {α : Type} : ∀ (N : List α) (i : Nat) (hi : i < N.length), N.Perm (N[i] :: N.eraseIdx i)
  | a :: N, 0, _ => .refl _
  | a :: N, i + 1, hi => ((pick_perm N i (by simpa using hi)).cons a).trans (.swap ..)
theorem St.pick {N : List (Addr × Obj)} (S : St g L l N o s) (i : Nat) (hi : i < N.length) : St g L l (N[i] :: N.eraseIdx i) o s := S.perm (pick_perm N i hi)
theorem is_two {a b : Addr} {items : Array Value} {e : Nat} {Q : Value → Shared → Prop} (ha : s.heap.get? a = some (seqObj "tuple" items e)) (hb : s.heap.get? b = some objObj) (h : Q (.bool false) s) : wpAny (model prog w) A (compareOp .Is (.ref a) (.ref b)) Q E s := by
  have hab : a ≠ b := fun q => by rw [q, hb] at ha; exact absurd (congrArg Obj.cls (Option.some.inj ha)) (by show ¬ (Value.type "object" = Value.type "tuple"); decide)
  show wpAny _ _ (isSame (.ref a) (.ref b) >>= fun r => pure (Value.bool r)) _ _ _
  refine wpAny_bind ?_
  unfold isSame
  dsimp only
  first | refine wI_neg (by simpa using hab) ?_ | rw [if_neg (by simpa using hab)]
  refine wpAny_bind (wpAny_load ha (wpAny_bind (wpAny_load hb ?_)))
  exact wpAny_pure (wpAny_pure h)
theorem St.frameIn {G' : Heap} {N : List (Addr × Obj)} (S : St g L l N o s) (kG : Keeps (hideAll s.heap (N.map (·.1))) G') : ∃ ob es ep, G'.get? L = some ob ∧ ob.data = .dict es ep := by
  obtain ⟨m, F, _⟩ := S.fr
  obtain ⟨ob, es, ep, h1, h2, _⟩ := F.ns
  refine ⟨ob, es, ep, kG _ _ (hideAll_get _ h1 fun hm => ?_), h2⟩
  obtain ⟨p, hp, he⟩ := List.mem_map.mp hm
  exact (S.nw p hp).2.1 he
theorem small_range {n : Int} (h1 : -1000 < n) (h2 : n < 1000) : Builtin.Range.small 0 n 1 = true := by
  have e : 0 ≤ Builtin.Range.rangeSize 0 n 1 ∧ Builtin.Range.rangeSize 0 n 1 ≤ 1000 := by rw [rangeSize_one]; split <;> lia
  unfold Builtin.Range.small
  generalize Builtin.Range.rangeSize 0 n 1 = m at e
  simp [Builtin.Range.rangeFitsLong]; lia

theorem ap_list {D : Addr} {ys : List Value} {e : Nat} {v : Value} {Q : Value → Shared → Prop} (S : St g L l N o s) (i : Nat) (hi : N[i]? = some (D, seqObj "list" ys.toArray e)) (hz : ys.length ≤ 1000)
    (h : ∀ s', St g L l (N.set i (D, seqObj "list" (ys ++ [v]).toArray (e + 1))) o s' → Q .none s') : wpAny (model prog w) A (call (.builtin "list.append") [.ref D, v]) Q E s := by
  have ho := S.at (List.mem_of_getElem? hi)
  refine wpAny_call_entry slot_list_append ⟨_, ho, rfl⟩ entry_list_append ?_ (args_list_append _ _)
  show wpAny _ _ (updateSeq D (·.push v) >>= fun _ => ret .none) _ _ s
  refine wpAny_bind ?_
  refine wpAny_updateSeq ho rfl (wpAny_pure ⟨.none, rfl, h _ (S.upd i hi (Heap.SameBut.update ..) ?_)⟩) (by simp [sizeLine_eq]; lia)
  rw [Heap.get?_update_self _ ho (by rw [Obj.mapSeq_push_plain]; rfl), Obj.mapSeq_push_plain]
  simp
end

section
variable {kl : Nat → Nat → Bool}
noncomputable abbrev WA (kl : Nat → Nat → Bool) : Prop := ∀ n, WO n kl
theorem WA.irr (W : WA kl) (i : Nat) : kl i i = false := (W (i + 1)).irr i (by walk_at "l")
theorem WA.asy (W : WA kl) {i j : Nat} (h : kl i j = true) : kl j i = false := (W (i + j + 1)).asy (by walk_at "l") (by walk_at "l") h
theorem WA.le_tr (W : WA kl) {i j k : Nat} (h1 : kl j i = false) (h2 : kl k j = false) : kl k i = false := (W (i + j + k + 1)).le_tr (by walk_at "l") (by walk_at "l") (by walk_at "l") h1 h2
theorem WA.lt_le (W : WA kl) {i j k : Nat} (h1 : kl i j = true) (h2 : kl k j = false) : kl i k = true := (W (i + j + k + 1)).lt_le (by walk_at "l") (by walk_at "l") (by walk_at "l") h1 h2
theorem WA.le_lt (W : WA kl) {i j k : Nat} (h1 : kl j i = false) (h2 : kl j k = true) : kl i k = true := (W (i + j + k + 1)).le_lt (by walk_at "l") (by walk_at "l") (by walk_at "l") h1 h2
theorem WA.flp (W : WA kl) (b : Bool) : WA (flp b kl) := fun n => by
  cases b
  · exact W n
  · exact (W n).flip

noncomputable def pyl (kl : Nat → Nat → Bool) (p q : Nat × Int) : Bool := kl p.1 q.1 || (!kl q.1 p.1 && decide (p.2 < q.2))
theorem pyl_false {p q : Nat × Int} : pyl kl p q = false ↔ kl p.1 q.1 = false ∧ (kl q.1 p.1 = true ∨ q.2 ≤ p.2) := by
  unfold pyl
  cases kl p.1 q.1 <;> cases kl q.1 p.1 <;> simp
theorem pyl_true {p q : Nat × Int} : pyl kl p q = true ↔ kl p.1 q.1 = true ∨ (kl q.1 p.1 = false ∧ p.2 < q.2) := by
  unfold pyl
  cases kl p.1 q.1 <;> cases kl q.1 p.1 <;> simp
theorem pyl_lo {α : Type} (W : WA kl) (dc : α → Nat × Int) : LO (fun y z => pyl kl (dc y) (dc z)) := by
  refine ⟨fun a b h => ?_, fun a b c h1 h2 => ?_⟩
  · rw [pyl_true] at h
    rw [pyl_false]
    rcases h with h | ⟨h, h'⟩
    · exact ⟨W.asy h, .inl h⟩
    · exact ⟨h, .inr (by walk_at "l")⟩
  · rw [pyl_false] at *
    obtain ⟨p1, q1⟩ := h1
    obtain ⟨p2, q2⟩ := h2
    refine ⟨W.le_tr p1 p2, ?_⟩
    rcases q1 with q1 | q1
    · exact .inl (W.lt_le q1 p2)
    · rcases q2 with q2 | q2
      · exact .inl (W.le_lt p1 q2)
      · exact .inr (by walk_at "l")
theorem LO.flip {α : Type} {lt : α → α → Bool} (O : LO lt) : LO (fun x y => lt y x) := by
  refine ⟨fun a b h => O.asy _ _ h, fun a b c h1 h2 => O.ntr c b a h2 h1⟩
noncomputable def hlt {α : Type} (b : Bool) (lt : α → α → Bool) : α → α → Bool := if b then lt else fun x y => lt y x
theorem LO.hlt {α : Type} {lt : α → α → Bool} (O : LO lt) (b : Bool) : LO (hlt b lt) := by
  cases b
  · exact O.flip
  · exact O
noncomputable def Goes (b : Bool) (a c : Int) : Prop := if b then c < a else a < c
theorem pyl_tt {b : Bool} {p q : Nat × Int} (h1 : p.1 < q.1 → Goes b p.2 q.2) (h2 : q.1 < p.1 → Goes b q.2 p.2) (hne : p.1 ≠ q.1) : hlt b (pyl kl) q p = true ↔ TT (flp b kl) p.1 q.1 := by
  cases b with
  | false =>
    show pyl kl p q = true ↔ TT kl p.1 q.1
    rw [pyl_true]
    simp only [Goes, Bool.false_eq_true, if_false] at h1 h2
    unfold TT
    constructor
    · rintro (h | ⟨h, h'⟩)
      · exact .inl h
      · exact .inr ⟨h, by rcases Nat.lt_or_gt_of_ne hne with q | q; exact q; have := h2 q; lia⟩
    · rintro (h | ⟨h, h'⟩)
      · exact .inl h
      · exact .inr ⟨h, h1 h'⟩
  | true =>
    show pyl kl q p = true ↔ TT (fun i j => kl j i) p.1 q.1
    rw [pyl_true]
    simp only [Goes, if_true] at h1 h2
    unfold TT
    constructor
    · rintro (h | ⟨h, h'⟩)
      · exact .inl h
      · exact .inr ⟨h, by rcases Nat.lt_or_gt_of_ne hne with q | q; exact q; have := h2 q; lia⟩
    · rintro (h | ⟨h, h'⟩)
      · exact .inl h
      · exact .inr ⟨h, h1 h'⟩

structure HS (kl : Nat → Nat → Bool) (b : Bool) (En : Value → Nat × Int → Prop) (j : Nat) (c : Int) (H : List Value) (dc : Value → Nat × Int) : Prop where
  ents : ∀ y ∈ H, En y (dc y)
  few : Few (flp b kl) j (H.map fun y => (dc y).1)
  mono : ∀ y ∈ H, ∀ z ∈ H, (dc y).1 < (dc z).1 → Goes b (dc y).2 (dc z).2
  bnd : ∀ y ∈ H, Goes b (dc y).2 c
  heap : HeapFrom (hlt b fun y z => pyl kl (dc y) (dc z)) 0 H
variable {b : Bool} {En En' : Value → Nat × Int → Prop} {j : Nat} {c : Int} {H : List Value} {dc : Value → Nat × Int}
theorem HS.imp (h : HS kl b En j c H dc) (hi : ∀ y p, En y p → En' y p) : HS kl b En' j c H dc := { h with ents := fun y hy => hi _ _ (h.ents y hy) }
theorem HS.inj (h : HS kl b En j c H dc) {y z : Value} (hy : y ∈ H) (hz : z ∈ H) (e : (dc y).1 = (dc z).1) : y = z := by
  obtain ⟨i, hi⟩ := List.getElem?_of_mem hy
  obtain ⟨k, hk⟩ := List.getElem?_of_mem hz
  obtain ⟨hil, hie⟩ := List.getElem?_eq_some_iff.mp hi
  obtain ⟨hkl, hke⟩ := List.getElem?_eq_some_iff.mp hk
  have h1 : (H.map fun y => (dc y).1)[i]'(by simpa using hil) = (H.map fun y => (dc y).1)[k]'(by simpa using hkl) := by simp [hie, hke, e]
  have := (List.getElem_inj h.few.nd).mp h1
  subst this
  rw [← hie, ← hke]
theorem HS.apart (h : HS kl b En j c H dc) {y z : Value} (hy : y ∈ H) (hz : z ∈ H) (hne : y ≠ z) : (dc y).1 ≠ (dc z).1 ∧ (dc y).2 ≠ (dc z).2 := by
  have h1 : (dc y).1 ≠ (dc z).1 := fun e => hne (h.inj hy hz e)
  refine ⟨h1, fun e => ?_⟩
  have h2 := h.mono y hy z hz
  have h3 := h.mono z hz y hy
  unfold Goes at h2 h3
  rcases Nat.lt_or_gt_of_ne h1 with q | q
  · have := h2 q; cases b <;> simp at this <;> lia
  · have := h3 q; cases b <;> simp at this <;> lia
theorem HS.tt (h : HS kl b En j c H dc) {y z : Value} (hy : y ∈ H) (hz : z ∈ H) (hne : y ≠ z) : hlt b (fun y z => pyl kl (dc y) (dc z)) z y = true ↔ TT (flp b kl) (dc y).1 (dc z).1 := by
  have := pyl_tt (kl := kl) (b := b) (p := dc y) (q := dc z) (h.mono y hy z hz) (h.mono z hz y hy) (h.apart hy hz hne).1
  cases b <;> exact this
theorem HS.root {r : Value} {t : List Value} (W : WA kl) (h : HS kl b En j c (r :: t) dc) : ∀ a ∈ (r :: t).map (fun y => (dc y).1), a ≠ (dc r).1 → TT (flp b kl) a (dc r).1 := by
  intro a ha hne
  obtain ⟨y, hy, rfl⟩ := List.mem_map.mp ha
  have hyr : y ≠ r := fun e => hne (by rw [e])
  obtain ⟨i, hi⟩ := List.getElem?_of_mem hy
  have h1 := heap_root ((pyl_lo W dc).hlt b) h.heap (r := r) rfl i y hi
  rcases TT.tot (L := flp b kl) hne with q | q
  · exact q
  · rw [(h.tt (.head _) hy hyr.symm).mpr q] at h1; cases h1
theorem Few.perm {L : Nat → Nat → Bool} {S S' : List Nat} (F : Few L j S) (p : S.Perm S') : Few L j S' :=
  ⟨p.nodup_iff.mp F.nd, fun a ha => F.lt a (p.mem_iff.mpr ha), fun a ha b hb hn => F.least a (p.mem_iff.mpr ha) b hb fun q => hn (p.mem_iff.mp q)⟩
theorem HS.start {ys : List Value} (W : WA kl) (hE : ∀ (i : Nat) y, ys[i]? = some y → dc y = (i, if b then -(i : Int) else (i : Int)) ∧ En y (dc y)) (hc : if b then c ≤ -(ys.length : Int) else (ys.length : Int) ≤ c) :
    HS kl b En ys.length c (hfy (hlt b fun y z => pyl kl (dc y) (dc z)) (ys.length / 2) ys) dc := by
  have pm := hfy_perm (lt := hlt b fun y z => pyl kl (dc y) (dc z)) (ys.length / 2) ys
  have mem : ∀ y ∈ hfy (hlt b fun y z => pyl kl (dc y) (dc z)) (ys.length / 2) ys, ∃ i, i < ys.length ∧ dc y = (i, if b then -(i : Int) else (i : Int)) ∧ En y (dc y) := fun y hy => by
    obtain ⟨i, hi⟩ := List.getElem?_of_mem (pm.mem_iff.mp hy)
    exact ⟨i, (List.getElem?_eq_some_iff.mp hi).1, hE i y hi⟩
  refine ⟨fun y hy => (by obtain ⟨_, _, _, h⟩ := mem y hy; exact h), ?_, fun y hy z hz hlt => ?_, fun y hy => ?_, ?_⟩
  · have e : ys.map (fun y => (dc y).1) = List.range ys.length := by
      apply List.ext_getElem?
      intro i
      by_cases hi : i < ys.length
      · rw [List.getElem?_map, List.getElem?_eq_getElem hi, List.getElem?_range hi, Option.map_some, (hE i _ (List.getElem?_eq_getElem hi)).1]
      · rw [List.getElem?_eq_none (by simpa using hi), List.getElem?_eq_none (by simpa using hi)]
    exact (Few.all ys.length).perm (e ▸ (pm.map _).symm)
  · obtain ⟨i, _, e, _⟩ := mem y hy
    obtain ⟨k, _, e', _⟩ := mem z hz
    rw [e, e'] at hlt ⊢
    unfold Goes
    cases b <;> simp at hlt ⊢ <;> lia
  · obtain ⟨i, hi, e, _⟩ := mem y hy
    rw [e]
    unfold Goes
    cases b <;> simp at hc ⊢ <;> lia
  · exact hfy_heap ((pyl_lo W dc).hlt b) _ _ (by walk_at "l") (heap_start _)
theorem HS.keep {r : Value} {t : List Value} (W : WA kl) (h : HS kl b En j c (r :: t) dc) (hb : flp b kl j (dc r).1 = false) : HS kl b En (j + 1) c (r :: t) dc :=
  { h with few := h.few.keep ((W.flp b) (j + 1)) (by walk_at "l") (List.mem_map_of_mem (.head _)) (h.root W) hb }
theorem HS.swap {r new : Value} {t : List Value} {c' : Int} (W : WA kl) (h : HS kl b En j c (r :: t) dc) (hn : new ∉ t) (hnew : En new (j, c)) (hb : flp b kl j (dc r).1 = true) (hc' : c' = if b then c - 1 else c + 1) :
    HS kl b En (j + 1) c' (sup (hlt b fun y z => pyl kl ((fun v => if v = new then (j, c) else dc v) y) ((fun v => if v = new then (j, c) else dc v) z)) 0 (new :: t)) (fun v => if v = new then (j, c) else dc v) := by
  generalize hd : (fun v => if v = new then (j, c) else dc v) = dc'
  have d0 : dc' new = (j, c) := by rw [← hd]; simp
  have d1 : ∀ v ∈ t, dc' v = dc v := fun v hv => by rw [← hd]; simp [show v ≠ new from fun q => hn (q ▸ hv)]
  have pm := sup_perm (lt := hlt b fun y z => pyl kl (dc' y) (dc' z)) (pos := 0) (xs := new :: t)
  have mem : ∀ y ∈ sup (hlt b fun y z => pyl kl (dc' y) (dc' z)) 0 (new :: t), (y = new ∧ dc' y = (j, c)) ∨ (y ∈ t ∧ dc' y = dc y) := fun y hy => by
    rcases List.mem_cons.mp (pm.mem_iff.mp hy) with rfl | q
    · exact .inl ⟨rfl, d0⟩
    · exact .inr ⟨q, d1 y q⟩
  have ltj : ∀ v ∈ t, (dc v).1 < j := fun v hv => h.few.lt _ (List.mem_map_of_mem (f := fun y => (dc y).1) (.tail _ hv))
  refine ⟨fun y hy => ?_, ?_, fun y hy z hz hlt => ?_, fun y hy => ?_, ?_⟩
  · rcases mem y hy with ⟨rfl, e⟩ | ⟨q, e⟩
    · rw [e]; exact hnew
    · rw [e]; exact h.ents y (.tail _ q)
  · refine h.few.swap ((W.flp b) (j + 1)) (by walk_at "l") (List.mem_map_of_mem (.head _)) (h.root W) hb ?_
    refine (pm.map _).trans ?_
    simp only [List.map_cons, List.erase_cons_head, d0]
    rw [List.map_congr_left fun v hv => by rw [d1 v hv]]
  · rcases mem y hy with ⟨rfl, e⟩ | ⟨q, e⟩ <;> rcases mem z hz with ⟨rfl, e'⟩ | ⟨q', e'⟩
    · rw [e] at hlt; simp at hlt
    · rw [e, e'] at hlt; have := ltj z q'; simp at hlt; lia
    · rw [e, e']; exact h.bnd y (.tail _ q)
    · rw [e, e'] at hlt ⊢; exact h.mono y (.tail _ q) z (.tail _ q') hlt
  · have h0 : ∀ v ∈ t, Goes b (dc v).2 c := fun v hv => h.bnd v (.tail _ hv)
    rw [hc']
    rcases mem y hy with ⟨rfl, e⟩ | ⟨q, e⟩
    · rw [e]; unfold Goes; cases b <;> simp <;> lia
    · rw [e]
      have := h0 y q
      unfold Goes at this ⊢
      cases b <;> simp at this ⊢ <;> lia
  · refine sup_heap ((pyl_lo W dc').hlt b) (by simp) fun i k hi hk a b' ha hb' => ?_
    obtain ⟨i', rfl⟩ : ∃ i', i = i' + 1 := ⟨i - 1, by walk_at "l"⟩
    obtain ⟨k', rfl⟩ : ∃ k', k = k' + 1 := ⟨k - 1, by unfold Child at hk; lia⟩
    have h1 := h.heap (i' + 1) (k' + 1) (Nat.zero_le _) hk a b' (by simpa using ha) (by simpa using hb')
    have ea := d1 a (List.mem_of_getElem? (by simpa using ha))
    have eb := d1 b' (List.mem_of_getElem? (by simpa using hb'))
    cases b
    · show pyl kl (dc' a) (dc' b') = false
      rw [ea, eb]; exact h1
    · show pyl kl (dc' b') (dc' a) = false
      rw [ea, eb]; exact h1
noncomputable def eLt (kl : Nat → Nat → Bool) (dc : Value → Nat × Int) (H : List Value) : Nat → Nat → Bool := fun i k => pyl kl (dc (H.getD i .none)) (dc (H.getD k .none))
theorem eLt_wo (W : WA kl) (n : Nat) : WO n (eLt kl dc H) := by
  have O := pyl_lo W dc
  have irr : ∀ y, pyl kl (dc y) (dc y) = false := fun y => by rw [pyl_false]; exact ⟨W.irr _, .inr (Int.le_refl _)⟩
  refine ⟨fun i _ => irr _, fun i j k _ _ _ h1 h2 => ?_, fun i j k _ _ _ h => ?_⟩
  · unfold eLt at *
    cases h : pyl kl (dc (H.getD i .none)) (dc (H.getD k .none)) with
    | true => rfl
    | false =>
      have h3 : pyl kl (dc (H.getD k .none)) (dc (H.getD j .none)) = false := O.asy _ _ h2
      have := O.ntr _ _ _ h3 h
      rw [h1] at this; cases this
  · unfold eLt at *
    cases h1 : pyl kl (dc (H.getD i .none)) (dc (H.getD j .none)) with
    | true => exact .inl rfl
    | false =>
      cases h2 : pyl kl (dc (H.getD j .none)) (dc (H.getD k .none)) with
      | true => exact .inr rfl
      | false => have := O.ntr _ _ _ h2 h1; rw [h] at this; cases this
theorem HS.done {xs out full : List Value} (W : WA kl) (h : HS kl b En xs.length c H dc) (hs : SortedBy (flp b (eLt kl dc H)) H out) (hf : SortedBy (flp b kl) xs full) : full.take H.length = out.map fun y => xs.getD (dc y).1 .none := by
  have W2 : WO H.length (flp b (eLt kl dc H)) := by
    cases b
    · exact eLt_wo W _
    · exact (eLt_wo W _).flip
  obtain ⟨τ, p, q, rfl⟩ := hs.places W2
  have key : ∀ i k, i < H.length → k < H.length → i ≠ k → TT (flp b (eLt kl dc H)) i k → TT (flp b kl) (dc (H.getD i .none)).1 (dc (H.getD k .none)).1 := fun i k hi hk hne ht => by
    have e1 : H.getD i .none = H[i] := by simp [List.getD, hi]
    have e2 : H.getD k .none = H[k] := by simp [List.getD, hk]
    have m1 : H.getD i .none ∈ H := by rw [e1]; exact List.getElem_mem hi
    have m2 : H.getD k .none ∈ H := by rw [e2]; exact List.getElem_mem hk
    have hyz : H.getD i .none ≠ H.getD k .none := fun e => by
      rw [e1, e2] at e
      have h1 : (H.map fun y => (dc y).1)[i]'(by simpa using hi) = (H.map fun y => (dc y).1)[k]'(by simpa using hk) := by simp [e]
      exact hne ((List.getElem_inj h.few.nd).mp h1)
    rcases ht with ht | ⟨ht, _⟩
    · refine (h.tt m1 m2 hyz).mp ?_
      cases b <;> exact ht
    · rcases TT.tot (L := flp b kl) (h.apart m1 m2 hyz).1 with q | q
      · exact q
      · have := (h.tt m2 m1 hyz.symm).mpr q
        have ht' : hlt b (fun y z => pyl kl (dc y) (dc z)) (H.getD i .none) (H.getD k .none) = false := by cases b <;> exact ht
        rw [this] at ht'; cases ht'
  have hpw : (τ.map fun i => (dc (H.getD i .none)).1).Pairwise (TT (flp b kl)) := by
    rw [List.pairwise_map]
    refine List.Pairwise.imp_of_mem ?_ (q.and (p.nodup_iff.mpr List.nodup_range))
    intro i k hi hk ht
    exact key i k (List.mem_range.mp (p.mem_iff.mp hi)) (List.mem_range.mp (p.mem_iff.mp hk)) ht.2 ht.1
  have hpm : (τ.map fun i => (dc (H.getD i .none)).1).Perm (H.map fun y => (dc y).1) := by
    refine (p.map _).trans ?_
    have : (List.range H.length).map (fun i => (dc (H.getD i .none)).1) = H.map fun y => (dc y).1 := by
      apply List.ext_getElem?
      intro i
      by_cases hi : i < H.length
      · simp [hi, List.getD]
      · rw [List.getElem?_eq_none (by simpa using hi), List.getElem?_eq_none (by simpa using hi)]
    rw [this]
  have := h.few.out ((W.flp b) _) hpm hpw hf
  rw [List.length_map] at this
  rw [this, List.map_map, List.map_map]
  rfl
end

noncomputable def sLt (a b : Str) : Bool := decide (a.cps.toList < b.cps.toList)
theorem sLt_irr (a : Str) : sLt a a = false := by unfold sLt; simp
theorem sLt_tr {a b c : Str} (h1 : sLt a b = true) (h2 : sLt b c = true) : sLt a c = true := by
  unfold sLt at *; simp only [decide_eq_true_eq] at *; exact List.lt_trans h1 h2
theorem sLt_tri {a b : Str} (h1 : sLt a b = false) (h2 : sLt b a = false) : a = b := by
  unfold sLt at *; simp only [decide_eq_false_iff_not] at *
  have e : a.cps.toList = b.cps.toList := List.le_antisymm (List.not_lt.mp h2) (List.not_lt.mp h1)
  cases a; cases b; simp only [Str.mk.injEq]; exact Array.toList_inj.mp e
noncomputable def pLt (p q : Str × Str) : Bool := lex [(p.1 == q.1, sLt p.1 q.1), (p.2 == q.2, sLt p.2 q.2)]
theorem pLt_true {p q : Str × Str} : pLt p q = true ↔ sLt p.1 q.1 = true ∨ (p.1 = q.1 ∧ sLt p.2 q.2 = true) := by
  unfold pLt lex lex lex
  by_cases h1 : p.1 = q.1
  · have := sLt_irr q.1
    by_cases h2 : p.2 = q.2
    · have h3 := sLt_irr q.2
      simp [h1, h2, this, h3]
    · simp [h1, h2, this]
  · simp [h1]
theorem pLt_irr (p : Str × Str) : pLt p p = false := by
  cases h : pLt p p with
  | false => rfl
  | true =>
    rw [pLt_true] at h
    rcases h with h | ⟨_, h⟩ <;> (rw [sLt_irr] at h; cases h)
theorem pLt_tr {p q r : Str × Str} (h1 : pLt p q = true) (h2 : pLt q r = true) : pLt p r = true := by
  rw [pLt_true] at *
  rcases h1 with h1 | ⟨e1, h1⟩ <;> rcases h2 with h2 | ⟨e2, h2⟩
  · exact .inl (sLt_tr h1 h2)
  · exact .inl (e2 ▸ h1)
  · exact .inl (e1 ▸ h2)
  · exact .inr ⟨e1.trans e2, sLt_tr h1 h2⟩
theorem pLt_tri {p q : Str × Str} (h1 : pLt p q = false) (h2 : pLt q p = false) : p = q := by
  have a1 : ¬ pLt p q = true := by rw [h1]; simp
  have a2 : ¬ pLt q p = true := by rw [h2]; simp
  rw [pLt_true, not_or] at a1 a2
  have e1 : p.1 = q.1 := sLt_tri (by simpa using a1.1) (by simpa using a2.1)
  have e2 : p.2 = q.2 := sLt_tri (by simpa [e1] using a1.2) (by simpa [e1] using a2.2)
  exact Prod.ext e1 e2
noncomputable def psLt (ps : List (Str × Str)) : Nat → Nat → Bool := fun i j => pLt (ps.getD i default) (ps.getD j default)
theorem psLt_wa (ps : List (Str × Str)) : WA (psLt ps) := fun n =>
  ⟨fun i _ => pLt_irr _, fun i j k _ _ _ h1 h2 => pLt_tr h1 h2, fun i j k _ _ _ h => by
    unfold psLt at *
    cases h1 : pLt (ps.getD i default) (ps.getD j default) with
    | true => exact .inl rfl
    | false =>
      cases h2 : pLt (ps.getD j default) (ps.getD k default) with
      | true => exact .inr rfl
      | false =>
        cases h3 : pLt (ps.getD j default) (ps.getD i default) with
        | true => rw [pLt_tr h3 h] at h2; cases h2
        | false => rw [← pLt_tri h1 h3, h] at h2; cases h2⟩
theorem kLt_wa (kf : Value → Int) (vs : List Value) : WA (kLt kf vs) := kLt_wo kf vs

section
variable {w : World} {g : Heap}
theorem str_twos (op : CmpOp) (p q : Str × Str) (ta tb ua ub : Tok) (r1 r2 : Bool) (h1 : Ans w g 0 (richCompare op (.str p.1 ta) (.str q.1 ua)) (.bool r1)) (h2 : Ans w g 0 (richCompare op (.str p.2 tb) (.str q.2 ub)) (.bool r2)) :
    Twos w g 0 op [.str p.1 ta, .str p.2 tb] [.str q.1 ua, .str q.2 ub] [(p.1 == q.1, r1), (p.2 == q.2, r2)] :=
  .cons ⟨a_eq_str _ _ _ _, fun _ => h1⟩ (.cons ⟨a_eq_str _ _ _ _, fun _ => h2⟩ .nil)
theorem Pc.uniq {T : Addr} {p q : Str × Str} (h1 : Pc g (.ref T) p) (h2 : Pc g (.ref T) q) : p = q := by
  obtain ⟨T1, e1, a1, b1, r1, o1⟩ := h1
  obtain ⟨T2, e2, a2, b2, r2, o2⟩ := h2
  injection r1 with r1; injection r2 with r2
  subst r1; subst r2
  rw [o1] at o2
  have := congrArg Obj.data (Option.some.inj o2)
  simp at this
  obtain ⟨⟨⟨h1, _⟩, h2, _⟩, _⟩ := this
  exact Prod.ext h1 h2
theorem alike_pc (p q : Str × Str) (r1 r2 : Bool) : alike [(p.1 == q.1, r1), (p.2 == q.2, r2)] = (p == q) := by
  obtain ⟨p1, p2⟩ := p
  obtain ⟨q1, q2⟩ := q
  show (p1 == q1 && (p2 == q2 && true)) = (p1 == q1 && p2 == q2)
  rw [Bool.and_true]
theorem pc_eq {v v' : Value} {p q : Str × Str} (h1 : Pc g v p) (h2 : Pc g v' q) : Ans w g 2 (eqBool v v') (p == q) := by
  obtain ⟨T1, e1, a1, b1, rfl, o1⟩ := id h1
  obtain ⟨T2, e2, a2, b2, rfl, o2⟩ := id h2
  have := a_tup_eq (w := w) (n := 0) (xs := [_, _]) (ys := [_, _]) o1 o2 (str_twos .Lt p q a1 b1 a2 b2 _ _ (a_lt_str _ _ _ _) (a_lt_str _ _ _ _)) (fun e => by subst e; rw [alike_pc, Pc.uniq h1 h2]; simp)
  rwa [alike_pc] at this
theorem pc_lt {v v' : Value} {p q : Str × Str} (h1 : Pc g v p) (h2 : Pc g v' q) : Ans w g 2 (richCompare .Lt v v') (.bool (pLt p q)) := by
  obtain ⟨T1, e1, a1, b1, rfl, o1⟩ := h1
  obtain ⟨T2, e2, a2, b2, rfl, o2⟩ := h2
  exact a_tup_lt (n := 0) (xs := [_, _]) (ys := [_, _]) o1 o2 (str_twos .Lt p q a1 b1 a2 b2 _ _ (a_lt_str _ _ _ _) (a_lt_str _ _ _ _))
theorem pc_gt {v v' : Value} {p q : Str × Str} (h1 : Pc g v p) (h2 : Pc g v' q) : Ans w g 2 (richCompare .Gt v v') (.bool (pLt q p)) := by
  obtain ⟨T1, e1, a1, b1, rfl, o1⟩ := h1
  obtain ⟨T2, e2, a2, b2, rfl, o2⟩ := h2
  have := a_tup_gt (n := 0) (xs := [_, _]) (ys := [_, _]) o1 o2 (str_twos (w := w) .Gt p q a1 b1 a2 b2 _ _ (a_gt_str _ _ _ _) (a_gt_str _ _ _ _))
  have e : lex [(p.1 == q.1, decide (q.1.cps.toList < p.1.cps.toList)), (p.2 == q.2, decide (q.2.cps.toList < p.2.cps.toList))] = pLt q p := by
    unfold pLt
    rw [show (q.1 == p.1) = (p.1 == q.1) from Bool.beq_comm, show (q.2 == p.2) = (p.2 == q.2) from Bool.beq_comm]; rfl
  rwa [e] at this
theorem pc_two {v v' : Value} {p q : Str × Str} (h1 : Pc g v p) (h2 : Pc g v' q) : Two w g 2 .Lt v v' (p == q) (pLt p q) := ⟨pc_eq h1 h2, fun _ => pc_lt h1 h2⟩
theorem pc_klt {v v' : Value} {p q : Str × Str} (h1 : Pc g v p) (h2 : Pc g v' q) : Ans w g 0 (keyLt' (tuples' true) v v') (pLt p q) := by
  obtain ⟨T1, e1, a1, b1, rfl, o1⟩ := h1
  obtain ⟨T2, e2, a2, b2, rfl, o2⟩ := h2
  refine k_tup_lt (n := 0) (xs := [_, _]) (ys := [_, _]) o1 o2 (str_twos .Lt p q a1 b1 a2 b2 _ _ (a_lt_str _ _ _ _) (a_lt_str _ _ _ _)) ?_
  intro v v' e r vs vs' l' q1 q2 q3 _
  injection q1 with q1 _; injection q2 with q2 _; injection q3 with q3 _; injection q3 with _ q3
  subst q1 q2 q3
  exact fun A E Q s _ _ h => oneLt_str h
theorem Pcs.atD {xs : List Value} {ps : List (Str × Str)} (h : Pcs g xs ps) {i : Nat} (hi : i < xs.length) : Pc g (xs.getD i .none) (ps.getD i default) :=
  h.2 i _ _ (by simp [List.getD, hi]) (by simp [List.getD, show i < ps.length by rw [← h.1]; exact hi])
theorem Pcs.klt {xs : List Value} {ps : List (Str × Str)} (h : Pcs g xs ps) {i j : Nat} {y z : Value} (hy : xs[i]? = some y) (hz : xs[j]? = some z) : Ans w g 0 (keyLt' (tuples' true) y z) (psLt ps i j) := by
  have h1 := h.atD (List.getElem?_eq_some_iff.mp hy).1
  have h2 := h.atD (List.getElem?_eq_some_iff.mp hz).1
  rw [show xs.getD i .none = y by simp [List.getD, hy]] at h1
  rw [show xs.getD j .none = z by simp [List.getD, hz]] at h2
  exact pc_klt h1 h2
theorem tups_of {ys : List Value} (f : Value → Value) (h : ∀ y ∈ ys, ∃ T items e, y = .ref T ∧ g.get? T = some (seqObj "tuple" items e) ∧ items[0]? = some (f y)) : ∀ h', Keeps g h' → KatTups h' ys (ys.map f) := fun h' hk => by
  induction ys with
  | nil => exact .nil
  | cons y ys ih =>
    obtain ⟨T, items, e, rfl, o, hf⟩ := h y (.head _)
    exact .cons (hk _ _ o) rfl rfl hf (ih fun z hz => h z (.tail _ hz))
theorem tups_kind {ys : List Value} {T : Value} (f : Value → Value) (h : ∀ y ∈ ys, ∃ T items e, y = .ref T ∧ g.get? T = some (seqObj "tuple" items e) ∧ items[0]? = some (f y)) (hn : 0 < ys.length) (hT : ∀ h', Keeps g h' → ∀ y ∈ ys, Looks (model prog w) h' (typeOf (f y)) T) (hT2 : (T == T) = true) :
    Ans w g 0 (keyKind' ys.toArray) (tuples' (T != .type "tuple")) := fun A E Q s _ hk hq =>
  kat_kind (tups_of f h _ hk) (by simpa using hn) (fun v hv => by obtain ⟨y, hy, rfl⟩ := List.mem_map.mp hv; exact hT _ hk y hy) hT2 hq
noncomputable def fst' (g : Heap) (y : Value) : Value := match y with
  | .ref T => match g.get? T with
    | some ob => match ob.data with
      | .seq items _ => items.getD 0 .none
      | _ => .none
    | none => .none
  | _ => .none
theorem fst_tup {T : Addr} {items : Array Value} {e : Nat} (h : g.get? T = some (seqObj "tuple" items e)) : fst' g (.ref T) = items.getD 0 .none := by simp [fst', h]
theorem pc_kind {xs : List Value} {ps : List (Str × Str)} (h : Pcs g xs ps) (hn : 2 ≤ xs.length) : Ans w g 0 (keyKind' xs.toArray) (tuples' true) := by
  have key : ∀ v ∈ xs, ∃ p, Pc g v p := fun v hv => by
    obtain ⟨i, hi⟩ := List.getElem?_of_mem hv
    have hil : i < ps.length := by rw [← h.1]; exact (List.getElem?_eq_some_iff.mp hi).1
    exact ⟨_, h.2 i v _ hi (List.getElem?_eq_getElem hil)⟩
  refine tups_kind (T := .type "str") (fst' g) (fun y hy => ?_) (by walk_at "l") (fun h' hk y hy => ?_) rfl
  · obtain ⟨p, T, e, ta, tb, rfl, o⟩ := key y hy
    exact ⟨T, _, e, rfl, o, by rw [fst_tup o]; rfl⟩
  · obtain ⟨p, T, e, ta, tb, rfl, o⟩ := key y hy
    rw [fst_tup o]
    exact .now
end

section
variable {w : World} {g h : Heap}
noncomputable def Ent (g : Heap) (y : Value) (k ord : Int) (v : Value) : Prop := Ex4 fun (T : Addr) (e : Nat) (t u : Tok) => An2 (y = .ref T) (g.get? T = some (seqObj "tuple" #[.int k t, .int ord u, v] e))
theorem Ent.keeps {y v : Value} {k ord : Int} (a : Ent g y k ord v) (kp : Keeps g h) : Ent h y k ord v := by obtain ⟨T, e, t, u, h1, h2⟩ := a; exact ⟨T, e, t, u, h1, kp _ _ h2⟩
noncomputable def Enu (g : Heap) (y : Value) (ord : Int) (v : Value) : Prop := Ex3 fun (T : Addr) (e : Nat) (u : Tok) => An2 (y = .ref T) (g.get? T = some (seqObj "tuple" #[v, .int ord u] e))
theorem Enu.keeps {y v : Value} {ord : Int} (a : Enu g y ord v) (kp : Keeps g h) : Enu h y ord v := by obtain ⟨T, e, u, h1, h2⟩ := a; exact ⟨T, e, u, h1, kp _ _ h2⟩
theorem Ent.over {L : Addr} {y v : Value} {k ord : Int} (a : Ent g y k ord v) (hL : ∃ ob es ep, g.get? L = some ob ∧ ob.data = .dict es ep) (k2 : ∀ b ob, g.get? b = some ob → b ≠ L → h.get? b = some ob) : Ent h y k ord v := by
  obtain ⟨T, e, t, u, h1, h2⟩ := a
  obtain ⟨ob, es, ep, h3, h4⟩ := hL
  refine ⟨T, e, t, u, h1, k2 _ _ h2 fun q => ?_⟩
  rw [q, h3] at h2; cases h2; cases h4
theorem Enu.over {L : Addr} {y v : Value} {ord : Int} (a : Enu g y ord v) (hL : ∃ ob es ep, g.get? L = some ob ∧ ob.data = .dict es ep) (k2 : ∀ b ob, g.get? b = some ob → b ≠ L → h.get? b = some ob) : Enu h y ord v := by
  obtain ⟨T, e, u, h1, h2⟩ := a
  obtain ⟨ob, es, ep, h3, h4⟩ := hL
  refine ⟨T, e, u, h1, k2 _ _ h2 fun q => ?_⟩
  rw [q, h3] at h2; cases h2; cases h4
structure Entry (w : World) (En : Heap → Value → Nat × Int → Prop) (kl : Nat → Nat → Bool) (kind : SortKind) : Prop where
  kp : ∀ g h y p, En g y p → Keeps g h → En h y p
  cmp : ∀ g y z p q, En g y p → En g z q → (y = z ∧ p = q ∨ p.2 ≠ q.2) → Ans w g 6 (richCompare .Lt y z) (.bool (pyl kl p q))
  kd : ∀ g (ys : List Value), (∀ y ∈ ys, ∃ p, En g y p) → 0 < ys.length → Ans w g 6 (keyKind' ys.toArray) kind
  klt : ∀ g y z p q, En g y p → En g z q → (y = z ∧ p = q ∨ p.2 ≠ q.2) → Ans w g 6 (keyLt' kind y z) (pyl kl p q)
theorem two_int (a b : Int) (t u : Tok) : Two w g 0 .Lt (.int a t) (.int b u) (a == b) (decide (a < b)) := ⟨a_eq_int _ _ _ _, fun _ => a_lt_int _ _ _ _⟩
theorem one_false {first : Bool} {v v' : Value} {n : Nat} {e r : Bool} (h : Two w g n .Lt v v' e r) (he : e = false) (hf : first = false) : Ans w g n (oneLt' first v v') r := fun A E Q s hu hk hq => by
  rw [oneLt'_eq, hf]
  first | refine wI_neg (by decide) ?_ | simp only [Bool.false_eq_true, if_false]
  exact wpAny_bind (h.cm he A _ _ s hu hk (wpAny_truthy_bool hq))
noncomputable def EnK (kf : Value → Int) (xs : List Value) (g : Heap) (y : Value) (p : Nat × Int) : Prop := Ent g y (kf (xs.getD p.1 .none)) p.2 (xs.getD p.1 .none) ∧ ∃ c, Pc g (xs.getD p.1 .none) c
noncomputable def EnN (ps : List (Str × Str)) (xs : List Value) (g : Heap) (y : Value) (p : Nat × Int) : Prop := Enu g y p.2 (xs.getD p.1 .none) ∧ Pc g (xs.getD p.1 .none) (ps.getD p.1 default)
theorem lex_k {k k' a b : Int} {r : List (Bool × Bool)} (h : a ≠ b ∨ (k = k' ∧ a = b ∧ lex r = false)) : lex ((k == k', decide (k < k')) :: (a == b, decide (a < b)) :: r) = (decide (k < k') || (!decide (k' < k) && decide (a < b))) := by
  unfold lex
  by_cases h1 : k = k'
  · subst h1
    unfold lex
    by_cases h2 : a = b
    · subst h2
      rcases h with h | ⟨_, _, h⟩
      · exact absurd rfl h
      · simp [h]
    · simp [h2]
  · by_cases h3 : k < k'
    · simp [h1, h3]
    · have h4 : k' < k := by walk_at "l"
      simp [h1, h3, h4]
theorem entK (kf : Value → Int) (xs : List Value) : Entry w (EnK kf xs) (kLt kf xs) (tuples' true) := by
  have tw : ∀ g y z p q, EnK kf xs g y p → EnK kf xs g z q → (y = z ∧ p = q ∨ p.2 ≠ q.2) → ∃ T e T' e' t u t' u' c c', y = .ref T ∧ z = .ref T' ∧ g.get? T = some (seqObj "tuple" [.int (kf (xs.getD p.1 .none)) t, .int p.2 u, xs.getD p.1 .none].toArray e) ∧
      g.get? T' = some (seqObj "tuple" [.int (kf (xs.getD q.1 .none)) t', .int q.2 u', xs.getD q.1 .none].toArray e') ∧
      Twos w g 2 .Lt [.int (kf (xs.getD p.1 .none)) t, .int p.2 u, xs.getD p.1 .none] [.int (kf (xs.getD q.1 .none)) t', .int q.2 u', xs.getD q.1 .none] [(kf (xs.getD p.1 .none) == kf (xs.getD q.1 .none), decide (kf (xs.getD p.1 .none) < kf (xs.getD q.1 .none))), (p.2 == q.2, decide (p.2 < q.2)), (c == c', pLt c c')] ∧
      lex [(kf (xs.getD p.1 .none) == kf (xs.getD q.1 .none), decide (kf (xs.getD p.1 .none) < kf (xs.getD q.1 .none))), (p.2 == q.2, decide (p.2 < q.2)), (c == c', pLt c c')] = pyl (kLt kf xs) p q := by
    rintro g y z p q ⟨⟨T, e, t, u, rfl, o1⟩, c, hc⟩ ⟨⟨T', e', t', u', rfl, o2⟩, c', hc'⟩ hor
    rcases hor with ⟨h1, rfl⟩ | hne
    · exact ⟨T, e, T', e', t, u, t', u', c, c, rfl, rfl, o1, o2, .cons ((two_int _ _ _ _).more (by walk_at "l")) (.cons ((two_int _ _ _ _).more (by walk_at "l")) (.cons (pc_two hc hc) .nil)), lex_k (.inr ⟨rfl, rfl, by simp [lex]⟩)⟩
    · exact ⟨T, e, T', e', t, u, t', u', c, c', rfl, rfl, o1, o2, .cons ((two_int _ _ _ _).more (by walk_at "l")) (.cons ((two_int _ _ _ _).more (by walk_at "l")) (.cons (pc_two hc hc') .nil)), lex_k (.inl hne)⟩
  refine ⟨fun g h y p ⟨h1, c, h2⟩ k => ⟨h1.keeps k, c, h2.keeps k⟩, fun g y z p q h1 h2 hor => ?_, fun g ys h hn => ?_, fun g y z p q h1 h2 hor => ?_⟩
  · obtain ⟨T, e, T', e', t, u, t', u', c, c', rfl, rfl, o1, o2, ht, hl⟩ := tw g y z p q h1 h2 hor
    rw [← hl]
    exact (a_tup_lt o1 o2 ht).more (by walk_at "l")
  · refine (tups_kind (T := .type "int") (fst' g) (fun y hy => ?_) hn (fun h' hk y hy => ?_) rfl).more (by walk_at "l")
    · obtain ⟨p, ⟨T, e, t, u, rfl, o⟩, _⟩ := h y hy
      exact ⟨T, _, e, rfl, o, by rw [fst_tup o]; rfl⟩
    · obtain ⟨p, ⟨T, e, t, u, rfl, o⟩, _⟩ := h y hy
      rw [fst_tup o]
      exact .now
  · obtain ⟨T, e, T', e', t, u, t', u', c, c', rfl, rfl, o1, o2, ht, hl⟩ := tw g y z p q h1 h2 hor
    rw [← hl]
    refine (k_tup_lt (n := 2) o1 o2 ht ?_).more (by walk_at "l")
    intro v v' e r vs vs' l' q1 q2 q3 _
    injection q1 with q1 _; injection q2 with q2 _; injection q3 with q3 _; injection q3 with _ q3
    subst q1 q2 q3
    exact fun A E Q s _ _ h => oneLt_int h
theorem lex_n {c c' : Str × Str} {a b : Int} (h : a ≠ b ∨ (c = c' ∧ a = b)) : lex [(c == c', pLt c c'), (a == b, decide (a < b))] = (pLt c c' || (!pLt c' c && decide (a < b))) := by
  unfold lex
  by_cases h1 : c = c'
  · subst h1
    unfold lex lex
    rcases h with h | ⟨_, h⟩
    · simp [h, pLt_irr]
    · simp [h, pLt_irr]
  · cases h3 : pLt c c' with
    | true => simp [h1]
    | false =>
      cases h4 : pLt c' c with
      | true => simp [h1]
      | false => exact absurd (pLt_tri h3 h4) h1
theorem entN (ps : List (Str × Str)) (xs : List Value) : Entry w (EnN ps xs) (psLt ps) (tuples' false) := by
  have tw : ∀ g y z p q, EnN ps xs g y p → EnN ps xs g z q → (y = z ∧ p = q ∨ p.2 ≠ q.2) → ∃ T e T' e' u u', y = .ref T ∧ z = .ref T' ∧ g.get? T = some (seqObj "tuple" [xs.getD p.1 .none, .int p.2 u].toArray e) ∧
      g.get? T' = some (seqObj "tuple" [xs.getD q.1 .none, .int q.2 u'].toArray e') ∧
      Twos w g 2 .Lt [xs.getD p.1 .none, .int p.2 u] [xs.getD q.1 .none, .int q.2 u'] [(ps.getD p.1 default == ps.getD q.1 default, pLt (ps.getD p.1 default) (ps.getD q.1 default)), (p.2 == q.2, decide (p.2 < q.2))] ∧
      lex [(ps.getD p.1 default == ps.getD q.1 default, pLt (ps.getD p.1 default) (ps.getD q.1 default)), (p.2 == q.2, decide (p.2 < q.2))] = pyl (psLt ps) p q := by
    rintro g y z p q ⟨⟨T, e, u, rfl, o1⟩, hc⟩ ⟨⟨T', e', u', rfl, o2⟩, hc'⟩ hor
    exact ⟨T, e, T', e', u, u', rfl, rfl, o1, o2, .cons (pc_two hc hc') (.cons ((two_int _ _ _ _).more (by walk_at "l")) .nil), lex_n (hor.symm.imp id fun ⟨_, h⟩ => by subst h; exact ⟨rfl, rfl⟩)⟩
  refine ⟨fun g h y p ⟨h1, h2⟩ k => ⟨h1.keeps k, h2.keeps k⟩, fun g y z p q h1 h2 hor => ?_, fun g ys h hn => ?_, fun g y z p q h1 h2 hor => ?_⟩
  · obtain ⟨T, e, T', e', u, u', rfl, rfl, o1, o2, ht, hl⟩ := tw g y z p q h1 h2 hor
    rw [← hl]
    exact (a_tup_lt o1 o2 ht).more (by walk_at "l")
  · refine (tups_kind (T := .type "tuple") (fst' g) (fun y hy => ?_) hn (fun h' hk y hy => ?_) rfl).more (by walk_at "l")
    · obtain ⟨p, ⟨T, e, u, rfl, o⟩, _⟩ := h y hy
      exact ⟨T, _, e, rfl, o, by rw [fst_tup o]; rfl⟩
    · obtain ⟨p, ⟨T, e, u, rfl, o⟩, T2, e2, ta, tb, hv, o2⟩ := h y hy
      rw [fst_tup o]
      show Looks _ h' (typeOf (xs.getD p.1 .none)) _
      rw [hv]
      exact (Looks.ld (hk _ _ o2)).andThen .now
  · obtain ⟨T, e, T', e', u, u', rfl, rfl, o1, o2, ht, hl⟩ := tw g y z p q h1 h2 hor
    rw [← hl]
    refine (k_tup_lt (n := 2) o1 o2 ht ?_).more (by walk_at "l")
    intro v v' e r vs vs' l' q1 q2 q3 q4
    rw [q1, q2, q3] at ht
    cases ht with
    | cons hv _ => exact one_false hv q4 rfl
end
section
variable {w : World} {g h : Heap} {kl : Nat → Nat → Bool} {En : Heap → Value → Nat × Int → Prop} {kind : SortKind}
noncomputable def ordOf (g : Heap) (y : Value) : Int := match y with
  | .ref T => match g.get? T with
    | some ob => match ob.data with
      | .seq items _ => match items.getD 1 .none with
        | .int a _ => a
        | _ => 0
      | _ => 0
    | none => 0
  | _ => 0
noncomputable def dcOf (g : Heap) (y : Value) : Nat × Int := ((ordOf g y).natAbs, ordOf g y)
theorem Ent.ord {y v : Value} {k a : Int} (x : Ent g y k a v) : ordOf g y = a := by
  obtain ⟨T, e, t, u, rfl, o⟩ := x
  simp [ordOf, o]
theorem Enu.ord {y v : Value} {a : Int} (x : Enu g y a v) : ordOf g y = a := by
  obtain ⟨T, e, u, rfl, o⟩ := x
  simp [ordOf, o]
theorem Entry.cmpOk (Y : Entry w En kl kind) {M : List Value} {dc : Value → Nat × Int} (hE : ∀ y ∈ M, En g y (dc y)) (hap : ∀ y ∈ M, ∀ z ∈ M, y = z ∨ (dc y).2 ≠ (dc z).2) (k : Keeps g h) : CmpOk w h (· ∈ M) (fun y z => pyl kl (dc y) (dc z)) :=
  fun y z hy hz A E Q s hu hk hq => Y.cmp g y z (dc y) (dc z) (hE y hy) (hE z hz) ((hap y hy z hz).imp (fun e => ⟨e, by rw [e]⟩) id) A E Q s (by walk_at "l") (k.trans hk) hq
theorem HS.cmpOk {b : Bool} {j : Nat} {c : Int} {H : List Value} {dc : Value → Nat × Int} (Y : Entry w En kl kind) (X : HS kl b (En g) j c H dc) (k : Keeps g h) : CmpOk w h (· ∈ H) (fun y z => pyl kl (dc y) (dc z)) :=
  Y.cmpOk X.ents (fun y hy z hz => by
    by_cases e : y = z
    · exact .inl e
    · exact .inr (X.apart hy hz e).2) k
theorem HS.join {b : Bool} {j : Nat} {c : Int} {r new : Value} {t : List Value} {dc : Value → Nat × Int} (Y : Entry w En kl kind) (X : HS kl b (En g) j c (r :: t) dc) (hn : new ∉ t) (hnew : En g new (j, c)) (k : Keeps g h) :
    CmpOk w h (· ∈ new :: t) (fun y z => pyl kl ((fun v => if v = new then (j, c) else dc v) y) ((fun v => if v = new then (j, c) else dc v) z)) := by
  have ne : ∀ y ∈ t, y ≠ new := fun y hy q => hn (q ▸ hy)
  have bd : ∀ y ∈ t, (dc y).2 ≠ c := fun y hy q => by
    have := X.bnd y (.tail _ hy)
    unfold Goes at this
    cases b <;> simp at this <;> lia
  refine Y.cmpOk (M := new :: t) (dc := fun v => if v = new then (j, c) else dc v) (fun y hy => ?_) (fun y hy z hz => ?_) k
  · rcases List.mem_cons.mp hy with rfl | hy
    · simpa using hnew
    · simpa [ne y hy] using X.ents y (.tail _ hy)
  · rcases List.mem_cons.mp hy with hy1 | hy1 <;> rcases List.mem_cons.mp hz with hz1 | hz1
    · exact .inl (hy1.trans hz1.symm)
    · right; simpa [ne z hz1, hy1] using (bd z hz1).symm
    · right; simpa [ne y hy1, hz1] using bd y hy1
    · by_cases e : y = z
      · exact .inl e
      · right; simpa [ne y hy1, ne z hz1] using (X.apart (.tail _ hy1) (.tail _ hz1) e).2
theorem HS.sortLt {b : Bool} {j : Nat} {c : Int} {H : List Value} {dc : Value → Nat × Int} (Y : Entry w En kl kind) (X : HS kl b (En g) j c H dc) : ∀ i j x y, H[i]? = some x → H[j]? = some y → Ans w g 6 (keyLt' kind x y) (eLt kl dc H i j) := by
  intro i k y z hy hz
  have e1 : H.getD i .none = y := by simp [List.getD, hy]
  have e2 : H.getD k .none = z := by simp [List.getD, hz]
  unfold eLt
  rw [e1, e2]
  have hym := List.mem_of_getElem? hy
  have hzm := List.mem_of_getElem? hz
  refine Y.klt g y z _ _ (X.ents y hym) (X.ents z hzm) ?_
  by_cases e : y = z
  · exact .inl ⟨e, by rw [e]⟩
  · exact .inr (X.apart hym hzm e).2
end

section
variable {w : World} {A : Around} {E : Value → Shared → Prop} {s : Shared} {g g₀ : Heap} {L : Addr} {l : List (Str × Value)} {N : List (Addr × Obj)} {o : OsState} {env : Env}

theorem go_plain {target : Expr} {it : Addr} {v : Value} {ob : Obj} {n : String} {Q : Unit → Shared → Prop} (ho : s.heap.get? it = some ob) (hc : ob.cls = .type n) (hn : (["enumerate", "zip", "dict_itemiterator", "dict_reverseitemiterator", "odict_iterator", "itertools.zip_longest", "itertools.pairwise"].contains n) = false) (h : Q () s) :
    wpAny (model prog w) A (letOwnedTupleGo target (.ref it) v) Q E s := by
  have key : ∀ a, wpAny (model prog w) A (load it >>= fun o => match o.cls, o.data with
    | .type n, .fields vs =>
      if ["enumerate", "zip", "dict_itemiterator", "dict_reverseitemiterator", "odict_iterator", "itertools.zip_longest", "itertools.pairwise"].contains n && vs[0]? == some (rawInt a) then (do
        rule "for.unpacks-the-owned-tuple"
        updateField it 0 .none)
      else pure ()
    | _, _ => pure ()) Q E s := fun a => by
    refine wpAny_bind (wpAny_load ho ?_)
    rw [hc]
    split
    · rename_i n' vs heq hd
      injection heq with heq
      subst heq
      rw [hn, Bool.false_and, if_neg Bool.false_ne_true]
      exact wpAny_pure h
    · exact wpAny_pure h
  cases target <;> first
    | exact wpAny_pure h
    | (cases v <;> first | exact wpAny_pure h | exact key _)
theorem i_li {it : Addr} {ob : Obj} {Q : Value → Shared → Prop} (ho : s.heap.get? it = some ob) (hc : ob.cls = .type "list_iterator") (h : Q (.ref it) s) : wpAny (model prog w) A (pyIter (.ref it)) Q E s := by
  have hT : s.TypeIs (.ref it) "list_iterator" := ⟨_, ho, hc⟩
  refine wpAny_pyIter_slot hT slot_listiter_iter (wpAny_call_entry slot_listiter_iter hT entry_listiter_iter ?_ (args_listiter_iter _))
  show wpAny _ _ (ret (.ref it)) _ _ s
  exact wpAny_pure ⟨_, rfl, "list_iterator", _, hT, slot_listiter_next.lookup, h⟩

noncomputable def Over (L : Addr) (G G' : Heap) : Prop := (∃ ob es ep, G.get? L = some ob ∧ ob.data = .dict es ep) ∧ ∀ b ob, G.get? b = some ob → b ≠ L → G'.get? b = some ob

theorem loops_list {elt target : Expr} {ifs : List Expr} {scope : Scope} {cl : List (Str × Addr)} {it a : Addr} {xs : List Value} {N₀ : List (Addr × Obj)} {s₂ : Shared} {f : Addr → List (Str × Value)} {Q : Addr → Shared → Prop}
    (hh : A.handled = none) (S : St g L l ((it, liObj a 0) :: N₀) o s₂) (hx : SeqAt g a xs) (J : Nat → Heap → List Value → List (Addr × Obj) → Prop)
    (h0 : ∀ G, Keeps g G → J 0 G [] N₀)
    (turn : ∀ k D C G ys e N s₁ v, xs[k]? = some v → Keeps g G → J k G ys N → St G C [] ((D, seqObj "list" ys.toArray e) :: (it, liObj a (k + 1)) :: N) o s₁ →
      ∀ P₁ : Shared → Prop, (∀ s₄, (∃ G' l' ys' e' N', Keeps G G' ∧ J (k + 1) G' ys' N' ∧ St G' C l' ((D, seqObj "list" ys'.toArray e') :: (it, liObj a (k + 1)) :: N') o s₄) → P₁ s₄) → wpAny (model prog w) A (assign target (compEnvC scope cl C env) v) (fun _ s₂ => Emits w A ifs elt (compEnvC scope cl C env) D P₁ s₂) (fun _ _ => False) s₁)
    (fin : ∀ D G ys e N G' s', J xs.length G ys N → Keeps g G' → Over L G G' → St G' L (f D) ((D, seqObj "list" ys.toArray e) :: (it, liEnd xs.length) :: N) o s' → Q D s') :
    Loops w A env elt target ifs scope cl g L l ((it, liObj a 0) :: N₀) o (.ref it) s₂ f Q := by
  refine ⟨S, fun D C s₄ S4 => ?_⟩
  have hgG : ∀ G', Keeps (hideAll s₂.heap (((it, liObj a 0) :: N₀).map (·.1))) G' → Keeps g G' := fun G' kG b ob e => kG b ob (hideAll_get _ (S.kept b ob e) fun hm => by
    obtain ⟨p, hp, he⟩ := List.mem_map.mp hm
    have := (S.nw p hp).2.2
    rw [he, e] at this; cases this)
  refine ⟨fun m s' => Ex6 fun (k : Nat) (G : Heap) (l' : List (Str × Value)) (ys : List Value) (e : Nat) (N : List (Addr × Obj)) => An5 (m = xs.length - k) (k ≤ xs.length) (Keeps (hideAll s₂.heap (((it, liObj a 0) :: N₀).map (·.1))) G) (J k G ys N) (St G C l' ((D, seqObj "list" ys.toArray e) :: (it, liObj a k) :: N) o s'), xs.length, ⟨0, _, [], [], 0, N₀, rfl, Nat.zero_le _, .refl _, h0 _ (hgG _ (.refl _)), S4⟩, fun Q' E' hq => i_li (S4.at (.tail _ (.head _))) rfl hq, ?_⟩
  intro m s' hI₁ P₂ R₂ hP₂ hR₂
  obtain ⟨k, G, l', ys, e, N, rfl, hk, kG, hJ, S5⟩ := hI₁
  have kg := hgG _ kG
  by_cases hkx : k = xs.length
  · subst hkx
    refine n_li_end hh S5 1 rfl (hx.to fun _ e => S5.kept _ _ (kg _ _ e)) (Nat.le_refl _) ?_
    intro s6 S6
    exact hR₂ _ ⟨G, l', _, kG, S6, fun G' s7 k1 k2 S7 => fin D G ys e N G' s7 hJ k1 ⟨S.frameIn kG, k2⟩ S7⟩
  · refine n_li S5 1 rfl (hx.to fun _ e => S5.kept _ _ (kg _ _ e)) (List.getElem?_eq_getElem (by walk_at "l")) ?_
    intro s6 S6
    refine go_plain (S6.at (.tail _ (.head _))) rfl rfl ?_
    refine wpAny_mono (turn k D C G ys e N s6 _ (List.getElem?_eq_getElem (by walk_at "l")) kg hJ (S6.weak rfl) _ fun _ x => x) (fun _ s7 h7 => ?_) fun _ _ x => x
    refine Emits.mono (fun s8 h8 => ?_) h7
    obtain ⟨G', l', ys', e', N', k1, hJ', S8⟩ := h8
    exact hP₂ _ ⟨xs.length - (k + 1), by walk_at "l", k + 1, G', l', ys', e', N', rfl, by walk_at "l", kG.trans k1, hJ', S8⟩
theorem loops_range {elt target : Expr} {ifs : List Expr} {scope : Scope} {cl : List (Str × Addr)} {it : Addr} {n : Nat} {N₀ : List (Addr × Obj)} {s₂ : Shared} {f : Addr → List (Str × Value)} {Q : Addr → Shared → Prop}
    (hh : A.handled = none) (S : St g L l ((it, riObj 0 n 1) :: N₀) o s₂) (J : Nat → Heap → List Value → List (Addr × Obj) → Prop)
    (h0 : ∀ G, Keeps g G → J 0 G [] N₀)
    (turn : ∀ k D C G ys e N s₁ t, k < n → Keeps g G → J k G ys N → St G C [] ((D, seqObj "list" ys.toArray e) :: (it, riObj ((k + 1 : Nat) : Int) ((n - (k + 1) : Nat) : Int) 1) :: N) o s₁ →
      ∀ P₁ : Shared → Prop, (∀ s₄, (∃ G' l' ys' e' N', Keeps G G' ∧ J (k + 1) G' ys' N' ∧ St G' C l' ((D, seqObj "list" ys'.toArray e') :: (it, riObj ((k + 1 : Nat) : Int) ((n - (k + 1) : Nat) : Int) 1) :: N') o s₄) → P₁ s₄) → wpAny (model prog w) A (assign target (compEnvC scope cl C env) (.int k t)) (fun _ s₂ => Emits w A ifs elt (compEnvC scope cl C env) D P₁ s₂) (fun _ _ => False) s₁)
    (fin : ∀ D G ys e N G' s', J n G ys N → Keeps g G' → Over L G G' → St G' L (f D) ((D, seqObj "list" ys.toArray e) :: N) o s' → Q D s') :
    Loops w A env elt target ifs scope cl g L l ((it, riObj 0 n 1) :: N₀) o (.ref it) s₂ f Q := by
  refine ⟨S, fun D C s₄ S4 => ?_⟩
  have hgG : ∀ G', Keeps (hideAll s₂.heap (((it, riObj 0 n 1) :: N₀).map (·.1))) G' → Keeps g G' := fun G' kG b ob e => kG b ob (hideAll_get _ (S.kept b ob e) fun hm => by
    obtain ⟨p, hp, he⟩ := List.mem_map.mp hm
    have := (S.nw p hp).2.2
    rw [he, e] at this; cases this)
  refine ⟨fun m s' => Ex6 fun (k : Nat) (G : Heap) (l' : List (Str × Value)) (ys : List Value) (e : Nat) (N : List (Addr × Obj)) => An5 (m = n - k) (k ≤ n) (Keeps (hideAll s₂.heap (((it, riObj 0 n 1) :: N₀).map (·.1))) G) (J k G ys N) (St G C l' ((D, seqObj "list" ys.toArray e) :: (it, riObj (k : Int) ((n - k : Nat) : Int) 1) :: N) o s'), n, ⟨0, _, [], [], 0, N₀, rfl, Nat.zero_le _, .refl _, h0 _ (hgG _ (.refl _)), S4⟩, fun Q' E' hq => i_ri (S4.at (.tail _ (.head _))) hq, ?_⟩
  intro m s' hI₁ P₂ R₂ hP₂ hR₂
  obtain ⟨k, G, l', ys, e, N, rfl, hk, kG, hJ, S5⟩ := hI₁
  have kg := hgG _ kG
  by_cases hkx : k = n
  · subst hkx
    rw [Nat.sub_self] at S5
    refine n_ri_end hh S5 1 rfl ?_
    intro s6 S6
    exact hR₂ _ ⟨G, l', _, kG, S6, fun G' s7 k1 k2 S7 => fin D G ys e N G' s7 hJ k1 ⟨S.frameIn kG, k2⟩ S7⟩
  · obtain ⟨lf, hlf⟩ : ∃ lf, n - k = lf + 1 := ⟨n - k - 1, sub_ex ‹_› ‹_›⟩
    rw [hlf] at S5
    refine n_ri (left := lf) S5 1 (by push_cast; rfl) ?_
    intro t s6 S6
    refine go_plain (S6.at (.tail _ (.head _))) rfl rfl ?_
    have e1 : n - (k + 1) = lf := sub_next hlf
    have S6' : St G C [] ((D, seqObj "list" ys.toArray e) :: (it, riObj ((k + 1 : Nat) : Int) ((n - (k + 1) : Nat) : Int) 1) :: N) o s6 := by
      rw [e1]; push_cast; exact S6.weak rfl
    refine wpAny_mono (turn k D C G ys e N s6 t (by walk_at "l") kg hJ S6' _ fun _ x => x) (fun _ s7 h7 => ?_) fun _ _ x => x
    refine Emits.mono (fun s8 h8 => ?_) h7
    obtain ⟨G', l', ys', e', N', k1, hJ', S8⟩ := h8
    exact hP₂ _ ⟨n - (k + 1), by walk_at "l", k + 1, G', l', ys', e', N', rfl, by walk_at "l", kG.trans k1, hJ', S8⟩
theorem w_forE {target iter : Expr} {body orelse : List Stmt} {pos : Pos} {Q : Flow → Shared → Prop} (X : Shared → Prop)
    (h : wpAny (model prog w) A (eval iter env) (fun x s₁ => wpAny (model prog w) A (pyIter x) (fun it s₂ => ∃ (I : Nat → Shared → Prop) (n : Nat), I n s₂ ∧
      ∀ n s, I n s → ∀ (Q₁ : Flow → Shared → Prop) (X₁ : Shared → Prop), (∀ f s₃, (match f with
          | .next | .cont => ∃ m, m < n ∧ I m s₃
          | .brk => X s₃
          | .ret v => Q (.ret v) s₃) → Q₁ f s₃) → (∀ s₃, X s₃ → X₁ s₃) → wpAny (model prog w) A (pyNext it) (fun r s₁ => match r with
        | none => wpAny (model prog w) A (execs orelse env) (fun f s₃ => f = .next ∧ X₁ s₃) (fun _ _ => False) s₁
        | some v => wpAny (model prog w) A (letOwnedTupleGo target it v) (fun _ s₁' => wpAny (model prog w) A (assign target env v) (fun _ s₂ => wpAny (model prog w) A (execs body env) Q₁ (fun _ _ => False) s₂) (fun _ _ => False) s₁') (fun _ _ => False) s₁) (fun _ _ => False) s) E s₁) E s)
    (after : ∀ s, X s → Q .next s)
    (hs : ∀ x, foldedSetIterable iter env x = pure x := by intro _; rfl) :
    wpAny (model prog w) A (exec (.For target iter body orelse pos) env) Q E s := by
  refine wpAny_For (wpAny_mono h (fun x s₁ h₁ => wpAny_mono h₁ (fun it s₂ h₂ => ?_) fun _ _ x => x) fun _ _ x => x) hs
  obtain ⟨I, n, hI, turn⟩ := h₂
  refine codeAny_forLoop_any I (fun n s hI => ?_) n hI
  refine wpAny_mono (turn n s hI _ _ (fun _ _ x => x) fun _ x => x) (fun r s₁ h₁ => ?_) (fun _ _ x => x.elim)
  cases r with
  | none => exact wpAny_mono h₁ (fun f s₃ h₃ => by obtain ⟨rfl, h₃⟩ := h₃; exact after _ h₃) (fun _ _ x => x.elim)
  | some v => exact wpAny_mono h₁ (fun _ s₂ h₂ => wpAny_mono h₂ (fun _ s₃ h₃ => wpAny_mono h₃ (fun f s₄ h₄ => by cases f <;> first | exact h₄ | exact after _ h₄) (fun _ _ x => x.elim)) (fun _ _ x => x.elim)) (fun _ _ x => x.elim)
end

noncomputable def bodyOf : Stmt → List Stmt
  | .FunctionDef _ _ b _ _ _ _ _ _ _ => b
  | .If _ b _ _ => b
  | _ => []
noncomputable abbrev nsEnv (L : Addr) : Env := callEnvC (fnAt 10 (.ref 78) mHeapq 82) L 83
noncomputable abbrev nlEnv (L : Addr) : Env := callEnvC (fnAt 11 (.ref 84) mHeapq 88) L 89
noncomputable def nsK : List Stmt := (bodyOf (stAt 10)).drop 3
noncomputable def nlK : List Stmt := (bodyOf (stAt 11)).drop 3
noncomputable def nsN : List Stmt := bodyOf ((bodyOf (stAt 10)).getD 2 (.Pass default))
noncomputable def nlN : List Stmt := bodyOf ((bodyOf (stAt 11)).getD 2 (.Pass default))
theorem size_up (n : Int) : Builtin.Range.rangeSize 0 n 1 = (n.toNat : Int) := by rw [rangeSize_one]; split <;> lia
theorem size_down (n : Int) : Builtin.Range.rangeSize 0 (-n) (-1) = (n.toNat : Int) := by
  unfold Builtin.Range.rangeSize
  rw [if_neg (by walk_at "l"), Int.neg_neg, Int.ediv_one]
  split <;> lia
theorem small_down {n : Int} (h1 : -1000 < n) (h2 : n < 1000) : Builtin.Range.small 0 (-n) (-1) = true := by
  have e := size_down n
  unfold Builtin.Range.small
  rw [e]
  simp [Builtin.Range.rangeFitsLong]; lia
section
variable {w : World} {A : Around} {E : Value → Shared → Prop} {s : Shared} {g g₀ : Heap} {L : Addr} {l : List (Str × Value)} {N : List (Addr × Obj)} {o : OsState} {mg mb : Str → Option Value} {K : Frag} {x : Addr} {xs : List Value}
theorem c_range3 {a b c : Int} {t u v : Tok} {Q : Value → Shared → Prop} (S : St g L l N o s) (hc : c ≠ 0) (hs : c.natAbs < 1073741824) (h : ∀ r t u v s', St g L l ((r, rngObj a b c t u v) :: N) o s' → Q (.ref r) s') :
    wpAny (model prog w) A (call (.type "range") [.int a t, .int b u, .int c v]) Q E s :=
  call_range_3 hc (h _ _ _ _ _ (S.new (rngObj a b c _ _ _) rfl)) (Or.inl (PyProof.noPylong_small hs))
theorem m_list {name : Str} {id : String} {pl : Sem Bool} {D : Addr} {xs : List Value} {e : Nat} {Q : Value × List Value → Shared → Prop} (slot : Slot "list" name id) (hty : typeOf (.builtin id) = pure (.type "method_descriptor")) (ho : s.heap.get? D = some (seqObj "list" xs.toArray e)) (h : Q (.builtin id, [.ref D]) s) :
    wpAny (model prog w) A (getMethod (.ref D) name pl) Q E s :=
  getMethod_list_of slot hty ⟨_, ho, rfl, _, rfl⟩ ⟨_, ho, rfl⟩ h
theorem i_lst {D : Addr} {xs : List Value} {e : Nat} {Q : Value → Shared → Prop} (S : St g L l N o s) (ho : s.heap.get? D = some (seqObj "list" xs.toArray e)) (h : ∀ it s', St g L l ((it, liObj D 0) :: N) o s' → Q (.ref it) s') :
    wpAny (model prog w) A (pyIter (.ref D)) Q E s := by
  have hl : s.heap.IsList D xs.toArray := ⟨_, ho, rfl, _, rfl⟩
  exact wpAny_pyIter_list hl (h _ _ (S.new (liObj D 0) rfl))
theorem callWith_kw0 {env : Env} {pos : Pos} {id : String} {first : List Value} {kws : List Keyword} {Q : Value → Shared → Prop}
    (h : wpAny (model prog w) A (evalAll ((backToKw pos (keywordEach kws env)).map (·.2))) (fun kvs s₂ => wpAny (model prog w) A (call (.builtin id) (first ++ []) (((backToKw pos (keywordEach kws env)).filterMap (·.1)).zip kvs)) Q E s₂) E s)
    (hall : (backToKw pos (keywordEach kws env)).all (·.1.isSome) = true := by rfl)
    (hkw : (backToKw pos (keywordEach kws env)).any (·.1.isNone) = false := by rfl) :
    wpAny (model prog w) A (callWith pos (.builtin id) first (backTo pos (starEach [] env)) (backToKw pos (keywordEach kws env))) Q E s := by
  refine callWith_builtin_kwB rfl hkw ?_
  show wpAny _ _ (evalArgs _ true [] _) _ _ _
  unfold evalArgs
  show wpAny _ A (spliced [] >>= _) _ _ _
  refine wpAny_bind (spliced_none (pos := pos) (env := env) ?_)
  refine wpAny_bind (wpAny_pure ?_)
  refine wpAny_holding ?_
  first | refine wI_pos hall ?_ | rw [if_pos hall]
  refine wpAny_bind (wpAny_mono h (fun kvs s₂ h₂ => ?_) fun _ _ x => x)
  exact wpAny_bind (wpAny_pure (wpAny_pure h₂))
theorem St.isNew' {h G : Heap} {ms : List Addr} (S : St G L l N o s) (k : Keeps (hideAll h ms) G) {p : Addr × Obj} (hp : p ∈ N) (hm : p.1 ∉ ms) : h.get? p.1 = none := by
  cases e : h.get? p.1 with
  | none => rfl
  | some ob => have := (S.nw p hp).2.2; rw [k _ _ (hideAll_get _ e hm)] at this; cases this
theorem St.keepsBut' {h G : Heap} {ms : List Addr} (S : St G L l N o s) (k : Keeps (hideAll h ms) G) : KeepsBut ms h s.heap := fun b _ hb e => S.kept b _ (k _ _ (hideAll_get _ e hb))
end

section
variable {w : World} {A : Around} {E : Value → Shared → Prop} {s : Shared} {g g₀ : Heap} {L : Addr} {l : List (Str × Value)} {N : List (Addr × Obj)} {o : OsState} {mg mb : Str → Option Value} {K : Frag} {x : Addr} {xs : List Value}
set_option maxHeartbeats 1000000
theorem comp_ks {ps : List (Str × Str)} {a n : Int} {tn : Tok} {ob oc : Obj} {q al it : Addr} {asked : List Value} {ea : Nat} {kf : Value → Int} {Pv : Value → Prop} {Q : Flow → Shared → Prop} {fd : FuncData} (G : Gw K mg mb g) (r : Row K g x xs ps a) (hh : A.handled = none) (hd : A.depth + 30 < recursionLimit) (hu : A.units + 100 < cLine)
    (C0 : KeyOk w g (.ref q) al kf Pv) (hP : ∀ v ∈ xs, Pv v) (hq : g.get? q = some { cls := .type "function", data := .func fd }) (hza : asked.length ≤ 100) (hn : n < 1000) (hn2 : -1000 < n) (hoc : oc.data = .cell (some (.ref q)))
    (S : St g L [(Str.ofString "n", .int n tn), (Str.ofString "iterable", .ref x), (Str.ofString "it", .ref it)] [(it, liObj x 0), (L + 1, oc), (130, ob), (al, seqObj "list" asked.toArray ea)] o s)
    (h : ∀ (G : Heap) (D : Addr) (ys : List Value) (e1 e2 : Nat) (io : Obj) s', Keeps g G → ys.length = min n.toNat xs.length → (∀ (i : Nat) y, ys[i]? = some y → Ent G y (kf (xs.getD i .none)) i (xs.getD i .none)) → (io = liObj x (min n.toNat xs.length) ∨ io = liEnd xs.length ∧ xs.length < n.toNat) →
      St G L [(Str.ofString "n", .int n tn), (Str.ofString "iterable", .ref x), (Str.ofString "it", .ref it), (Str.ofString "result", .ref D)] [(D, seqObj "list" ys.toArray e1), (it, io), (al, seqObj "list" (asked ++ xs.take n.toNat).toArray e2), (L + 1, oc), (130, ob)] o s' → Q .next s') :
    wpAny (model prog w) A (exec (nsK.getD 1 (.Pass default)) (nsEnv L)) Q E s := by
  refine w_comp_as (cl := [(Str.ofString "key", L + 1)]) ?_
  refine Call_ (e_blt S G.gs G.bs G.zip0 G.zip1 ?_)
  refine callWith_type1 ?_
  refine args_cons ?_
  refine Call_ (e_blt S G.gs G.bs G.rng0 G.rng1 ?_)
  repeat (walk_at "1")
  have _ := trivial
  have _ := trivial
  have _ := trivial
  have _ := trivial
  have _ := trivial
  have _ := trivial
  have _ := trivial
  have _ := trivial
  have _ := trivial
  have _ := trivial
  have _ := trivial
  have _ := trivial
  refine c_range1 S ?_
  intro rg t1 t2 t3 s1 S
  repeat (walk_at "1")
  have S' : St g L [(Str.ofString "n", .int n tn), (Str.ofString "iterable", .ref x), (Str.ofString "it", .ref it)] ((it, liObj x 0) :: [(al, seqObj "list" asked.toArray ea), (L + 1, oc), (130, ob)]) o s1 := ((S.less (.cons _ (.refl _))).pick 3 (by simp)).pick 1 (by simp)
  refine c_zip (S.at (.head _)) (small_range hn2 hn) S' ?_
  intro ri TI TO z s2 S
  have er : Builtin.Range.rangeSize 0 n 1 = (n.toNat : Int) := by rw [rangeSize_one]; split <;> lia
  rw [er] at S
  refine i_zip (S.at (.head _)) ?_
  refine ⟨g, L, _, _, o, rfl, S, ?_⟩
  intro D C s4 S4
  refine ⟨fun m s' => Ex8 fun (k : Nat) (G : Heap) (l' : List (Str × Value)) (ys : List Value) (e1 e2 : Nat) (va vb : Value) => An7 (m = n.toNat - k) (k ≤ n.toNat) (k ≤ xs.length)
      (Keeps (hideAll s2.heap ((zipL z TI TO ri it .none .none .none (riObj 0 (n.toNat : Int) 1) (liObj x 0) ++ [(al, seqObj "list" asked.toArray ea), (L + 1, oc), (130, ob)]).map (·.1))) G) (ys.length = k)
      (∀ (i : Nat) y, ys[i]? = some y → Ent G y (kf (xs.getD i .none)) i (xs.getD i .none))
      (St G C l' (zipL z TI TO ri it .none va vb (riObj (k : Int) ((n.toNat - k : Nat) : Int) 1) (liObj x k) ++ [(D, seqObj "list" ys.toArray e1), (al, seqObj "list" (asked ++ xs.take k).toArray e2), (L + 1, oc), (130, ob)]) o s'),
    n.toNat, ⟨0, _, [], [], 0, ea, .none, .none, rfl, Nat.zero_le _, Nat.zero_le _, .refl _, rfl, by simp, by simpa using S4.perm List.perm_middle.symm⟩, fun Q' E' hq' => i_zip (S4.at (.tail _ (.head _))) hq', ?_⟩
  intro m s' hI₁ P₁ R₁ hP₁ hR₁
  obtain ⟨k, G', l', ys, e1, e2, va, vb, rfl, hk1, hk2, kG, hys, hE, S5⟩ := hI₁
  have hgG : Keeps g G' := fun b ob e => kG b ob (hideAll_get _ (S.kept b ob e) fun hm => by
    obtain ⟨p, hp, he⟩ := List.mem_map.mp hm
    have := (S.nw p hp).2.2
    rw [he, e] at this; cases this)
  have hseq' : SeqAt G' x xs := r.seq hgG
  by_cases hkn : k = n.toNat
  · subst hkn
    rw [Nat.sub_self] at S5
    refine n_zip_end1 hh S5 ?_
    intro s6 S6
    refine hR₁ _ ⟨G', l', [(D, seqObj "list" ys.toArray e1), (it, liObj x n.toNat), (al, seqObj "list" (asked ++ xs.take n.toNat).toArray e2), (L + 1, oc), (130, ob)], kG, ?_, ?_⟩
    · exact (S6.less (N' := [(it, liObj x n.toNat), (D, seqObj "list" ys.toArray e1), (al, seqObj "list" (asked ++ xs.take n.toNat).toArray e2), (L + 1, oc), (130, ob)]) (.cons _ (.cons _ (.cons _ (.cons _ (.refl _)))))).perm (.swap ..)
    · intro G'' s7 k1 k2 S7
      refine h G'' D ys e1 e2 _ s7 k1 (by rw [hys, Nat.min_eq_left hk2]) (fun i y hy => ?_) (.inl (by rw [Nat.min_eq_left hk2])) S7
      exact (hE i y hy).over (S.frameIn kG) k2
  · by_cases hkx : k = xs.length
    · subst hkx
      obtain ⟨lf, hlf⟩ : ∃ lf, n.toNat - xs.length = lf + 1 := ⟨n.toNat - xs.length - 1, sub_ex hk1 hkn⟩
      rw [hlf] at S5
      refine n_zip_end2 (left := lf) hh hseq' (by push_cast at S5; exact S5) ?_
      intro s6 S6
      refine hR₁ _ ⟨G', l', [(D, seqObj "list" ys.toArray e1), (it, liEnd xs.length), (al, seqObj "list" (asked ++ xs.take xs.length).toArray e2), (L + 1, oc), (130, ob)], kG, S6.perm (.swap ..), ?_⟩
      intro G'' s7 k1 k2 S7
      refine h G'' D ys e1 e2 _ s7 k1 (by rw [hys, Nat.min_eq_right (by walk_at "l")]) (fun i y hy => ?_) (.inr ⟨rfl, by walk_at "l"⟩) (by rw [List.take_of_length_le (by walk_at "l" : xs.length ≤ n.toNat)]; rwa [List.take_length] at S7)
      exact (hE i y hy).over (S.frameIn kG) k2
    · obtain ⟨lf, hlf⟩ : ∃ lf, n.toNat - k = lf + 1 := ⟨n.toNat - k - 1, sub_ex hk1 hkn⟩
      have hkl : k < xs.length := Nat.lt_of_le_of_ne hk2 hkx
      rw [hlf] at S5
      refine n_zip (left := lf) hseq' (by push_cast at S5; exact S5) (List.getElem?_eq_getElem (by walk_at "l")) ?_
      intro T t s6 S6
      simp only [zipL, List.cons_append, List.nil_append] at S6
      obtain ⟨iv, hiv⟩ : ∃ iv, iv = Value.int (↑k) t := ⟨_, rfl⟩
      obtain ⟨ro, hro⟩ : ∃ ro, ro = riObj (↑k + 1) (↑lf) 1 := ⟨_, rfl⟩
      rw [← hiv, ← hro] at S6
      refine go_zip S6 1 rfl ?_
      intro s7 S7
      dsimp only [List.set_cons_succ, List.set_cons_zero] at S7
      refine as_tup (items := [iv, xs[k]]) hh S7 (S7.at (.head _)) ?_
      intro s8 S8
      have S8 := S8.weak (l' := []) rfl
      refine assignInOrder_cons ?_
      refine wpAny_assign_Name (s_loc S8 ?_)
      intro s9 S9
      refine assignInOrder_cons ?_
      refine wpAny_assign_Name (s_loc S9 ?_)
      intro s10 S10
      refine assignInOrder_nil ?_
      walk_at "put"
      show wpAny _ _ (eval _ _) _ _ _
      refine e_tup ?_
      refine spliced_more ?_
      refine Call_ (e_cell S10 8 rfl hoc ?_)
      refine callWith_def (o := { cls := .type "function", data := .func fd }) rfl ?_
      repeat (walk_at "1")
      refine ⟨S10.kept _ _ (hgG _ _ hq), ?_⟩
      refine C0 xs[k] (asked ++ xs.take k) e2 A _ _ s10 (hP _ (List.getElem_mem _)) hh (by walk_at "l") (by walk_at "l") (hgG.trans S10.kept) (S10.at (by repeat first | exact .head _ | apply List.Mem.tail)) (by have := r.few; simp; lia) S10.gn ?_
      intro t' e3 s11 q1 q2 q3 q4
      have S11 := S10.turnBut 7 rfl q1 q2 q3 q4
      dsimp only [List.set_cons_succ, List.set_cons_zero] at S11
      repeat (walk_at "1")
      rename St _ _ _ _ _ _ => S12
      refine ap_list S12 7 rfl (by walk_at "l") ?_
      intro s13 S13
      dsimp only [List.set_cons_succ, List.set_cons_zero] at S13
      obtain ⟨G2, kg1, kg2, kg3, S14⟩ := S13.rebase (N' := [(z, zipObj Value.none TI TO), (TO, prObj iv xs[k]), (TI, prObj (Value.ref ri) (Value.ref it)),
        (ri, ro), (it, liObj x (k + 1)), (D, _), (al, _), (L + 1, oc), (130, ob)]) (.cons _ (.cons _ (.refl _)))
      have hent := kg2 _ (.head _) (S13.out0 (.cons _ (.refl _)))
      refine hP₁ _ ⟨n.toNat - (k + 1), by walk_at "l", k + 1, G2, ?l1, ?ys1, ?e11, ?e21, ?va1, ?vb1, rfl, by walk_at "l", by walk_at "l", kG.trans kg1, ?len1, ?ent1, ?st1⟩
      case st1 =>
        subst hro
        have e1 : n.toNat - (k + 1) = lf := sub_next hlf
        have e2 : asked ++ xs.take k ++ [xs[k]] = asked ++ xs.take (k + 1) := by rw [List.append_assoc, List.take_add_one, List.getElem?_eq_getElem (by walk_at "l")]; rfl
        rw [e1, ← e2]
        push_cast
        exact S14
      case len1 => simp [hys]
      case ent1 =>
        intro i y hy
        rw [List.getElem?_append] at hy
        split at hy
        · exact (hE i y hy).keeps kg1
        · have hi : i = k := by
            obtain ⟨q, _⟩ := List.getElem?_eq_some_iff.mp hy
            simp at q; exact Nat.le_antisymm (hys ▸ Nat.le_of_sub_eq_zero q) (hys ▸ Nat.le_of_not_lt ‹_›)
          subst hi
          simp only [hys, Nat.sub_self, List.getElem?_cons_zero, Option.some.injEq] at hy
          subst hy
          rw [show xs.getD i .none = xs[i] by simp [List.getD, List.getElem?_eq_getElem (show i < xs.length by walk_at "l")]]
          subst hiv
          exact ⟨_, _, _, _, rfl, hent⟩
end
section
variable {w : World} {A : Around} {E : Value → Shared → Prop} {s : Shared} {g g₀ : Heap} {L : Addr} {l : List (Str × Value)} {N : List (Addr × Obj)} {o : OsState} {mg mb : Str → Option Value} {K : Frag} {x : Addr} {xs : List Value}
set_option maxHeartbeats 1000000
theorem tail_ks {ps : List (Str × Str)} {a n : Int} {tn : Tok} {ob oc io : Obj} {q al it D : Addr} {asked ys : List Value} {e1 e2 : Nat} {kf : Value → Int} {Pv : Value → Prop} {Q : Flow → Shared → Prop} {fd : FuncData} (G : Gw K mg mb g) (r : Row K g x xs ps a) (hh : A.handled = none) (hd : A.depth + 30 < recursionLimit) (hu : A.units + 100 < cLine)
    (C0 : KeyOk w g (.ref q) al kf Pv) (hP : ∀ v ∈ xs, Pv v) (hq : g.get? q = some { cls := .type "function", data := .func fd }) (hza : asked.length ≤ 100) (hxs : 2 ≤ xs.length) (hn : n < 1000) (hn2 : -1000 < n) (hoc : oc.data = .cell (some (.ref q)))
    (hys : ys.length = min n.toNat xs.length) (hE : ∀ (i : Nat) y, ys[i]? = some y → Ent g y (kf (xs.getD i .none)) i (xs.getD i .none)) (hio : io = liObj x (min n.toNat xs.length) ∨ io = liEnd xs.length ∧ xs.length < n.toNat)
    (S : St g L [(Str.ofString "n", .int n tn), (Str.ofString "iterable", .ref x), (Str.ofString "it", .ref it), (Str.ofString "result", .ref D)] [(D, seqObj "list" ys.toArray e1), (it, io), (al, seqObj "list" (asked ++ xs.take n.toNat).toArray e2), (L + 1, oc), (130, ob)] o s)
    (h : ∀ (G : Heap) (R : Addr) (out : List Value) (e3 e4 : Nat) l' s', Keeps g G → SortedBy (kLt kf xs) xs out →
      St G L l' [(R, seqObj "list" (out.take n.toNat).toArray e3), (al, seqObj "list" (asked ++ (if 0 < n then xs else [])).toArray e4), (130, ob)] o s' → Q (.ret (.ref R)) s') :
    wpAny (model prog w) A (execs (nsK.drop 2) (nsEnv L)) Q E s := by
  obtain ⟨full, hfull⟩ := sorted_exists (vs := xs) (kLt_wo kf xs _)
  have hzs := r.few
  refine x_cons ?_
  refine wpAny_If ?_
  refine isTrue_not ?_
  refine isTrue_plain ?_
  repeat (walk_at "1")
  have hyx : ys.length ≤ xs.length := hys ▸ Nat.min_le_right _ _
  have hy64 : ys.length < 64 := Nat.lt_of_le_of_lt hyx hzs
  refine tr_list S (S.at (.head _)) (Nat.lt_trans hy64 (by decide)) ?_
  intro s1 S
  by_cases hy0 : ys = []
  · refine if_p (by simp [hy0]) ?_
    have hn0 : n.toNat = 0 := by rw [hy0] at hys; simp at hys; lia
    repeat (walk_at "1")
    rename St _ _ _ _ _ _ => S
    refine h g D full e1 e2 _ _ (.refl _) hfull (S.less ?_)
    rw [hy0, hn0, if_neg (by walk_at "l")]
    simp only [List.take_zero]
    exact .cons_cons _ (.cons _ (.cons_cons _ (.cons _ (.refl _))))
  · refine if_n (by simp [hy0]) ?_
    have hn0 : 0 < n := by have := List.length_pos_iff.mpr hy0; lia
    repeat (walk_at "1")
    rename St _ _ _ _ _ _ => S
    refine e_glob S G.gs G.n49 ?_
    refine c_fn G.f49 ?_
    repeat (walk_at "1")
    rename St _ _ _ _ _ _ => S
    refine ⟨⟨_, _, _, _, S⟩, ?_⟩
    have hpc : ∀ i, i < xs.length → ∃ c, Pc g (xs.getD i .none) c := fun i hi => ⟨_, r.pcs.2 i _ _ (by simp [List.getD, hi]) (List.getElem?_eq_getElem (by rw [← r.pcs.1]; exact hi))⟩
    have hdc : ∀ (i : Nat) y, ys[i]? = some y → dcOf g y = (i, (i : Int)) := fun i y hy => by
      unfold dcOf; rw [(hE i y hy).ord]; simp
    have hEn : ∀ (i : Nat) y, ys[i]? = some y → EnK kf xs g y (dcOf g y) := fun i y hy => by
      rw [hdc i y hy]
      exact ⟨hE i y hy, hpc i (Nat.lt_of_lt_of_le (List.getElem?_eq_some_iff.mp hy).1 hyx)⟩
    have hcmp : CmpOk w (hideAll _ [D]) (· ∈ ys) (fun y z => pyl (kLt kf xs) (dcOf g y) (dcOf g z)) := (entK kf xs).cmpOk (g := g) (M := ys) (fun y hy => by
        obtain ⟨i, hi⟩ := List.getElem?_of_mem hy
        exact hEn i y hi) (fun y hy z hz => by
        obtain ⟨i, hi⟩ := List.getElem?_of_mem hy
        obtain ⟨k, hk⟩ := List.getElem?_of_mem hz
        rw [hdc i y hi, hdc k z hk]
        by_cases e : i = k
        · subst e; rw [hi] at hk; exact .inl (Option.some.inj hk)
        · exact .inr (by simp; lia)) (S.kept.hide (by intro b hb; simp at hb; rw [hb]; exact (S.nw _ (.head _)).2.2))
    refine heapify_max_ok G.toGl S.kept (S.nw _ (.head _)).2.2 hh (by walk_at "l") (by walk_at "l") S.gn (S.at (.head _)) hcmp (fun y hy => hy) (by walk_at "l") ?_
    intro s2 k1 k2 k3 k4
    have S2 := S.turnBut 0 rfl k1 k2 k3 k4
    have X0 := HS.start (kl := kLt kf xs) (b := false) (En := EnK kf xs g) (dc := dcOf g) (c := n) (kLt_wa kf xs) (fun i y hy => ⟨hdc i y hy, hEn i y hy⟩) (by simp; lia)
    have hHl : (hfy (hlt false fun y z => pyl (kLt kf xs) (dcOf g y) (dcOf g z)) (ys.length / 2) ys).length = ys.length := (hfy_perm _ _).length_eq
    have S2' : St g L [(Str.ofString "n", .int n tn), (Str.ofString "iterable", .ref x), (Str.ofString "it", .ref it), (Str.ofString "result", .ref D)] [(D, seqObj "list" (hfy (hlt false fun y z => pyl (kLt kf xs) (dcOf g y) (dcOf g z)) (ys.length / 2) ys).toArray e1), (it, io), (al, seqObj "list" (asked ++ xs.take n.toNat).toArray e2), (L + 1, oc), (130, ob)] o s2 := S2
    clear S2 S hcmp
    generalize hH : hfy (hlt false fun y z => pyl (kLt kf xs) (dcOf g y) (dcOf g z)) (ys.length / 2) ys = H at X0 hHl S2'
    clear hH
    have S := S2'
    clear S2'
    obtain ⟨r0, t0, rfl⟩ : ∃ r0 t0, H = r0 :: t0 := by
      cases H with
      | nil => simp at hHl; exact absurd hHl.symm (by have := List.length_pos_iff.mpr hy0; lia)
      | cons a b => exact ⟨a, b, rfl⟩
    obtain ⟨⟨T0, eT0, tk0, to0, hr0, ho0⟩, _⟩ := X0.ents r0 (.head _)
    refine x_cons ?_
    repeat (walk_at "e")
    rename St _ _ _ _ _ _ => S
    refine i_list (n := 0) (S.at (.head _)) rfl (by walk_at "l") rfl ?_
    repeat (walk_at "e")
    rename St _ _ _ _ _ _ => S
    rw [hr0]
    refine i_tup (items := [_, _, _]) (j := 0) (S.kept _ _ ho0) rfl rfl (by simp) ?_
    repeat (walk_at "e")
    refine x_cons ?_
    repeat (walk_at "e")
    have _ := trivial
    have _ := trivial
    have _ := trivial
    refine x_cons ?_
    repeat (walk_at "e")
    rename St _ _ _ _ _ _ => S
    refine e_glob S G.gs G.n42 ?_
    repeat (walk_at "e")
    rename St _ _ _ _ _ _ => S
    refine x_cons ?_
    obtain ⟨M, hM⟩ : ∃ M, M = [(L + 1, oc), (130, ob)] := ⟨_, rfl⟩
    rw [← hM] at S
    obtain ⟨hr, hhr⟩ : ∃ hr, hr = Value.ref 42 := ⟨_, rfl⟩
    rw [← hhr] at S
    have LS0 : Ex10 fun (io' : Obj) (G' : Heap) (r0 : Value) (t0 : List Value) (dc : Value → Nat × Int) (c : Int) (tt tc : Tok) (e1 e2 : Nat) => An5 (io' = liObj x (min n.toNat xs.length) ∨ io' = liEnd xs.length ∧ min n.toNat xs.length = xs.length) (Keeps g G') (HS (kLt kf xs) false (EnK kf xs G') (min n.toNat xs.length) c (r0 :: t0) dc) ((r0 :: t0).length = ys.length)
        (St G' L [(Str.ofString "it", .ref it), (Str.ofString "result", .ref D), (Str.ofString "top", .int (kf (xs.getD (dc r0).1 .none)) tt), (Str.ofString "order", .int c tc), (Str.ofString "_heapreplace", hr)]
          ((D, seqObj "list" (r0 :: t0).toArray e1) :: (it, io') :: (al, seqObj "list" (asked ++ xs.take (min n.toNat xs.length)).toArray e2) :: M) o _) :=
      ⟨io, g, r0, t0, dcOf g, n, tk0, tn, e1, e2, hio.imp id fun ⟨p, q⟩ => ⟨p, Nat.min_eq_right (Nat.le_of_lt q)⟩, .refl _, hys ▸ X0, hHl, by rw [show xs.take (min n.toNat xs.length) = xs.take n.toNat by rw [← List.take_take, List.take_length]]; exact S.weak rfl⟩
    clear S X0 hr0 ho0 hHl hdc hEn hio hE
    refine w_for (fun s' => Ex10 fun (io' : Obj) (G' : Heap) (r0 : Value) (t0 : List Value) (dc : Value → Nat × Int) (c : Int) (tt tc : Tok) (e1 e2 : Nat) => An4 (Keeps g G') (HS (kLt kf xs) false (EnK kf xs G') xs.length c (r0 :: t0) dc) ((r0 :: t0).length = ys.length)
        (St G' L [(Str.ofString "result", .ref D)]
          ((D, seqObj "list" (r0 :: t0).toArray e1) :: (it, io') :: (al, seqObj "list" (asked ++ xs).toArray e2) :: M) o s')) ?_ ?_
    · obtain ⟨io', G', r0, t0, dc, c, tt, tc, e1, e2, hio', kG, X, hl, S⟩ := LS0
      repeat (walk_at "1")
      refine i_li (S.at (.tail _ (.head _))) (by rcases hio' with rfl | ⟨rfl, _⟩ <;> rfl) ?_
      refine ⟨fun m s' => Ex11 fun (j : Nat) (io' : Obj) (G' : Heap) (r0 : Value) (t0 : List Value) (dc : Value → Nat × Int) (c : Int) (tt tc : Tok) (e1 e2 : Nat) => An7 (m = xs.length - j) (j ≤ xs.length) (io' = liObj x j ∨ io' = liEnd xs.length ∧ j = xs.length) (Keeps g G') (HS (kLt kf xs) false (EnK kf xs G') j c (r0 :: t0) dc) ((r0 :: t0).length = ys.length)
        (St G' L [(Str.ofString "result", .ref D), (Str.ofString "top", .int (kf (xs.getD (dc r0).1 .none)) tt), (Str.ofString "order", .int c tc), (Str.ofString "_heapreplace", hr)]
          ((D, seqObj "list" (r0 :: t0).toArray e1) :: (it, io') :: (al, seqObj "list" (asked ++ xs.take j).toArray e2) :: M) o s'), _, ⟨min n.toNat xs.length, io', G', r0, t0, dc, c, tt, tc, e1, e2, rfl, Nat.min_le_right _ _, hio', kG, X, hl, S.weak rfl⟩, ?_⟩
      clear S X hl kG hio'
      intro m s' hI₁ Q₁ X₁ hQ₁ hX₁
      obtain ⟨j, io', G', r0, t0, dc, c, tt, tc, e1, e2, rfl, hj, hio', kG, X, hl, S⟩ := hI₁
      by_cases hjx : j = xs.length
      · subst hjx
        rw [List.take_length] at S
        rcases hio' with rfl | ⟨rfl, _⟩
        · refine n_li_end hh S 1 rfl (r.seq (kG.trans S.kept)) (Nat.le_refl _) ?_
          intro s1 S1
          exact hX₁ _ ⟨_, G', r0, t0, dc, c, tt, tc, e1, e2, kG, X, hl, S1.weak rfl⟩
        · refine n_li_over hh S 1 rfl ?_
          intro s1 S1
          exact hX₁ _ ⟨_, G', r0, t0, dc, c, tt, tc, e1, e2, kG, X, hl, S1.weak rfl⟩
      · have hio2 : io' = liObj x j := hio'.elim id fun q => absurd q.2 hjx
        subst hio2
        have hjl : j < xs.length := by walk_at "l"
        obtain ⟨v, hv⟩ : ∃ v, xs[j]? = some v := ⟨_, List.getElem?_eq_getElem hjl⟩
        have GG := G.keeps kG
        refine n_li S 1 rfl (r.seq (kG.trans S.kept)) hv ?_
        intro s1 S1
        dsimp only [List.set_cons_succ, List.set_cons_zero] at S1
        refine wpAny_assign_Name (s_loc S1 ?_)
        intro s2 S2
        walk_at "put"
        refine x_cons ?_
        refine wpAny_Assign_Name ?_
        refine Call_ (e_cell S2 3 (by rw [hM]; rfl) hoc ?_)
        refine callWith_def (o := { cls := .type "function", data := .func fd }) rfl ?_
        repeat (walk_at "1")
        refine ⟨S2.kept _ _ (kG _ _ hq), ?_⟩
        refine C0 v (asked ++ xs.take j) e2 A _ _ s2 (hP _ (List.mem_of_getElem? hv)) hh (by walk_at "l") (by walk_at "l") (kG.trans S2.kept) (S2.at (by repeat first | exact .head _ | apply List.Mem.tail)) (by simp; lia) S2.gn ?_
        intro t' e3 s3 q1 q2 q3 q4
        have S3 := S2.turnBut 2 rfl q1 q2 q3 q4
        dsimp only [List.set_cons_succ, List.set_cons_zero] at S3
        have ea : asked ++ xs.take j ++ [v] = asked ++ xs.take (j + 1) := by rw [List.append_assoc, List.take_add_one, hv]; rfl
        rw [ea] at S3
        repeat (walk_at "1")
        rename St _ _ _ _ _ _ => S4
        have exj : xs.getD j .none = v := by simp [List.getD, hv]
        refine ite_dec (fun hlt => ?_) (fun hlt => ?_)
        · repeat (walk_at "1")
          rw [hhr]
          refine c_fn GG.f42 ?_
          repeat (walk_at "1")
          rename St _ _ _ _ _ _ => S5
          rename_i Tn s5 hfresh hks
          refine ⟨⟨_, _, _, _, S5⟩, ?_⟩
          obtain ⟨G2, kg1, kg2, kg3, S6⟩ := S5.rebase (N' := ((D, seqObj "list" (r0 :: t0).toArray e1) :: (it, liObj x (j + 1)) :: (al, seqObj "list" (asked ++ List.take (j + 1) xs).toArray e3) :: M)) (.cons _ (.refl _))
          have hobj := kg2 _ (.head _) (S5.out0 (.refl _))
          have hfr := (S5.nw _ (.head _)).2.2
          have hnt : Value.ref Tn ∉ t0 := fun hm => by
            obtain ⟨⟨T, e, t, u, hT, hTo⟩, _⟩ := X.ents _ (.tail _ hm)
            injection hT with hT
            rw [hT, hTo] at hfr; cases hfr
          have X2 := X.imp (En' := EnK kf xs G2) fun y p hp => (entK (w := w) kf xs).kp _ _ _ _ hp kg1
          have hnewE : EnK kf xs G2 (.ref Tn) (j, c) := ⟨⟨_, _, _, _, rfl, by rw [exj]; exact hobj⟩, (by obtain ⟨cc, hcc⟩ := hpc j hjl; exact ⟨cc, (hcc.keeps kG).keeps kg1⟩)⟩
          have hbb : flp false (kLt kf xs) j (dc r0).1 = true := by show decide _ = true; rw [exj]; simpa using hlt
          have hkh := S6.kept.hide (ms := [D]) (by intro b hb; simp at hb; rw [hb]; exact (S6.nw _ (.head _)).2.2)
          refine heapreplace_max_ok (GG.keeps kg1).toGl S6.kept (S6.nw _ (.head _)).2.2 (by walk_at "l") (by walk_at "l") S6.gn (S6.at (.head _)) (X2.join (entK kf xs) hnt hnewE hkh) (fun y hy => hy) (Nat.lt_trans (Nat.lt_of_le_of_lt (Nat.le_of_eq hl) hy64) (by decide)) ?_
          intro s7 k1 k2 k3 k4
          have X3 := X2.swap (c' := c + 1) (kLt_wa kf xs) hnt hnewE hbb rfl
          have S7 := S6.turnBut 0 rfl k1 k2 k3 k4
          dsimp only [List.set_cons_zero] at S7
          have hlen3 := (sup_perm (lt := Mine.hlt false fun y z => pyl (kLt kf xs) ((fun v => if v = Value.ref Tn then (j, c) else dc v) y) ((fun v => if v = Value.ref Tn then (j, c) else dc v) z)) (pos := 0) (xs := Value.ref Tn :: t0)).length_eq
          have S8 : St G2 L [(Str.ofString "result", .ref D), (Str.ofString "top", .int (kf (xs.getD (dc r0).1 .none)) tt), (Str.ofString "order", .int c tc), (Str.ofString "_heapreplace", hr)]
              ((D, seqObj "list" (sup (Mine.hlt false fun y z => pyl (kLt kf xs) ((fun v => if v = Value.ref Tn then (j, c) else dc v) y) ((fun v => if v = Value.ref Tn then (j, c) else dc v) z)) 0 (Value.ref Tn :: t0)).toArray e1) :: (it, liObj x (j + 1)) :: (al, seqObj "list" (asked ++ xs.take (j + 1)).toArray e3) :: M) o s7 := S7.weak rfl
          clear S7 k2 k1 k3 k4
          generalize hH3 : sup (Mine.hlt false fun y z => pyl (kLt kf xs) ((fun v => if v = Value.ref Tn then (j, c) else dc v) y) ((fun v => if v = Value.ref Tn then (j, c) else dc v) z)) 0 (Value.ref Tn :: t0) = H3 at X3 hlen3 S8
          clear hH3
          generalize (fun v => if v = Value.ref Tn then (j, c) else dc v) = dc3 at X3
          obtain ⟨r1, t1, rfl⟩ : ∃ r1 t1, H3 = r1 :: t1 := by
            cases H3 with
            | nil => simp at hlen3
            | cons a b => exact ⟨a, b, rfl⟩
          obtain ⟨⟨T1, eT1, tk1, to1, hr1, ho1⟩, _⟩ := X3.ents r1 (.head _)
          clear S S1 S2 S3 S4 S5 S6
          refine x_cons ?_
          refine Assign_Tuple ?_
          repeat (walk_at "e")
          rename St _ _ _ _ _ _ => S9
          refine i_list (n := 0) (S9.at (.head _)) rfl (by walk_at "l") rfl ?_
          rw [hr1]
          refine as_tup (items := [.int (kf (xs.getD (dc3 r1).1 .none)) tk1, .int (dc3 r1).2 to1, xs.getD (dc3 r1).1 .none]) hh S9 (S9.kept _ _ ho1) ?_
          intro s10 S10
          refine assignInOrder_cons (wpAny_assign_Name (s_loc S10 ?_))
          intro s11 S11
          refine assignInOrder_cons (wpAny_assign_Name (s_loc S11 ?_))
          intro s12 S12
          refine assignInOrder_cons (wpAny_assign_Name (s_loc S12 ?_))
          intro s13 S13
          refine assignInOrder_nil ?_
          walk_at "put"
          refine x_cons ?_
          refine wpAny_AugAssign_Name (n_loc S13 rfl ?_)
          repeat (walk_at "e")
          rename St _ _ _ _ _ _ => S14
          refine ia_add S14 ?_
          intro tc' s15 S15
          repeat (walk_at "1")
          rename St _ _ _ _ _ _ => S16
          exact hQ₁ _ _ ⟨xs.length - (j + 1), by walk_at "l", j + 1, _, G2, r1, t1, dc3, c + 1, tk1, tc', e1, e3, rfl, by walk_at "l", .inl rfl, kG.trans kg1, X3, by simp at hlen3 hl ⊢; lia, S16.weak rfl⟩
        · repeat (walk_at "1")
          have hbb : flp false (kLt kf xs) j (dc r0).1 = false := by show decide _ = false; rw [exj]; simpa using hlt
          exact hQ₁ _ _ ⟨xs.length - (j + 1), by walk_at "l", j + 1, _, G', r0, t0, dc, c, tt, tc, e1, e3, rfl, by walk_at "l", .inl rfl, kG, X.keep (kLt_wa kf xs) hbb, hl, S4.weak rfl⟩
    · rintro s3 ⟨io', G', r0, t0, dc, c, tt, tc, e1, e2, kG, X, hl, S⟩
      subst hM
      repeat (walk_at "1")
      refine m_list PySem.F.slot_list_sort PySem.F.type_list_sort (S.at (.head _)) ?_
      repeat (walk_at "1")
      refine c_sort (T := pTree D false) (S.at (.head _)) (args_list_sort _) (pt0 D) ?_
      refine sort_plain (A := A.in1) (m := 6) (Lt := eLt (kLt kf xs) dc (r0 :: t0)) (kind := tuples' true) S 0 rfl (Nat.lt_of_le_of_lt (Nat.le_of_eq hl) hy64) (by show A.units + 1 + 6 < _; lia) (eLt_wo (kLt_wa kf xs) _) (fun _ => (entK kf xs).kd _ _ (fun y hy => ⟨_, X.ents y hy⟩) (by simp)) (X.sortLt (entK kf xs)) ?_
      intro out e3 s4 hsb S4
      refine ⟨_, rfl, ?_⟩
      dsimp only [List.set_cons_zero] at S4
      have hfin := X.done (kLt_wa kf xs) hsb hfull
      have hmem : ∀ y ∈ out, EnK kf xs G' y (dc y) := fun y hy => by
        obtain ⟨σ, h1, h2, h3, _⟩ := hsb
        obtain ⟨i, hi⟩ := List.getElem?_of_mem hy
        have hil := (List.getElem?_eq_some_iff.mp hi).1
        rw [h3 i (by walk_at "l")] at hi
        exact X.ents y (List.mem_of_getElem? hi)
      have hol : out.length = ys.length := by obtain ⟨σ, h1, _⟩ := hsb; lia
      clear X hsb S
      repeat (walk_at "1")
      obtain ⟨G2, kg1, kg2, kg3, S5⟩ := S4.rebase (N' := [(al, seqObj "list" (asked ++ xs).toArray e2), (L + 1, oc), (130, ob)]) (.cons _ (.cons _ (.refl _)))
      have hobj := kg2 _ (.head _) (S4.out0 (.cons _ (.refl _)))
      refine w_comp (cl := []) ?_
      repeat (walk_at "1")
      refine i_lst S5 (S5.kept _ _ hobj) ?_
      intro it' s6 S6
      refine ⟨_, _, _, _, _, loops_list hh S6 ⟨_, _, hobj, rfl⟩ (fun k _ zs N => zs = (out.take k).map (fun y => xs.getD (dc y).1 .none) ∧ N = [(al, seqObj "list" (asked ++ xs).toArray e2), (L + 1, oc), (130, ob)]) (fun _ _ => ⟨rfl, rfl⟩) ?_ ?_⟩
      · intro k D' C G3 zs e N s7 v hv kG3 hI₁ S7 P₁ hP₁
        obtain ⟨rfl, rfl⟩ := hI₁
        obtain ⟨⟨T1, eT1, tk1, to1, hr1, ho1⟩, _⟩ := hmem v (List.mem_of_getElem? hv)
        subst hr1
        refine as_tup (items := [_, _, _]) hh S7 (S7.kept _ _ (kG3 _ _ (kg1 _ _ ho1))) ?_
        intro s8 S8
        refine assignInOrder_cons (wpAny_assign_Name (s_loc S8 ?_))
        intro s9 S9
        refine assignInOrder_cons (wpAny_assign_Name (s_loc S9 ?_))
        intro s10 S10
        refine assignInOrder_cons (wpAny_assign_Name (s_loc S10 ?_))
        intro s11 S11
        refine assignInOrder_nil ?_
        walk_at "put"
        show wpAny _ _ (eval _ _) _ _ _
        repeat (walk_at "1")
        refine ap_list S11 0 rfl (by simp; exact Nat.le_trans (Nat.min_le_right _ _) (len_small hol hy64)) ?_
        intro s12 S12
        exact hP₁ _ ⟨G3, _, _, _, _, .refl _, ⟨by rw [List.take_add_one, hv]; simp, rfl⟩, S12⟩
      · rintro D' G3 zs e N G4 s7 ⟨rfl, rfl⟩ kg4 _ S7
        rw [List.take_length, ← hfin] at S7
        refine h G4 D' full e e2 [] s7 ((kG.trans kg1).trans kg4) hfull ?_
        rw [if_pos hn0]
        have et : full.take n.toNat = full.take (r0 :: t0).length := by
          rw [hl, hys]
          by_cases hc : n.toNat ≤ xs.length
          · rw [Nat.min_eq_left hc]
          · have hfl : full.length = xs.length := by obtain ⟨σ, h1, _⟩ := hfull; exact h1
            rw [Nat.min_eq_right (by walk_at "l"), List.take_of_length_le (by walk_at "l"), List.take_of_length_le (by walk_at "l")]
        rw [et]
        exact (S7.less (.cons_cons _ (.cons _ (.cons_cons _ (.cons _ (.refl _)))))).weak rfl
end

section
variable {w : World} {A : Around} {E : Value → Shared → Prop} {s : Shared} {g g₀ : Heap} {L : Addr} {l : List (Str × Value)} {N : List (Addr × Obj)} {o : OsState} {mg mb : Str → Option Value} {K : Frag} {x : Addr} {xs : List Value}
set_option maxHeartbeats 1000000
theorem comp_kl {ps : List (Str × Str)} {a n : Int} {tn : Tok} {ob oc : Obj} {q al it : Addr} {asked : List Value} {ea : Nat} {kf : Value → Int} {Pv : Value → Prop} {Q : Flow → Shared → Prop} {fd : FuncData} (G : Gw K mg mb g) (r : Row K g x xs ps a) (hh : A.handled = none) (hd : A.depth + 30 < recursionLimit) (hu : A.units + 100 < cLine)
    (C0 : KeyOk w g (.ref q) al kf Pv) (hP : ∀ v ∈ xs, Pv v) (hq : g.get? q = some { cls := .type "function", data := .func fd }) (hza : asked.length ≤ 100) (hn : n < 1000) (hn2 : -1000 < n) (hoc : oc.data = .cell (some (.ref q)))
    (S : St g L [(Str.ofString "n", .int n tn), (Str.ofString "iterable", .ref x), (Str.ofString "it", .ref it)] [(it, liObj x 0), (L + 1, oc), (130, ob), (al, seqObj "list" asked.toArray ea)] o s)
    (h : ∀ (G : Heap) (D : Addr) (ys : List Value) (e1 e2 : Nat) (io : Obj) s', Keeps g G → ys.length = min n.toNat xs.length → (∀ (i : Nat) y, ys[i]? = some y → Ent G y (kf (xs.getD i .none)) (-(i : Int)) (xs.getD i .none)) → (io = liObj x (min n.toNat xs.length) ∨ io = liEnd xs.length ∧ xs.length < n.toNat) →
      St G L [(Str.ofString "n", .int n tn), (Str.ofString "iterable", .ref x), (Str.ofString "it", .ref it), (Str.ofString "result", .ref D)] [(D, seqObj "list" ys.toArray e1), (it, io), (al, seqObj "list" (asked ++ xs.take n.toNat).toArray e2), (L + 1, oc), (130, ob)] o s' → Q .next s') :
    wpAny (model prog w) A (exec (nlK.getD 1 (.Pass default)) (nlEnv L)) Q E s := by
  refine w_comp_as (cl := [(Str.ofString "key", L + 1)]) ?_
  refine Call_ (e_blt S G.gs G.bs G.zip0 G.zip1 ?_)
  refine callWith_type1 ?_
  refine args_cons ?_
  refine Call_ (e_blt S G.gs G.bs G.rng0 G.rng1 ?_)
  repeat (walk_at "1")
  rename St _ _ _ _ _ _ => S
  refine u_neg S ?_
  intro _ _ S
  repeat (walk_at "1")
  rename St _ _ _ _ _ _ => S
  refine u_neg S ?_
  intro _ _ S
  repeat (walk_at "1")
  refine c_range3 S (by decide) (by decide) ?_
  intro rg t1 t2 t3 s1 S
  repeat (walk_at "1")
  have S' : St g L [(Str.ofString "n", .int n tn), (Str.ofString "iterable", .ref x), (Str.ofString "it", .ref it)] ((it, liObj x 0) :: [(al, seqObj "list" asked.toArray ea), (L + 1, oc), (130, ob)]) o s1 := ((S.less (.cons _ (.refl _))).pick 3 (by simp)).pick 1 (by simp)
  refine c_zip (S.at (.head _)) (small_down hn2 hn) S' ?_
  intro ri TI TO z s2 S
  have er := size_down n
  rw [er] at S
  refine i_zip (S.at (.head _)) ?_
  refine ⟨g, L, _, _, o, rfl, S, ?_⟩
  intro D C s4 S4
  refine ⟨fun m s' => Ex8 fun (k : Nat) (G : Heap) (l' : List (Str × Value)) (ys : List Value) (e1 e2 : Nat) (va vb : Value) => An7 (m = n.toNat - k) (k ≤ n.toNat) (k ≤ xs.length)
      (Keeps (hideAll s2.heap ((zipL z TI TO ri it .none .none .none (riObj 0 (n.toNat : Int) (-1)) (liObj x 0) ++ [(al, seqObj "list" asked.toArray ea), (L + 1, oc), (130, ob)]).map (·.1))) G) (ys.length = k)
      (∀ (i : Nat) y, ys[i]? = some y → Ent G y (kf (xs.getD i .none)) (-(i : Int)) (xs.getD i .none))
      (St G C l' (zipL z TI TO ri it .none va vb (riObj (-(k : Int)) ((n.toNat - k : Nat) : Int) (-1)) (liObj x k) ++ [(D, seqObj "list" ys.toArray e1), (al, seqObj "list" (asked ++ xs.take k).toArray e2), (L + 1, oc), (130, ob)]) o s'),
    n.toNat, ⟨0, _, [], [], 0, ea, .none, .none, rfl, Nat.zero_le _, Nat.zero_le _, .refl _, rfl, by simp, by simpa using S4.perm List.perm_middle.symm⟩, fun Q' E' hq' => i_zip (S4.at (.tail _ (.head _))) hq', ?_⟩
  intro m s' hI₁ P₁ R₁ hP₁ hR₁
  obtain ⟨k, G', l', ys, e1, e2, va, vb, rfl, hk1, hk2, kG, hys, hE, S5⟩ := hI₁
  have hgG : Keeps g G' := fun b ob e => kG b ob (hideAll_get _ (S.kept b ob e) fun hm => by
    obtain ⟨p, hp, he⟩ := List.mem_map.mp hm
    have := (S.nw p hp).2.2
    rw [he, e] at this; cases this)
  have hseq' : SeqAt G' x xs := r.seq hgG
  by_cases hkn : k = n.toNat
  · subst hkn
    rw [Nat.sub_self] at S5
    refine n_zip_end1 hh S5 ?_
    intro s6 S6
    refine hR₁ _ ⟨G', l', [(D, seqObj "list" ys.toArray e1), (it, liObj x n.toNat), (al, seqObj "list" (asked ++ xs.take n.toNat).toArray e2), (L + 1, oc), (130, ob)], kG, ?_, ?_⟩
    · exact (S6.less (N' := [(it, liObj x n.toNat), (D, seqObj "list" ys.toArray e1), (al, seqObj "list" (asked ++ xs.take n.toNat).toArray e2), (L + 1, oc), (130, ob)]) (.cons _ (.cons _ (.cons _ (.cons _ (.refl _)))))).perm (.swap ..)
    · intro G'' s7 k1 k2 S7
      refine h G'' D ys e1 e2 _ s7 k1 (by rw [hys, Nat.min_eq_left hk2]) (fun i y hy => ?_) (.inl (by rw [Nat.min_eq_left hk2])) S7
      exact (hE i y hy).over (S.frameIn kG) k2
  · by_cases hkx : k = xs.length
    · subst hkx
      obtain ⟨lf, hlf⟩ : ∃ lf, n.toNat - xs.length = lf + 1 := ⟨n.toNat - xs.length - 1, sub_ex hk1 hkn⟩
      rw [hlf] at S5
      refine n_zip_end2 (left := lf) hh hseq' (by push_cast at S5; exact S5) ?_
      intro s6 S6
      refine hR₁ _ ⟨G', l', [(D, seqObj "list" ys.toArray e1), (it, liEnd xs.length), (al, seqObj "list" (asked ++ xs.take xs.length).toArray e2), (L + 1, oc), (130, ob)], kG, S6.perm (.swap ..), ?_⟩
      intro G'' s7 k1 k2 S7
      refine h G'' D ys e1 e2 _ s7 k1 (by rw [hys, Nat.min_eq_right (by walk_at "l")]) (fun i y hy => ?_) (.inr ⟨rfl, by walk_at "l"⟩) (by rw [List.take_of_length_le (by walk_at "l" : xs.length ≤ n.toNat)]; rwa [List.take_length] at S7)
      exact (hE i y hy).over (S.frameIn kG) k2
    · obtain ⟨lf, hlf⟩ : ∃ lf, n.toNat - k = lf + 1 := ⟨n.toNat - k - 1, sub_ex hk1 hkn⟩
      have hkl : k < xs.length := Nat.lt_of_le_of_ne hk2 hkx
      rw [hlf] at S5
      refine n_zip (left := lf) hseq' (by push_cast at S5; exact S5) (List.getElem?_eq_getElem (by walk_at "l")) ?_
      intro T t s6 S6
      simp only [zipL, List.cons_append, List.nil_append] at S6
      obtain ⟨iv, hiv⟩ : ∃ iv, iv = Value.int (-↑k) t := ⟨_, rfl⟩
      obtain ⟨ro, hro⟩ : ∃ ro, ro = riObj (-↑k + -1) (↑lf) (-1) := ⟨_, rfl⟩
      rw [← hiv, ← hro] at S6
      refine go_zip S6 1 rfl ?_
      intro s7 S7
      dsimp only [List.set_cons_succ, List.set_cons_zero] at S7
      refine as_tup (items := [iv, xs[k]]) hh S7 (S7.at (.head _)) ?_
      intro s8 S8
      have S8 := S8.weak (l' := []) rfl
      refine assignInOrder_cons ?_
      refine wpAny_assign_Name (s_loc S8 ?_)
      intro s9 S9
      refine assignInOrder_cons ?_
      refine wpAny_assign_Name (s_loc S9 ?_)
      intro s10 S10
      refine assignInOrder_nil ?_
      walk_at "put"
      show wpAny _ _ (eval _ _) _ _ _
      refine e_tup ?_
      refine spliced_more ?_
      refine Call_ (e_cell S10 8 rfl hoc ?_)
      refine callWith_def (o := { cls := .type "function", data := .func fd }) rfl ?_
      repeat (walk_at "1")
      refine ⟨S10.kept _ _ (hgG _ _ hq), ?_⟩
      refine C0 xs[k] (asked ++ xs.take k) e2 A _ _ s10 (hP _ (List.getElem_mem _)) hh (by walk_at "l") (by walk_at "l") (hgG.trans S10.kept) (S10.at (by repeat first | exact .head _ | apply List.Mem.tail)) (by have := r.few; simp; lia) S10.gn ?_
      intro t' e3 s11 q1 q2 q3 q4
      have S11 := S10.turnBut 7 rfl q1 q2 q3 q4
      dsimp only [List.set_cons_succ, List.set_cons_zero] at S11
      repeat (walk_at "1")
      rename St _ _ _ _ _ _ => S12
      refine ap_list S12 7 rfl (by walk_at "l") ?_
      intro s13 S13
      dsimp only [List.set_cons_succ, List.set_cons_zero] at S13
      obtain ⟨G2, kg1, kg2, kg3, S14⟩ := S13.rebase (N' := [(z, zipObj Value.none TI TO), (TO, prObj iv xs[k]), (TI, prObj (Value.ref ri) (Value.ref it)),
        (ri, ro), (it, liObj x (k + 1)), (D, _), (al, _), (L + 1, oc), (130, ob)]) (.cons _ (.cons _ (.refl _)))
      have hent := kg2 _ (.head _) (S13.out0 (.cons _ (.refl _)))
      refine hP₁ _ ⟨n.toNat - (k + 1), by walk_at "l", k + 1, G2, ?l1, ?ys1, ?e11, ?e21, ?va1, ?vb1, rfl, by walk_at "l", by walk_at "l", kG.trans kg1, ?len1, ?ent1, ?st1⟩
      case st1 =>
        subst hro
        have e1 : n.toNat - (k + 1) = lf := sub_next hlf
        have e2 : asked ++ xs.take k ++ [xs[k]] = asked ++ xs.take (k + 1) := by rw [List.append_assoc, List.take_add_one, List.getElem?_eq_getElem (by walk_at "l")]; rfl
        rw [e1, ← e2]
        rw [show (-((k + 1 : Nat) : Int)) = -(k : Int) + -1 by walk_at "l"]
        exact S14
      case len1 => simp [hys]
      case ent1 =>
        intro i y hy
        rw [List.getElem?_append] at hy
        split at hy
        · exact (hE i y hy).keeps kg1
        · have hi : i = k := by
            obtain ⟨q, _⟩ := List.getElem?_eq_some_iff.mp hy
            simp at q; exact Nat.le_antisymm (hys ▸ Nat.le_of_sub_eq_zero q) (hys ▸ Nat.le_of_not_lt ‹_›)
          subst hi
          simp only [hys, Nat.sub_self, List.getElem?_cons_zero, Option.some.injEq] at hy
          subst hy
          rw [show xs.getD i .none = xs[i] by simp [List.getD, List.getElem?_eq_getElem (show i < xs.length by walk_at "l")]]
          subst hiv
          exact ⟨_, _, _, _, rfl, hent⟩
end
section
variable {w : World} {A : Around} {E : Value → Shared → Prop} {s : Shared} {g g₀ : Heap} {L : Addr} {l : List (Str × Value)} {N : List (Addr × Obj)} {o : OsState} {mg mb : Str → Option Value} {K : Frag} {x : Addr} {xs : List Value}
set_option maxHeartbeats 1000000
theorem tail_kl {ps : List (Str × Str)} {a n : Int} {tn : Tok} {ob oc io : Obj} {q al it D : Addr} {asked ys : List Value} {e1 e2 : Nat} {kf : Value → Int} {Pv : Value → Prop} {Q : Flow → Shared → Prop} {fd : FuncData} (G : Gw K mg mb g) (r : Row K g x xs ps a) (hh : A.handled = none) (hd : A.depth + 30 < recursionLimit) (hu : A.units + 100 < cLine)
    (C0 : KeyOk w g (.ref q) al kf Pv) (hP : ∀ v ∈ xs, Pv v) (hq : g.get? q = some { cls := .type "function", data := .func fd }) (hza : asked.length ≤ 100) (hxs : 2 ≤ xs.length) (hn : n < 1000) (hn2 : -1000 < n) (hoc : oc.data = .cell (some (.ref q)))
    (hys : ys.length = min n.toNat xs.length) (hE : ∀ (i : Nat) y, ys[i]? = some y → Ent g y (kf (xs.getD i .none)) (-(i : Int)) (xs.getD i .none)) (hio : io = liObj x (min n.toNat xs.length) ∨ io = liEnd xs.length ∧ xs.length < n.toNat)
    (S : St g L [(Str.ofString "n", .int n tn), (Str.ofString "iterable", .ref x), (Str.ofString "it", .ref it), (Str.ofString "result", .ref D)] [(D, seqObj "list" ys.toArray e1), (it, io), (al, seqObj "list" (asked ++ xs.take n.toNat).toArray e2), (L + 1, oc), (130, ob)] o s)
    (h : ∀ (G : Heap) (R : Addr) (out : List Value) (e3 e4 : Nat) l' s', Keeps g G → SortedBy (flp true (kLt kf xs)) xs out →
      St G L l' [(R, seqObj "list" (out.take n.toNat).toArray e3), (al, seqObj "list" (asked ++ (if 0 < n then xs else [])).toArray e4), (130, ob)] o s' → Q (.ret (.ref R)) s') :
    wpAny (model prog w) A (execs (nlK.drop 2) (nlEnv L)) Q E s := by
  obtain ⟨full, hfull⟩ := sorted_exists (vs := xs) ((kLt_wa kf xs).flp true _)
  have hzs := r.few
  refine x_cons ?_
  refine wpAny_If ?_
  refine isTrue_not ?_
  refine isTrue_plain ?_
  repeat (walk_at "1")
  have hyx : ys.length ≤ xs.length := hys ▸ Nat.min_le_right _ _
  have hy64 : ys.length < 64 := Nat.lt_of_le_of_lt hyx hzs
  refine tr_list S (S.at (.head _)) (Nat.lt_trans hy64 (by decide)) ?_
  intro s1 S
  by_cases hy0 : ys = []
  · refine if_p (by simp [hy0]) ?_
    have hn0 : n.toNat = 0 := by rw [hy0] at hys; simp at hys; lia
    repeat (walk_at "1")
    rename St _ _ _ _ _ _ => S
    refine h g D full e1 e2 _ _ (.refl _) hfull (S.less ?_)
    rw [hy0, hn0, if_neg (by walk_at "l")]
    simp only [List.take_zero]
    exact .cons_cons _ (.cons _ (.cons_cons _ (.cons _ (.refl _))))
  · refine if_n (by simp [hy0]) ?_
    have hn0 : 0 < n := by have := List.length_pos_iff.mpr hy0; lia
    repeat (walk_at "1")
    rename St _ _ _ _ _ _ => S
    refine e_glob S G.gs G.n35 ?_
    refine c_fn G.f35 ?_
    repeat (walk_at "1")
    rename St _ _ _ _ _ _ => S
    refine ⟨⟨_, _, _, _, S⟩, ?_⟩
    have hpc : ∀ i, i < xs.length → ∃ c, Pc g (xs.getD i .none) c := fun i hi => ⟨_, r.pcs.2 i _ _ (by simp [List.getD, hi]) (List.getElem?_eq_getElem (by rw [← r.pcs.1]; exact hi))⟩
    have hdc : ∀ (i : Nat) y, ys[i]? = some y → dcOf g y = (i, -(i : Int)) := fun i y hy => by
      unfold dcOf; rw [(hE i y hy).ord]; simp
    have hEn : ∀ (i : Nat) y, ys[i]? = some y → EnK kf xs g y (dcOf g y) := fun i y hy => by
      rw [hdc i y hy]
      exact ⟨hE i y hy, hpc i (Nat.lt_of_lt_of_le (List.getElem?_eq_some_iff.mp hy).1 hyx)⟩
    have hcmp : CmpOk w (hideAll _ [D]) (· ∈ ys) (fun y z => pyl (kLt kf xs) (dcOf g y) (dcOf g z)) := (entK kf xs).cmpOk (g := g) (M := ys) (fun y hy => by
        obtain ⟨i, hi⟩ := List.getElem?_of_mem hy
        exact hEn i y hi) (fun y hy z hz => by
        obtain ⟨i, hi⟩ := List.getElem?_of_mem hy
        obtain ⟨k, hk⟩ := List.getElem?_of_mem hz
        rw [hdc i y hi, hdc k z hk]
        by_cases e : i = k
        · subst e; rw [hi] at hk; exact .inl (Option.some.inj hk)
        · exact .inr (by simp; lia)) (S.kept.hide (by intro b hb; simp at hb; rw [hb]; exact (S.nw _ (.head _)).2.2))
    refine heapify_ok G.toGl S.kept (S.nw _ (.head _)).2.2 hh (by walk_at "l") (by walk_at "l") S.gn (S.at (.head _)) hcmp (fun y hy => hy) (by walk_at "l") ?_
    intro s2 k1 k2 k3 k4
    have S2 := S.turnBut 0 rfl k1 k2 k3 k4
    have X0 := HS.start (kl := kLt kf xs) (b := true) (En := EnK kf xs g) (dc := dcOf g) (c := -n) (kLt_wa kf xs) (fun i y hy => ⟨hdc i y hy, hEn i y hy⟩) (by simp; lia)
    have hHl : (hfy (hlt true fun y z => pyl (kLt kf xs) (dcOf g y) (dcOf g z)) (ys.length / 2) ys).length = ys.length := (hfy_perm _ _).length_eq
    have S2' : St g L [(Str.ofString "n", .int n tn), (Str.ofString "iterable", .ref x), (Str.ofString "it", .ref it), (Str.ofString "result", .ref D)] [(D, seqObj "list" (hfy (hlt true fun y z => pyl (kLt kf xs) (dcOf g y) (dcOf g z)) (ys.length / 2) ys).toArray e1), (it, io), (al, seqObj "list" (asked ++ xs.take n.toNat).toArray e2), (L + 1, oc), (130, ob)] o s2 := S2
    clear S2 S hcmp
    generalize hH : hfy (hlt true fun y z => pyl (kLt kf xs) (dcOf g y) (dcOf g z)) (ys.length / 2) ys = H at X0 hHl S2'
    clear hH
    have S := S2'
    clear S2'
    obtain ⟨r0, t0, rfl⟩ : ∃ r0 t0, H = r0 :: t0 := by
      cases H with
      | nil => simp at hHl; exact absurd hHl.symm (by have := List.length_pos_iff.mpr hy0; lia)
      | cons a b => exact ⟨a, b, rfl⟩
    obtain ⟨⟨T0, eT0, tk0, to0, hr0, ho0⟩, _⟩ := X0.ents r0 (.head _)
    refine x_cons ?_
    repeat (walk_at "e")
    rename St _ _ _ _ _ _ => S
    refine i_list (n := 0) (S.at (.head _)) rfl (by walk_at "l") rfl ?_
    repeat (walk_at "e")
    rename St _ _ _ _ _ _ => S
    rw [hr0]
    refine i_tup (items := [_, _, _]) (j := 0) (S.kept _ _ ho0) rfl rfl (by simp) ?_
    repeat (walk_at "e")
    refine x_cons ?_
    repeat (walk_at "e")
    rename St _ _ _ _ _ _ => S
    refine u_neg S ?_
    intro tn' _ S
    repeat (walk_at "e")
    refine x_cons ?_
    repeat (walk_at "e")
    rename St _ _ _ _ _ _ => S
    refine e_glob S G.gs G.n28 ?_
    repeat (walk_at "e")
    rename St _ _ _ _ _ _ => S
    refine x_cons ?_
    obtain ⟨M, hM⟩ : ∃ M, M = [(L + 1, oc), (130, ob)] := ⟨_, rfl⟩
    rw [← hM] at S
    obtain ⟨hr, hhr⟩ : ∃ hr, hr = Value.ref 28 := ⟨_, rfl⟩
    rw [← hhr] at S
    have LS0 : Ex10 fun (io' : Obj) (G' : Heap) (r0 : Value) (t0 : List Value) (dc : Value → Nat × Int) (c : Int) (tt tc : Tok) (e1 e2 : Nat) => An5 (io' = liObj x (min n.toNat xs.length) ∨ io' = liEnd xs.length ∧ min n.toNat xs.length = xs.length) (Keeps g G') (HS (kLt kf xs) true (EnK kf xs G') (min n.toNat xs.length) c (r0 :: t0) dc) ((r0 :: t0).length = ys.length)
        (St G' L [(Str.ofString "it", .ref it), (Str.ofString "result", .ref D), (Str.ofString "top", .int (kf (xs.getD (dc r0).1 .none)) tt), (Str.ofString "order", .int c tc), (Str.ofString "_heapreplace", hr)]
          ((D, seqObj "list" (r0 :: t0).toArray e1) :: (it, io') :: (al, seqObj "list" (asked ++ xs.take (min n.toNat xs.length)).toArray e2) :: M) o _) :=
      ⟨io, g, r0, t0, dcOf g, -n, tk0, tn', e1, e2, hio.imp id fun ⟨p, q⟩ => ⟨p, Nat.min_eq_right (Nat.le_of_lt q)⟩, .refl _, hys ▸ X0, hHl, by rw [show xs.take (min n.toNat xs.length) = xs.take n.toNat by rw [← List.take_take, List.take_length]]; exact S.weak rfl⟩
    clear S X0 hr0 ho0 hHl hdc hEn hio hE
    refine w_for (fun s' => Ex10 fun (io' : Obj) (G' : Heap) (r0 : Value) (t0 : List Value) (dc : Value → Nat × Int) (c : Int) (tt tc : Tok) (e1 e2 : Nat) => An4 (Keeps g G') (HS (kLt kf xs) true (EnK kf xs G') xs.length c (r0 :: t0) dc) ((r0 :: t0).length = ys.length)
        (St G' L [(Str.ofString "result", .ref D)]
          ((D, seqObj "list" (r0 :: t0).toArray e1) :: (it, io') :: (al, seqObj "list" (asked ++ xs).toArray e2) :: M) o s')) ?_ ?_
    · obtain ⟨io', G', r0, t0, dc, c, tt, tc, e1, e2, hio', kG, X, hl, S⟩ := LS0
      repeat (walk_at "1")
      refine i_li (S.at (.tail _ (.head _))) (by rcases hio' with rfl | ⟨rfl, _⟩ <;> rfl) ?_
      refine ⟨fun m s' => Ex11 fun (j : Nat) (io' : Obj) (G' : Heap) (r0 : Value) (t0 : List Value) (dc : Value → Nat × Int) (c : Int) (tt tc : Tok) (e1 e2 : Nat) => An7 (m = xs.length - j) (j ≤ xs.length) (io' = liObj x j ∨ io' = liEnd xs.length ∧ j = xs.length) (Keeps g G') (HS (kLt kf xs) true (EnK kf xs G') j c (r0 :: t0) dc) ((r0 :: t0).length = ys.length)
        (St G' L [(Str.ofString "result", .ref D), (Str.ofString "top", .int (kf (xs.getD (dc r0).1 .none)) tt), (Str.ofString "order", .int c tc), (Str.ofString "_heapreplace", hr)]
          ((D, seqObj "list" (r0 :: t0).toArray e1) :: (it, io') :: (al, seqObj "list" (asked ++ xs.take j).toArray e2) :: M) o s'), _, ⟨min n.toNat xs.length, io', G', r0, t0, dc, c, tt, tc, e1, e2, rfl, Nat.min_le_right _ _, hio', kG, X, hl, S.weak rfl⟩, ?_⟩
      clear S X hl kG hio'
      intro m s' hI₁ Q₁ X₁ hQ₁ hX₁
      obtain ⟨j, io', G', r0, t0, dc, c, tt, tc, e1, e2, rfl, hj, hio', kG, X, hl, S⟩ := hI₁
      by_cases hjx : j = xs.length
      · subst hjx
        rw [List.take_length] at S
        rcases hio' with rfl | ⟨rfl, _⟩
        · refine n_li_end hh S 1 rfl (r.seq (kG.trans S.kept)) (Nat.le_refl _) ?_
          intro s1 S1
          exact hX₁ _ ⟨_, G', r0, t0, dc, c, tt, tc, e1, e2, kG, X, hl, S1.weak rfl⟩
        · refine n_li_over hh S 1 rfl ?_
          intro s1 S1
          exact hX₁ _ ⟨_, G', r0, t0, dc, c, tt, tc, e1, e2, kG, X, hl, S1.weak rfl⟩
      · have hio2 : io' = liObj x j := hio'.elim id fun q => absurd q.2 hjx
        subst hio2
        have hjl : j < xs.length := by walk_at "l"
        obtain ⟨v, hv⟩ : ∃ v, xs[j]? = some v := ⟨_, List.getElem?_eq_getElem hjl⟩
        have GG := G.keeps kG
        refine n_li S 1 rfl (r.seq (kG.trans S.kept)) hv ?_
        intro s1 S1
        dsimp only [List.set_cons_succ, List.set_cons_zero] at S1
        refine wpAny_assign_Name (s_loc S1 ?_)
        intro s2 S2
        walk_at "put"
        refine x_cons ?_
        refine wpAny_Assign_Name ?_
        refine Call_ (e_cell S2 3 (by rw [hM]; rfl) hoc ?_)
        refine callWith_def (o := { cls := .type "function", data := .func fd }) rfl ?_
        repeat (walk_at "1")
        refine ⟨S2.kept _ _ (kG _ _ hq), ?_⟩
        refine C0 v (asked ++ xs.take j) e2 A _ _ s2 (hP _ (List.mem_of_getElem? hv)) hh (by walk_at "l") (by walk_at "l") (kG.trans S2.kept) (S2.at (by repeat first | exact .head _ | apply List.Mem.tail)) (by simp; lia) S2.gn ?_
        intro t' e3 s3 q1 q2 q3 q4
        have S3 := S2.turnBut 2 rfl q1 q2 q3 q4
        dsimp only [List.set_cons_succ, List.set_cons_zero] at S3
        have ea : asked ++ xs.take j ++ [v] = asked ++ xs.take (j + 1) := by rw [List.append_assoc, List.take_add_one, hv]; rfl
        rw [ea] at S3
        repeat (walk_at "1")
        rename St _ _ _ _ _ _ => S4
        have exj : xs.getD j .none = v := by simp [List.getD, hv]
        refine ite_dec (fun hlt => ?_) (fun hlt => ?_)
        · repeat (walk_at "1")
          rw [hhr]
          refine c_fn GG.f28 ?_
          repeat (walk_at "1")
          rename St _ _ _ _ _ _ => S5
          rename_i Tn s5 hfresh hks
          refine ⟨⟨_, _, _, _, S5⟩, ?_⟩
          obtain ⟨G2, kg1, kg2, kg3, S6⟩ := S5.rebase (N' := ((D, seqObj "list" (r0 :: t0).toArray e1) :: (it, liObj x (j + 1)) :: (al, seqObj "list" (asked ++ List.take (j + 1) xs).toArray e3) :: M)) (.cons _ (.refl _))
          have hobj := kg2 _ (.head _) (S5.out0 (.refl _))
          have hfr := (S5.nw _ (.head _)).2.2
          have hnt : Value.ref Tn ∉ t0 := fun hm => by
            obtain ⟨⟨T, e, t, u, hT, hTo⟩, _⟩ := X.ents _ (.tail _ hm)
            injection hT with hT
            rw [hT, hTo] at hfr; cases hfr
          have X2 := X.imp (En' := EnK kf xs G2) fun y p hp => (entK (w := w) kf xs).kp _ _ _ _ hp kg1
          have hnewE : EnK kf xs G2 (.ref Tn) (j, c) := ⟨⟨_, _, _, _, rfl, by rw [exj]; exact hobj⟩, (by obtain ⟨cc, hcc⟩ := hpc j hjl; exact ⟨cc, (hcc.keeps kG).keeps kg1⟩)⟩
          have hbb : flp true (kLt kf xs) j (dc r0).1 = true := by show decide _ = true; rw [exj]; simpa using hlt
          have hkh := S6.kept.hide (ms := [D]) (by intro b hb; simp at hb; rw [hb]; exact (S6.nw _ (.head _)).2.2)
          refine heapreplace_ok (GG.keeps kg1).toGl S6.kept (S6.nw _ (.head _)).2.2 (by walk_at "l") (by walk_at "l") S6.gn (S6.at (.head _)) (X2.join (entK kf xs) hnt hnewE hkh) (fun y hy => hy) (Nat.lt_trans (Nat.lt_of_le_of_lt (Nat.le_of_eq hl) hy64) (by decide)) ?_
          intro s7 k1 k2 k3 k4
          have X3 := X2.swap (c' := c - 1) (kLt_wa kf xs) hnt hnewE hbb rfl
          have S7 := S6.turnBut 0 rfl k1 k2 k3 k4
          dsimp only [List.set_cons_zero] at S7
          have hlen3 := (sup_perm (lt := Mine.hlt true fun y z => pyl (kLt kf xs) ((fun v => if v = Value.ref Tn then (j, c) else dc v) y) ((fun v => if v = Value.ref Tn then (j, c) else dc v) z)) (pos := 0) (xs := Value.ref Tn :: t0)).length_eq
          have S8 : St G2 L [(Str.ofString "result", .ref D), (Str.ofString "top", .int (kf (xs.getD (dc r0).1 .none)) tt), (Str.ofString "order", .int c tc), (Str.ofString "_heapreplace", hr)]
              ((D, seqObj "list" (sup (Mine.hlt true fun y z => pyl (kLt kf xs) ((fun v => if v = Value.ref Tn then (j, c) else dc v) y) ((fun v => if v = Value.ref Tn then (j, c) else dc v) z)) 0 (Value.ref Tn :: t0)).toArray e1) :: (it, liObj x (j + 1)) :: (al, seqObj "list" (asked ++ xs.take (j + 1)).toArray e3) :: M) o s7 := S7.weak rfl
          clear S7 k2 k1 k3 k4
          generalize hH3 : sup (Mine.hlt true fun y z => pyl (kLt kf xs) ((fun v => if v = Value.ref Tn then (j, c) else dc v) y) ((fun v => if v = Value.ref Tn then (j, c) else dc v) z)) 0 (Value.ref Tn :: t0) = H3 at X3 hlen3 S8
          clear hH3
          generalize (fun v => if v = Value.ref Tn then (j, c) else dc v) = dc3 at X3
          obtain ⟨r1, t1, rfl⟩ : ∃ r1 t1, H3 = r1 :: t1 := by
            cases H3 with
            | nil => simp at hlen3
            | cons a b => exact ⟨a, b, rfl⟩
          obtain ⟨⟨T1, eT1, tk1, to1, hr1, ho1⟩, _⟩ := X3.ents r1 (.head _)
          clear S S1 S2 S3 S4 S5 S6
          refine x_cons ?_
          refine Assign_Tuple ?_
          repeat (walk_at "e")
          rename St _ _ _ _ _ _ => S9
          refine i_list (n := 0) (S9.at (.head _)) rfl (by walk_at "l") rfl ?_
          rw [hr1]
          refine as_tup (items := [.int (kf (xs.getD (dc3 r1).1 .none)) tk1, .int (dc3 r1).2 to1, xs.getD (dc3 r1).1 .none]) hh S9 (S9.kept _ _ ho1) ?_
          intro s10 S10
          refine assignInOrder_cons (wpAny_assign_Name (s_loc S10 ?_))
          intro s11 S11
          refine assignInOrder_cons (wpAny_assign_Name (s_loc S11 ?_))
          intro s12 S12
          refine assignInOrder_cons (wpAny_assign_Name (s_loc S12 ?_))
          intro s13 S13
          refine assignInOrder_nil ?_
          walk_at "put"
          refine x_cons ?_
          refine wpAny_AugAssign_Name (n_loc S13 rfl ?_)
          repeat (walk_at "e")
          rename St _ _ _ _ _ _ => S14
          refine ia_sub S14 ?_
          intro tc' s15 S15
          repeat (walk_at "1")
          rename St _ _ _ _ _ _ => S16
          exact hQ₁ _ _ ⟨xs.length - (j + 1), by walk_at "l", j + 1, _, G2, r1, t1, dc3, c - 1, tk1, tc', e1, e3, rfl, by walk_at "l", .inl rfl, kG.trans kg1, X3, by simp at hlen3 hl ⊢; lia, S16.weak rfl⟩
        · repeat (walk_at "1")
          have hbb : flp true (kLt kf xs) j (dc r0).1 = false := by show decide _ = false; rw [exj]; simpa using hlt
          exact hQ₁ _ _ ⟨xs.length - (j + 1), by walk_at "l", j + 1, _, G', r0, t0, dc, c, tt, tc, e1, e3, rfl, by walk_at "l", .inl rfl, kG, X.keep (kLt_wa kf xs) hbb, hl, S4.weak rfl⟩
    · rintro s3 ⟨io', G', r0, t0, dc, c, tt, tc, e1, e2, kG, X, hl, S⟩
      subst hM
      repeat (walk_at "1")
      refine methodCall_KW ?_
      repeat (walk_at "1")
      refine m_list PySem.F.slot_list_sort PySem.F.type_list_sort (S.at (.head _)) ?_
      refine callWith_kw0 ?_
      refine kws_cons ?_
      repeat (walk_at "1")
      refine kws_nil ?_
      refine c_sort (T := pTree D true) (S.at (.head _)) (args_list_sort_rev _ _) (pt1 D true) ?_
      refine sort_plain (A := A.in1) (m := 6) (Lt := eLt (kLt kf xs) dc (r0 :: t0)) (kind := tuples' true) S 0 rfl (Nat.lt_of_le_of_lt (Nat.le_of_eq hl) hy64) (by show A.units + 1 + 6 < _; lia) (eLt_wo (kLt_wa kf xs) _) (fun _ => (entK kf xs).kd _ _ (fun y hy => ⟨_, X.ents y hy⟩) (by simp)) (X.sortLt (entK kf xs)) ?_
      intro out e3 s4 hsb S4
      refine ⟨_, rfl, ?_⟩
      dsimp only [List.set_cons_zero] at S4
      have hfin := X.done (kLt_wa kf xs) hsb hfull
      have hmem : ∀ y ∈ out, EnK kf xs G' y (dc y) := fun y hy => by
        obtain ⟨σ, h1, h2, h3, _⟩ := hsb
        obtain ⟨i, hi⟩ := List.getElem?_of_mem hy
        have hil := (List.getElem?_eq_some_iff.mp hi).1
        rw [h3 i (by walk_at "l")] at hi
        exact X.ents y (List.mem_of_getElem? hi)
      have hol : out.length = ys.length := by obtain ⟨σ, h1, _⟩ := hsb; lia
      clear X hsb S
      repeat (walk_at "1")
      obtain ⟨G2, kg1, kg2, kg3, S5⟩ := S4.rebase (N' := [(al, seqObj "list" (asked ++ xs).toArray e2), (L + 1, oc), (130, ob)]) (.cons _ (.cons _ (.refl _)))
      have hobj := kg2 _ (.head _) (S4.out0 (.cons _ (.refl _)))
      refine w_comp (cl := []) ?_
      repeat (walk_at "1")
      refine i_lst S5 (S5.kept _ _ hobj) ?_
      intro it' s6 S6
      refine ⟨_, _, _, _, _, loops_list hh S6 ⟨_, _, hobj, rfl⟩ (fun k _ zs N => zs = (out.take k).map (fun y => xs.getD (dc y).1 .none) ∧ N = [(al, seqObj "list" (asked ++ xs).toArray e2), (L + 1, oc), (130, ob)]) (fun _ _ => ⟨rfl, rfl⟩) ?_ ?_⟩
      · intro k D' C G3 zs e N s7 v hv kG3 hI₁ S7 P₁ hP₁
        obtain ⟨rfl, rfl⟩ := hI₁
        obtain ⟨⟨T1, eT1, tk1, to1, hr1, ho1⟩, _⟩ := hmem v (List.mem_of_getElem? hv)
        subst hr1
        refine as_tup (items := [_, _, _]) hh S7 (S7.kept _ _ (kG3 _ _ (kg1 _ _ ho1))) ?_
        intro s8 S8
        refine assignInOrder_cons (wpAny_assign_Name (s_loc S8 ?_))
        intro s9 S9
        refine assignInOrder_cons (wpAny_assign_Name (s_loc S9 ?_))
        intro s10 S10
        refine assignInOrder_cons (wpAny_assign_Name (s_loc S10 ?_))
        intro s11 S11
        refine assignInOrder_nil ?_
        walk_at "put"
        show wpAny _ _ (eval _ _) _ _ _
        repeat (walk_at "1")
        refine ap_list S11 0 rfl (by simp; exact Nat.le_trans (Nat.min_le_right _ _) (len_small hol hy64)) ?_
        intro s12 S12
        exact hP₁ _ ⟨G3, _, _, _, _, .refl _, ⟨by rw [List.take_add_one, hv]; simp, rfl⟩, S12⟩
      · rintro D' G3 zs e N G4 s7 ⟨rfl, rfl⟩ kg4 _ S7
        rw [List.take_length, ← hfin] at S7
        refine h G4 D' full e e2 [] s7 ((kG.trans kg1).trans kg4) hfull ?_
        rw [if_pos hn0]
        have et : full.take n.toNat = full.take (r0 :: t0).length := by
          rw [hl, hys]
          by_cases hc : n.toNat ≤ xs.length
          · rw [Nat.min_eq_left hc]
          · have hfl : full.length = xs.length := by obtain ⟨σ, h1, _⟩ := hfull; exact h1
            rw [Nat.min_eq_right (by walk_at "l"), List.take_of_length_le (by walk_at "l"), List.take_of_length_le (by walk_at "l")]
        rw [et]
        exact (S7.less (.cons_cons _ (.cons _ (.cons_cons _ (.cons _ (.refl _)))))).weak rfl
end

section
variable {w : World} {A : Around} {E : Value → Shared → Prop} {s : Shared} {g g₀ : Heap} {L : Addr} {l : List (Str × Value)} {N : List (Addr × Obj)} {o : OsState} {mg mb : Str → Option Value} {K : Frag} {x : Addr} {xs : List Value}
set_option maxHeartbeats 1000000
theorem comp_ns {ps : List (Str × Str)} {a n : Int} {tn : Tok} {ob oc : Obj} {it : Addr} {Q : Flow → Shared → Prop} (G : Gw K mg mb g) (r : Row K g x xs ps a) (hh : A.handled = none) (hd : A.depth + 30 < recursionLimit) (hu : A.units + 100 < cLine)
    (hn : n < 1000) (hn2 : -1000 < n)
    (S : St g L [(Str.ofString "n", .int n tn), (Str.ofString "iterable", .ref x), (Str.ofString "it", .ref it)] [(it, liObj x 0), (L + 1, oc), (130, ob)] o s)
    (h : ∀ (G : Heap) (D : Addr) (ys : List Value) (e1 e2 : Nat) (io : Obj) s', Keeps g G → ys.length = min n.toNat xs.length → (∀ (i : Nat) y, ys[i]? = some y → Enu G y i (xs.getD i .none)) → (io = liObj x (min n.toNat xs.length) ∨ io = liEnd xs.length ∧ xs.length < n.toNat) →
      St G L [(Str.ofString "n", .int n tn), (Str.ofString "iterable", .ref x), (Str.ofString "it", .ref it), (Str.ofString "result", .ref D)] [(D, seqObj "list" ys.toArray e1), (it, io), (L + 1, oc), (130, ob)] o s' → Q .next s') :
    wpAny (model prog w) A (exec (nsN.getD 1 (.Pass default)) (nsEnv L)) Q E s := by
  refine w_comp_as (cl := []) ?_
  refine Call_ (e_blt S G.gs G.bs G.zip0 G.zip1 ?_)
  refine callWith_type1 ?_
  refine args_cons ?_
  refine Call_ (e_blt S G.gs G.bs G.rng0 G.rng1 ?_)
  repeat (walk_at "1")
  have _ := trivial
  have _ := trivial
  have _ := trivial
  have _ := trivial
  have _ := trivial
  have _ := trivial
  have _ := trivial
  have _ := trivial
  have _ := trivial
  have _ := trivial
  have _ := trivial
  have _ := trivial
  refine c_range1 S ?_
  intro rg t1 t2 t3 s1 S
  repeat (walk_at "1")
  have S' : St g L [(Str.ofString "n", .int n tn), (Str.ofString "iterable", .ref x), (Str.ofString "it", .ref it)] ((it, liObj x 0) :: [(L + 1, oc), (130, ob)]) o s1 := S.less (.cons _ (.refl _))
  refine c_zip (S.at (.head _)) (small_range hn2 hn) S' ?_
  intro ri TI TO z s2 S
  have er : Builtin.Range.rangeSize 0 n 1 = (n.toNat : Int) := by rw [rangeSize_one]; split <;> lia
  rw [er] at S
  refine i_zip (S.at (.head _)) ?_
  refine ⟨g, L, _, _, o, rfl, S, ?_⟩
  intro D C s4 S4
  refine ⟨fun m s' => Ex8 fun (k : Nat) (G : Heap) (l' : List (Str × Value)) (ys : List Value) (e1 e2 : Nat) (va vb : Value) => An7 (m = n.toNat - k) (k ≤ n.toNat) (k ≤ xs.length)
      (Keeps (hideAll s2.heap ((zipL z TI TO ri it .none .none .none (riObj 0 (n.toNat : Int) 1) (liObj x 0) ++ [(L + 1, oc), (130, ob)]).map (·.1))) G) (ys.length = k)
      (∀ (i : Nat) y, ys[i]? = some y → Enu G y i (xs.getD i .none))
      (St G C l' (zipL z TI TO ri it .none va vb (riObj (k : Int) ((n.toNat - k : Nat) : Int) 1) (liObj x k) ++ [(D, seqObj "list" ys.toArray e1), (L + 1, oc), (130, ob)]) o s'),
    n.toNat, ⟨0, _, [], [], 0, 0, .none, .none, rfl, Nat.zero_le _, Nat.zero_le _, .refl _, rfl, by simp, by simpa using S4.perm List.perm_middle.symm⟩, fun Q' E' hq' => i_zip (S4.at (.tail _ (.head _))) hq', ?_⟩
  intro m s' hI₁ P₁ R₁ hP₁ hR₁
  obtain ⟨k, G', l', ys, e1, e2, va, vb, rfl, hk1, hk2, kG, hys, hE, S5⟩ := hI₁
  have hgG : Keeps g G' := fun b ob e => kG b ob (hideAll_get _ (S.kept b ob e) fun hm => by
    obtain ⟨p, hp, he⟩ := List.mem_map.mp hm
    have := (S.nw p hp).2.2
    rw [he, e] at this; cases this)
  have hseq' : SeqAt G' x xs := r.seq hgG
  by_cases hkn : k = n.toNat
  · subst hkn
    rw [Nat.sub_self] at S5
    refine n_zip_end1 hh S5 ?_
    intro s6 S6
    refine hR₁ _ ⟨G', l', [(D, seqObj "list" ys.toArray e1), (it, liObj x n.toNat), (L + 1, oc), (130, ob)], kG, ?_, ?_⟩
    · exact (S6.less (N' := [(it, liObj x n.toNat), (D, seqObj "list" ys.toArray e1), (L + 1, oc), (130, ob)]) (.cons _ (.cons _ (.cons _ (.cons _ (.refl _)))))).perm (.swap ..)
    · intro G'' s7 k1 k2 S7
      refine h G'' D ys e1 e2 _ s7 k1 (by rw [hys, Nat.min_eq_left hk2]) (fun i y hy => ?_) (.inl (by rw [Nat.min_eq_left hk2])) S7
      exact (hE i y hy).over (S.frameIn kG) k2
  · by_cases hkx : k = xs.length
    · subst hkx
      obtain ⟨lf, hlf⟩ : ∃ lf, n.toNat - xs.length = lf + 1 := ⟨n.toNat - xs.length - 1, sub_ex hk1 hkn⟩
      rw [hlf] at S5
      refine n_zip_end2 (left := lf) hh hseq' (by push_cast at S5; exact S5) ?_
      intro s6 S6
      refine hR₁ _ ⟨G', l', [(D, seqObj "list" ys.toArray e1), (it, liEnd xs.length), (L + 1, oc), (130, ob)], kG, S6.perm (.swap ..), ?_⟩
      intro G'' s7 k1 k2 S7
      refine h G'' D ys e1 e2 _ s7 k1 (by rw [hys, Nat.min_eq_right (by walk_at "l")]) (fun i y hy => ?_) (.inr ⟨rfl, by walk_at "l"⟩) S7
      exact (hE i y hy).over (S.frameIn kG) k2
    · obtain ⟨lf, hlf⟩ : ∃ lf, n.toNat - k = lf + 1 := ⟨n.toNat - k - 1, sub_ex hk1 hkn⟩
      have hkl : k < xs.length := Nat.lt_of_le_of_ne hk2 hkx
      rw [hlf] at S5
      refine n_zip (left := lf) hseq' (by push_cast at S5; exact S5) (List.getElem?_eq_getElem (by walk_at "l")) ?_
      intro T t s6 S6
      simp only [zipL, List.cons_append, List.nil_append] at S6
      obtain ⟨iv, hiv⟩ : ∃ iv, iv = Value.int (↑k) t := ⟨_, rfl⟩
      obtain ⟨ro, hro⟩ : ∃ ro, ro = riObj (↑k + 1) (↑lf) 1 := ⟨_, rfl⟩
      rw [← hiv, ← hro] at S6
      refine go_zip S6 1 rfl ?_
      intro s7 S7
      dsimp only [List.set_cons_succ, List.set_cons_zero] at S7
      refine as_tup (items := [iv, xs[k]]) hh S7 (S7.at (.head _)) ?_
      intro s8 S8
      have S8 := S8.weak (l' := []) rfl
      refine assignInOrder_cons ?_
      refine wpAny_assign_Name (s_loc S8 ?_)
      intro s9 S9
      refine assignInOrder_cons ?_
      refine wpAny_assign_Name (s_loc S9 ?_)
      intro s10 S10
      refine assignInOrder_nil ?_
      walk_at "put"
      show wpAny _ _ (eval _ _) _ _ _
      refine e_tup ?_
      repeat (walk_at "1")
      rename St _ _ _ _ _ _ => S12
      refine ap_list S12 7 rfl (by walk_at "l") ?_
      intro s13 S13
      dsimp only [List.set_cons_succ, List.set_cons_zero] at S13
      obtain ⟨G2, kg1, kg2, kg3, S14⟩ := S13.rebase (N' := [(z, zipObj Value.none TI TO), (TO, prObj iv xs[k]), (TI, prObj (Value.ref ri) (Value.ref it)),
        (ri, ro), (it, liObj x (k + 1)), (D, _), (L + 1, oc), (130, ob)]) (.cons _ (.cons _ (.refl _)))
      have hent := kg2 _ (.head _) (S13.out0 (.cons _ (.refl _)))
      refine hP₁ _ ⟨n.toNat - (k + 1), by walk_at "l", k + 1, G2, ?l1, ?ys1, ?e11, 0, ?va1, ?vb1, rfl, by walk_at "l", by walk_at "l", kG.trans kg1, ?len1, ?ent1, ?st1⟩
      case st1 =>
        subst hro
        have e1 : n.toNat - (k + 1) = lf := sub_next hlf
        rw [e1]
        push_cast
        exact S14
      case len1 => simp [hys]
      case ent1 =>
        intro i y hy
        rw [List.getElem?_append] at hy
        split at hy
        · exact (hE i y hy).keeps kg1
        · have hi : i = k := by
            obtain ⟨q, _⟩ := List.getElem?_eq_some_iff.mp hy
            simp at q; exact Nat.le_antisymm (hys ▸ Nat.le_of_sub_eq_zero q) (hys ▸ Nat.le_of_not_lt ‹_›)
          subst hi
          simp only [hys, Nat.sub_self, List.getElem?_cons_zero, Option.some.injEq] at hy
          subst hy
          rw [show xs.getD i .none = xs[i] by simp [List.getD, List.getElem?_eq_getElem (show i < xs.length by walk_at "l")]]
          subst hiv
          exact ⟨_, _, _, rfl, hent⟩
end
section
variable {w : World} {A : Around} {E : Value → Shared → Prop} {s : Shared} {g g₀ : Heap} {L : Addr} {l : List (Str × Value)} {N : List (Addr × Obj)} {o : OsState} {mg mb : Str → Option Value} {K : Frag} {x : Addr} {xs : List Value}
set_option maxHeartbeats 1000000
theorem tail_ns {ps : List (Str × Str)} {a n : Int} {tn : Tok} {ob oc io : Obj} {it D : Addr} {ys : List Value} {e1 : Nat} {Q : Flow → Shared → Prop} (G : Gw K mg mb g) (r : Row K g x xs ps a) (hh : A.handled = none) (hd : A.depth + 30 < recursionLimit) (hu : A.units + 100 < cLine)
    (hxs : 2 ≤ xs.length) (hn : n < 1000) (hn2 : -1000 < n)
    (hys : ys.length = min n.toNat xs.length) (hE : ∀ (i : Nat) y, ys[i]? = some y → Enu g y i (xs.getD i .none)) (hio : io = liObj x (min n.toNat xs.length) ∨ io = liEnd xs.length ∧ xs.length < n.toNat)
    (S : St g L [(Str.ofString "n", .int n tn), (Str.ofString "iterable", .ref x), (Str.ofString "it", .ref it), (Str.ofString "result", .ref D)] [(D, seqObj "list" ys.toArray e1), (it, io), (L + 1, oc), (130, ob)] o s)
    (h : ∀ (G : Heap) (R : Addr) (out : List Value) (e3 : Nat) l' s', Keeps g G → SortedBy (psLt ps) xs out →
      St G L l' [(R, seqObj "list" (out.take n.toNat).toArray e3), (130, ob)] o s' → Q (.ret (.ref R)) s') :
    wpAny (model prog w) A (execs (nsN.drop 2) (nsEnv L)) Q E s := by
  obtain ⟨full, hfull⟩ := sorted_exists (vs := xs) (psLt_wa ps _)
  have hzs := r.few
  refine x_cons ?_
  refine wpAny_If ?_
  refine isTrue_not ?_
  refine isTrue_plain ?_
  repeat (walk_at "1")
  have hyx : ys.length ≤ xs.length := hys ▸ Nat.min_le_right _ _
  have hy64 : ys.length < 64 := Nat.lt_of_le_of_lt hyx hzs
  refine tr_list S (S.at (.head _)) (Nat.lt_trans hy64 (by decide)) ?_
  intro s1 S
  by_cases hy0 : ys = []
  · refine if_p (by simp [hy0]) ?_
    have hn0 : n.toNat = 0 := by rw [hy0] at hys; simp at hys; lia
    repeat (walk_at "1")
    rename St _ _ _ _ _ _ => S
    refine h g D full e1 _ _ (.refl _) hfull (S.less ?_)
    rw [hy0, hn0]
    simp only [List.take_zero]
    exact .cons_cons _ (.cons _ (.cons _ (.refl _)))
  · refine if_n (by simp [hy0]) ?_
    have hn0 : 0 < n := by have := List.length_pos_iff.mpr hy0; lia
    repeat (walk_at "1")
    rename St _ _ _ _ _ _ => S
    refine e_glob S G.gs G.n49 ?_
    refine c_fn G.f49 ?_
    repeat (walk_at "1")
    rename St _ _ _ _ _ _ => S
    refine ⟨⟨_, _, _, _, S⟩, ?_⟩
    have hpc : ∀ i, i < xs.length → Pc g (xs.getD i .none) (ps.getD i default) := fun i hi => (r.pcs.2 i _ _ (by simp [List.getD, hi]) (by simp [List.getD, show i < ps.length by rw [← r.pcs.1]; exact hi]))
    have hdc : ∀ (i : Nat) y, ys[i]? = some y → dcOf g y = (i, (i : Int)) := fun i y hy => by
      unfold dcOf; rw [(hE i y hy).ord]; simp
    have hEn : ∀ (i : Nat) y, ys[i]? = some y → EnN ps xs g y (dcOf g y) := fun i y hy => by
      rw [hdc i y hy]
      exact ⟨hE i y hy, hpc i (Nat.lt_of_lt_of_le (List.getElem?_eq_some_iff.mp hy).1 hyx)⟩
    have hcmp : CmpOk w (hideAll _ [D]) (· ∈ ys) (fun y z => pyl (psLt ps) (dcOf g y) (dcOf g z)) := (entN ps xs).cmpOk (g := g) (M := ys) (fun y hy => by
        obtain ⟨i, hi⟩ := List.getElem?_of_mem hy
        exact hEn i y hi) (fun y hy z hz => by
        obtain ⟨i, hi⟩ := List.getElem?_of_mem hy
        obtain ⟨k, hk⟩ := List.getElem?_of_mem hz
        rw [hdc i y hi, hdc k z hk]
        by_cases e : i = k
        · subst e; rw [hi] at hk; exact .inl (Option.some.inj hk)
        · exact .inr (by simp; lia)) (S.kept.hide (by intro b hb; simp at hb; rw [hb]; exact (S.nw _ (.head _)).2.2))
    refine heapify_max_ok G.toGl S.kept (S.nw _ (.head _)).2.2 hh (by walk_at "l") (by walk_at "l") S.gn (S.at (.head _)) hcmp (fun y hy => hy) (by walk_at "l") ?_
    intro s2 k1 k2 k3 k4
    have S2 := S.turnBut 0 rfl k1 k2 k3 k4
    have X0 := HS.start (kl := psLt ps) (b := false) (En := EnN ps xs g) (dc := dcOf g) (c := n) (psLt_wa ps) (fun i y hy => ⟨hdc i y hy, hEn i y hy⟩) (by simp; lia)
    have hHl : (hfy (hlt false fun y z => pyl (psLt ps) (dcOf g y) (dcOf g z)) (ys.length / 2) ys).length = ys.length := (hfy_perm _ _).length_eq
    have S2' : St g L [(Str.ofString "n", .int n tn), (Str.ofString "iterable", .ref x), (Str.ofString "it", .ref it), (Str.ofString "result", .ref D)] [(D, seqObj "list" (hfy (hlt false fun y z => pyl (psLt ps) (dcOf g y) (dcOf g z)) (ys.length / 2) ys).toArray e1), (it, io), (L + 1, oc), (130, ob)] o s2 := S2
    clear S2 S hcmp
    generalize hH : hfy (hlt false fun y z => pyl (psLt ps) (dcOf g y) (dcOf g z)) (ys.length / 2) ys = H at X0 hHl S2'
    clear hH
    have S := S2'
    clear S2'
    obtain ⟨r0, t0, rfl⟩ : ∃ r0 t0, H = r0 :: t0 := by
      cases H with
      | nil => simp at hHl; exact absurd hHl.symm (by have := List.length_pos_iff.mpr hy0; lia)
      | cons a b => exact ⟨a, b, rfl⟩
    obtain ⟨⟨T0, eT0, to0, hr0, ho0⟩, _⟩ := X0.ents r0 (.head _)
    refine x_cons ?_
    repeat (walk_at "e")
    rename St _ _ _ _ _ _ => S
    refine i_list (n := 0) (S.at (.head _)) rfl (by walk_at "l") rfl ?_
    repeat (walk_at "e")
    rename St _ _ _ _ _ _ => S
    rw [hr0]
    refine i_tup (items := [_, _]) (j := 0) (S.kept _ _ ho0) rfl rfl (by simp) ?_
    repeat (walk_at "e")
    refine x_cons ?_
    repeat (walk_at "e")
    have _ := trivial
    have _ := trivial
    have _ := trivial
    refine x_cons ?_
    repeat (walk_at "e")
    rename St _ _ _ _ _ _ => S
    refine e_glob S G.gs G.n42 ?_
    repeat (walk_at "e")
    rename St _ _ _ _ _ _ => S
    refine x_cons ?_
    obtain ⟨M, hM⟩ : ∃ M, M = [(L + 1, oc), (130, ob)] := ⟨_, rfl⟩
    rw [← hM] at S
    obtain ⟨hr, hhr⟩ : ∃ hr, hr = Value.ref 42 := ⟨_, rfl⟩
    rw [← hhr] at S
    have LS0 : Ex8 fun (io' : Obj) (G' : Heap) (r0 : Value) (t0 : List Value) (dc : Value → Nat × Int) (c : Int) (tc : Tok) (e1 : Nat) => An5 (io' = liObj x (min n.toNat xs.length) ∨ io' = liEnd xs.length ∧ min n.toNat xs.length = xs.length) (Keeps g G') (HS (psLt ps) false (EnN ps xs G') (min n.toNat xs.length) c (r0 :: t0) dc) ((r0 :: t0).length = ys.length)
        (St G' L [(Str.ofString "it", .ref it), (Str.ofString "result", .ref D), (Str.ofString "top", xs.getD (dc r0).1 .none), (Str.ofString "order", .int c tc), (Str.ofString "_heapreplace", hr)]
          ((D, seqObj "list" (r0 :: t0).toArray e1) :: (it, io') :: M) o _) :=
      ⟨io, g, r0, t0, dcOf g, n, tn, e1, hio.imp id fun ⟨p, q⟩ => ⟨p, Nat.min_eq_right (Nat.le_of_lt q)⟩, .refl _, hys ▸ X0, hHl, S.weak rfl⟩
    clear S X0 hr0 ho0 hHl hdc hEn hio hE
    refine w_for (fun s' => Ex8 fun (io' : Obj) (G' : Heap) (r0 : Value) (t0 : List Value) (dc : Value → Nat × Int) (c : Int) (tc : Tok) (e1 : Nat) => An4 (Keeps g G') (HS (psLt ps) false (EnN ps xs G') xs.length c (r0 :: t0) dc) ((r0 :: t0).length = ys.length)
        (St G' L [(Str.ofString "result", .ref D)]
          ((D, seqObj "list" (r0 :: t0).toArray e1) :: (it, io') :: M) o s')) ?_ ?_
    · obtain ⟨io', G', r0, t0, dc, c, tc, e1, hio', kG, X, hl, S⟩ := LS0
      repeat (walk_at "1")
      refine i_li (S.at (.tail _ (.head _))) (by rcases hio' with rfl | ⟨rfl, _⟩ <;> rfl) ?_
      refine ⟨fun m s' => Ex9 fun (j : Nat) (io' : Obj) (G' : Heap) (r0 : Value) (t0 : List Value) (dc : Value → Nat × Int) (c : Int) (tc : Tok) (e1 : Nat) => An7 (m = xs.length - j) (j ≤ xs.length) (io' = liObj x j ∨ io' = liEnd xs.length ∧ j = xs.length) (Keeps g G') (HS (psLt ps) false (EnN ps xs G') j c (r0 :: t0) dc) ((r0 :: t0).length = ys.length)
        (St G' L [(Str.ofString "result", .ref D), (Str.ofString "top", xs.getD (dc r0).1 .none), (Str.ofString "order", .int c tc), (Str.ofString "_heapreplace", hr)]
          ((D, seqObj "list" (r0 :: t0).toArray e1) :: (it, io') :: M) o s'), _, ⟨min n.toNat xs.length, io', G', r0, t0, dc, c, tc, e1, rfl, Nat.min_le_right _ _, hio', kG, X, hl, S.weak rfl⟩, ?_⟩
      clear S X hl kG hio'
      intro m s' hI₁ Q₁ X₁ hQ₁ hX₁
      obtain ⟨j, io', G', r0, t0, dc, c, tc, e1, rfl, hj, hio', kG, X, hl, S⟩ := hI₁
      by_cases hjx : j = xs.length
      · subst hjx
        rcases hio' with rfl | ⟨rfl, _⟩
        · refine n_li_end hh S 1 rfl (r.seq (kG.trans S.kept)) (Nat.le_refl _) ?_
          intro s1 S1
          exact hX₁ _ ⟨_, G', r0, t0, dc, c, tc, e1, kG, X, hl, S1.weak rfl⟩
        · refine n_li_over hh S 1 rfl ?_
          intro s1 S1
          exact hX₁ _ ⟨_, G', r0, t0, dc, c, tc, e1, kG, X, hl, S1.weak rfl⟩
      · have hio2 : io' = liObj x j := hio'.elim id fun q => absurd q.2 hjx
        subst hio2
        have hjl : j < xs.length := by walk_at "l"
        obtain ⟨v, hv⟩ : ∃ v, xs[j]? = some v := ⟨_, List.getElem?_eq_getElem hjl⟩
        have GG := G.keeps kG
        refine n_li S 1 rfl (r.seq (kG.trans S.kept)) hv ?_
        intro s1 S1
        dsimp only [List.set_cons_succ, List.set_cons_zero] at S1
        refine wpAny_assign_Name (s_loc S1 ?_)
        intro s2 S2
        walk_at "put"
        repeat (walk_at "1")
        rename St _ _ _ _ _ _ => S4
        have exj : xs.getD j .none = v := by simp [List.getD, hv]
        have hj1 := ((hpc j hjl).keeps kG).keeps S4.kept
        rw [exj] at hj1
        have hr1 := ((X.ents r0 (.head _)).2).keeps S4.kept
        refine pc_lt hj1 hr1 A _ _ _ (by walk_at "l") (.refl _) ?_
        repeat (walk_at "1")
        refine ite_bool (fun hlt => ?_) (fun hlt => ?_)
        · repeat (walk_at "1")
          rw [hhr]
          refine c_fn GG.f42 ?_
          repeat (walk_at "1")
          rename St _ _ _ _ _ _ => S5
          rename_i Tn s5 hfresh hks
          refine ⟨⟨_, _, _, _, S5⟩, ?_⟩
          obtain ⟨G2, kg1, kg2, kg3, S6⟩ := S5.rebase (N' := ((D, seqObj "list" (r0 :: t0).toArray e1) :: (it, liObj x (j + 1)) :: M)) (.cons _ (.refl _))
          have hobj := kg2 _ (.head _) (S5.out0 (.refl _))
          have hfr := (S5.nw _ (.head _)).2.2
          have hnt : Value.ref Tn ∉ t0 := fun hm => by
            obtain ⟨⟨T, e, u, hT, hTo⟩, _⟩ := X.ents _ (.tail _ hm)
            injection hT with hT
            rw [hT, hTo] at hfr; cases hfr
          have X2 := X.imp (En' := EnN ps xs G2) fun y p hp => (entN (w := w) ps xs).kp _ _ _ _ hp kg1
          have hnewE : EnN ps xs G2 (.ref Tn) (j, c) := ⟨⟨_, _, _, rfl, by rw [exj]; exact hobj⟩, ((hpc j hjl).keeps kG).keeps kg1⟩
          have hbb : flp false (psLt ps) j (dc r0).1 = true := hlt
          have hkh := S6.kept.hide (ms := [D]) (by intro b hb; simp at hb; rw [hb]; exact (S6.nw _ (.head _)).2.2)
          refine heapreplace_max_ok (GG.keeps kg1).toGl S6.kept (S6.nw _ (.head _)).2.2 (by walk_at "l") (by walk_at "l") S6.gn (S6.at (.head _)) (X2.join (entN ps xs) hnt hnewE hkh) (fun y hy => hy) (Nat.lt_trans (Nat.lt_of_le_of_lt (Nat.le_of_eq hl) hy64) (by decide)) ?_
          intro s7 k1 k2 k3 k4
          have X3 := X2.swap (c' := c + 1) (psLt_wa ps) hnt hnewE hbb rfl
          have S7 := S6.turnBut 0 rfl k1 k2 k3 k4
          dsimp only [List.set_cons_zero] at S7
          have hlen3 := (sup_perm (lt := Mine.hlt false fun y z => pyl (psLt ps) ((fun v => if v = Value.ref Tn then (j, c) else dc v) y) ((fun v => if v = Value.ref Tn then (j, c) else dc v) z)) (pos := 0) (xs := Value.ref Tn :: t0)).length_eq
          have S8 : St G2 L [(Str.ofString "result", .ref D), (Str.ofString "top", xs.getD (dc r0).1 .none), (Str.ofString "order", .int c tc), (Str.ofString "_heapreplace", hr)]
              ((D, seqObj "list" (sup (Mine.hlt false fun y z => pyl (psLt ps) ((fun v => if v = Value.ref Tn then (j, c) else dc v) y) ((fun v => if v = Value.ref Tn then (j, c) else dc v) z)) 0 (Value.ref Tn :: t0)).toArray e1) :: (it, liObj x (j + 1)) :: M) o s7 := S7.weak rfl
          clear S7 k2 k1 k3 k4
          generalize hH3 : sup (Mine.hlt false fun y z => pyl (psLt ps) ((fun v => if v = Value.ref Tn then (j, c) else dc v) y) ((fun v => if v = Value.ref Tn then (j, c) else dc v) z)) 0 (Value.ref Tn :: t0) = H3 at X3 hlen3 S8
          clear hH3
          generalize (fun v => if v = Value.ref Tn then (j, c) else dc v) = dc3 at X3
          obtain ⟨r1, t1, rfl⟩ : ∃ r1 t1, H3 = r1 :: t1 := by
            cases H3 with
            | nil => simp at hlen3
            | cons a b => exact ⟨a, b, rfl⟩
          obtain ⟨⟨T1, eT1, to1, hr1, ho1⟩, _⟩ := X3.ents r1 (.head _)
          clear S S1 S4 S5 S6
          refine x_cons ?_
          refine Assign_Tuple ?_
          repeat (walk_at "e")
          rename St _ _ _ _ _ _ => S9
          refine i_list (n := 0) (S9.at (.head _)) rfl (by walk_at "l") rfl ?_
          rw [hr1]
          refine as_tup (items := [xs.getD (dc3 r1).1 .none, .int (dc3 r1).2 to1]) hh S9 (S9.kept _ _ ho1) ?_
          intro s10 S10
          refine assignInOrder_cons (wpAny_assign_Name (s_loc S10 ?_))
          intro s11 S11
          refine assignInOrder_cons (wpAny_assign_Name (s_loc S11 ?_))
          intro s12 S12
          refine assignInOrder_nil ?_
          walk_at "put"
          refine x_cons ?_
          refine wpAny_AugAssign_Name (n_loc S12 rfl ?_)
          repeat (walk_at "e")
          rename St _ _ _ _ _ _ => S14
          refine ia_add S14 ?_
          intro tc' s15 S15
          repeat (walk_at "1")
          rename St _ _ _ _ _ _ => S16
          exact hQ₁ _ _ ⟨xs.length - (j + 1), by walk_at "l", j + 1, _, G2, r1, t1, dc3, c + 1, tc', e1, rfl, by walk_at "l", .inl rfl, kG.trans kg1, X3, by simp at hlen3 hl ⊢; lia, S16.weak rfl⟩
        · repeat (walk_at "1")
          have hbb : flp false (psLt ps) j (dc r0).1 = false := hlt
          exact hQ₁ _ _ ⟨xs.length - (j + 1), by walk_at "l", j + 1, _, G', r0, t0, dc, c, tc, e1, rfl, by walk_at "l", .inl rfl, kG, X.keep (psLt_wa ps) hbb, hl, S4.weak rfl⟩
    · rintro s3 ⟨io', G', r0, t0, dc, c, tc, e1, kG, X, hl, S⟩
      subst hM
      repeat (walk_at "1")
      refine m_list PySem.F.slot_list_sort PySem.F.type_list_sort (S.at (.head _)) ?_
      repeat (walk_at "1")
      refine c_sort (T := pTree D false) (S.at (.head _)) (args_list_sort _) (pt0 D) ?_
      refine sort_plain (A := A.in1) (m := 6) (Lt := eLt (psLt ps) dc (r0 :: t0)) (kind := tuples' false) S 0 rfl (Nat.lt_of_le_of_lt (Nat.le_of_eq hl) hy64) (by show A.units + 1 + 6 < _; lia) (eLt_wo (psLt_wa ps) _) (fun _ => (entN ps xs).kd _ _ (fun y hy => ⟨_, X.ents y hy⟩) (by simp)) (X.sortLt (entN ps xs)) ?_
      intro out e3 s4 hsb S4
      refine ⟨_, rfl, ?_⟩
      dsimp only [List.set_cons_zero] at S4
      have hfin := X.done (psLt_wa ps) hsb hfull
      have hmem : ∀ y ∈ out, EnN ps xs G' y (dc y) := fun y hy => by
        obtain ⟨σ, h1, h2, h3, _⟩ := hsb
        obtain ⟨i, hi⟩ := List.getElem?_of_mem hy
        have hil := (List.getElem?_eq_some_iff.mp hi).1
        rw [h3 i (by walk_at "l")] at hi
        exact X.ents y (List.mem_of_getElem? hi)
      have hol : out.length = ys.length := by obtain ⟨σ, h1, _⟩ := hsb; lia
      clear X hsb S
      repeat (walk_at "1")
      obtain ⟨G2, kg1, kg2, kg3, S5⟩ := S4.rebase (N' := [(L + 1, oc), (130, ob)]) (.cons _ (.cons _ (.refl _)))
      have hobj := kg2 _ (.head _) (S4.out0 (.cons _ (.refl _)))
      refine w_comp (cl := []) ?_
      repeat (walk_at "1")
      refine i_lst S5 (S5.kept _ _ hobj) ?_
      intro it' s6 S6
      refine ⟨_, _, _, _, _, loops_list hh S6 ⟨_, _, hobj, rfl⟩ (fun k _ zs N => zs = (out.take k).map (fun y => xs.getD (dc y).1 .none) ∧ N = [(L + 1, oc), (130, ob)]) (fun _ _ => ⟨rfl, rfl⟩) ?_ ?_⟩
      · intro k D' C G3 zs e N s7 v hv kG3 hI₁ S7 P₁ hP₁
        obtain ⟨rfl, rfl⟩ := hI₁
        obtain ⟨⟨T1, eT1, to1, hr1, ho1⟩, _⟩ := hmem v (List.mem_of_getElem? hv)
        subst hr1
        refine as_tup (items := [_, _]) hh S7 (S7.kept _ _ (kG3 _ _ (kg1 _ _ ho1))) ?_
        intro s8 S8
        refine assignInOrder_cons (wpAny_assign_Name (s_loc S8 ?_))
        intro s9 S9
        refine assignInOrder_cons (wpAny_assign_Name (s_loc S9 ?_))
        intro s10 S10
        refine assignInOrder_nil ?_
        walk_at "put"
        show wpAny _ _ (eval _ _) _ _ _
        repeat (walk_at "1")
        refine ap_list S10 0 rfl (by simp; exact Nat.le_trans (Nat.min_le_right _ _) (len_small hol hy64)) ?_
        intro s12 S12
        exact hP₁ _ ⟨G3, _, _, _, _, .refl _, ⟨by rw [List.take_add_one, hv]; simp, rfl⟩, S12⟩
      · rintro D' G3 zs e N G4 s7 ⟨rfl, rfl⟩ kg4 _ S7
        rw [List.take_length, ← hfin] at S7
        refine h G4 D' full e [] s7 ((kG.trans kg1).trans kg4) hfull ?_
        have et : full.take n.toNat = full.take (r0 :: t0).length := by
          rw [hl, hys]
          by_cases hc : n.toNat ≤ xs.length
          · rw [Nat.min_eq_left hc]
          · have hfl : full.length = xs.length := by obtain ⟨σ, h1, _⟩ := hfull; exact h1
            rw [Nat.min_eq_right (by walk_at "l"), List.take_of_length_le (by walk_at "l"), List.take_of_length_le (by walk_at "l")]
        rw [et]
        exact (S7.less (.cons_cons _ (.cons _ (.cons _ (.refl _))))).weak rfl
end

section
variable {w : World} {A : Around} {E : Value → Shared → Prop} {s : Shared} {g g₀ : Heap} {L : Addr} {l : List (Str × Value)} {N : List (Addr × Obj)} {o : OsState} {mg mb : Str → Option Value} {K : Frag} {x : Addr} {xs : List Value}
set_option maxHeartbeats 1000000
theorem comp_nl {ps : List (Str × Str)} {a n : Int} {tn : Tok} {ob oc : Obj} {it : Addr} {Q : Flow → Shared → Prop} (G : Gw K mg mb g) (r : Row K g x xs ps a) (hh : A.handled = none) (hd : A.depth + 30 < recursionLimit) (hu : A.units + 100 < cLine)
    (hn : n < 1000) (hn2 : -1000 < n)
    (S : St g L [(Str.ofString "n", .int n tn), (Str.ofString "iterable", .ref x), (Str.ofString "it", .ref it)] [(it, liObj x 0), (L + 1, oc), (130, ob)] o s)
    (h : ∀ (G : Heap) (D : Addr) (ys : List Value) (e1 e2 : Nat) (io : Obj) s', Keeps g G → ys.length = min n.toNat xs.length → (∀ (i : Nat) y, ys[i]? = some y → Enu G y (-(i : Int)) (xs.getD i .none)) → (io = liObj x (min n.toNat xs.length) ∨ io = liEnd xs.length ∧ xs.length < n.toNat) →
      St G L [(Str.ofString "n", .int n tn), (Str.ofString "iterable", .ref x), (Str.ofString "it", .ref it), (Str.ofString "result", .ref D)] [(D, seqObj "list" ys.toArray e1), (it, io), (L + 1, oc), (130, ob)] o s' → Q .next s') :
    wpAny (model prog w) A (exec (nlN.getD 1 (.Pass default)) (nlEnv L)) Q E s := by
  refine w_comp_as (cl := []) ?_
  refine Call_ (e_blt S G.gs G.bs G.zip0 G.zip1 ?_)
  refine callWith_type1 ?_
  refine args_cons ?_
  refine Call_ (e_blt S G.gs G.bs G.rng0 G.rng1 ?_)
  repeat (walk_at "1")
  rename St _ _ _ _ _ _ => S
  refine u_neg S ?_
  intro _ _ S
  repeat (walk_at "1")
  rename St _ _ _ _ _ _ => S
  refine u_neg S ?_
  intro _ _ S
  repeat (walk_at "1")
  refine c_range3 S (by decide) (by decide) ?_
  intro rg t1 t2 t3 s1 S
  repeat (walk_at "1")
  have S' : St g L [(Str.ofString "n", .int n tn), (Str.ofString "iterable", .ref x), (Str.ofString "it", .ref it)] ((it, liObj x 0) :: [(L + 1, oc), (130, ob)]) o s1 := S.less (.cons _ (.refl _))
  refine c_zip (S.at (.head _)) (small_down hn2 hn) S' ?_
  intro ri TI TO z s2 S
  have er := size_down n
  rw [er] at S
  refine i_zip (S.at (.head _)) ?_
  refine ⟨g, L, _, _, o, rfl, S, ?_⟩
  intro D C s4 S4
  refine ⟨fun m s' => Ex8 fun (k : Nat) (G : Heap) (l' : List (Str × Value)) (ys : List Value) (e1 e2 : Nat) (va vb : Value) => An7 (m = n.toNat - k) (k ≤ n.toNat) (k ≤ xs.length)
      (Keeps (hideAll s2.heap ((zipL z TI TO ri it .none .none .none (riObj 0 (n.toNat : Int) (-1)) (liObj x 0) ++ [(L + 1, oc), (130, ob)]).map (·.1))) G) (ys.length = k)
      (∀ (i : Nat) y, ys[i]? = some y → Enu G y (-(i : Int)) (xs.getD i .none))
      (St G C l' (zipL z TI TO ri it .none va vb (riObj (-(k : Int)) ((n.toNat - k : Nat) : Int) (-1)) (liObj x k) ++ [(D, seqObj "list" ys.toArray e1), (L + 1, oc), (130, ob)]) o s'),
    n.toNat, ⟨0, _, [], [], 0, 0, .none, .none, rfl, Nat.zero_le _, Nat.zero_le _, .refl _, rfl, by simp, by simpa using S4.perm List.perm_middle.symm⟩, fun Q' E' hq' => i_zip (S4.at (.tail _ (.head _))) hq', ?_⟩
  intro m s' hI₁ P₁ R₁ hP₁ hR₁
  obtain ⟨k, G', l', ys, e1, e2, va, vb, rfl, hk1, hk2, kG, hys, hE, S5⟩ := hI₁
  have hgG : Keeps g G' := fun b ob e => kG b ob (hideAll_get _ (S.kept b ob e) fun hm => by
    obtain ⟨p, hp, he⟩ := List.mem_map.mp hm
    have := (S.nw p hp).2.2
    rw [he, e] at this; cases this)
  have hseq' : SeqAt G' x xs := r.seq hgG
  by_cases hkn : k = n.toNat
  · subst hkn
    rw [Nat.sub_self] at S5
    refine n_zip_end1 hh S5 ?_
    intro s6 S6
    refine hR₁ _ ⟨G', l', [(D, seqObj "list" ys.toArray e1), (it, liObj x n.toNat), (L + 1, oc), (130, ob)], kG, ?_, ?_⟩
    · exact (S6.less (N' := [(it, liObj x n.toNat), (D, seqObj "list" ys.toArray e1), (L + 1, oc), (130, ob)]) (.cons _ (.cons _ (.cons _ (.cons _ (.refl _)))))).perm (.swap ..)
    · intro G'' s7 k1 k2 S7
      refine h G'' D ys e1 e2 _ s7 k1 (by rw [hys, Nat.min_eq_left hk2]) (fun i y hy => ?_) (.inl (by rw [Nat.min_eq_left hk2])) S7
      exact (hE i y hy).over (S.frameIn kG) k2
  · by_cases hkx : k = xs.length
    · subst hkx
      obtain ⟨lf, hlf⟩ : ∃ lf, n.toNat - xs.length = lf + 1 := ⟨n.toNat - xs.length - 1, sub_ex hk1 hkn⟩
      rw [hlf] at S5
      refine n_zip_end2 (left := lf) hh hseq' (by push_cast at S5; exact S5) ?_
      intro s6 S6
      refine hR₁ _ ⟨G', l', [(D, seqObj "list" ys.toArray e1), (it, liEnd xs.length), (L + 1, oc), (130, ob)], kG, S6.perm (.swap ..), ?_⟩
      intro G'' s7 k1 k2 S7
      refine h G'' D ys e1 e2 _ s7 k1 (by rw [hys, Nat.min_eq_right (by walk_at "l")]) (fun i y hy => ?_) (.inr ⟨rfl, by walk_at "l"⟩) S7
      exact (hE i y hy).over (S.frameIn kG) k2
    · obtain ⟨lf, hlf⟩ : ∃ lf, n.toNat - k = lf + 1 := ⟨n.toNat - k - 1, sub_ex hk1 hkn⟩
      have hkl : k < xs.length := Nat.lt_of_le_of_ne hk2 hkx
      rw [hlf] at S5
      refine n_zip (left := lf) hseq' (by push_cast at S5; exact S5) (List.getElem?_eq_getElem (by walk_at "l")) ?_
      intro T t s6 S6
      simp only [zipL, List.cons_append, List.nil_append] at S6
      obtain ⟨iv, hiv⟩ : ∃ iv, iv = Value.int (-↑k) t := ⟨_, rfl⟩
      obtain ⟨ro, hro⟩ : ∃ ro, ro = riObj (-↑k + -1) (↑lf) (-1) := ⟨_, rfl⟩
      rw [← hiv, ← hro] at S6
      refine go_zip S6 1 rfl ?_
      intro s7 S7
      dsimp only [List.set_cons_succ, List.set_cons_zero] at S7
      refine as_tup (items := [iv, xs[k]]) hh S7 (S7.at (.head _)) ?_
      intro s8 S8
      have S8 := S8.weak (l' := []) rfl
      refine assignInOrder_cons ?_
      refine wpAny_assign_Name (s_loc S8 ?_)
      intro s9 S9
      refine assignInOrder_cons ?_
      refine wpAny_assign_Name (s_loc S9 ?_)
      intro s10 S10
      refine assignInOrder_nil ?_
      walk_at "put"
      show wpAny _ _ (eval _ _) _ _ _
      refine e_tup ?_
      repeat (walk_at "1")
      rename St _ _ _ _ _ _ => S12
      refine ap_list S12 7 rfl (by walk_at "l") ?_
      intro s13 S13
      dsimp only [List.set_cons_succ, List.set_cons_zero] at S13
      obtain ⟨G2, kg1, kg2, kg3, S14⟩ := S13.rebase (N' := [(z, zipObj Value.none TI TO), (TO, prObj iv xs[k]), (TI, prObj (Value.ref ri) (Value.ref it)),
        (ri, ro), (it, liObj x (k + 1)), (D, _), (L + 1, oc), (130, ob)]) (.cons _ (.cons _ (.refl _)))
      have hent := kg2 _ (.head _) (S13.out0 (.cons _ (.refl _)))
      refine hP₁ _ ⟨n.toNat - (k + 1), by walk_at "l", k + 1, G2, ?l1, ?ys1, ?e11, 0, ?va1, ?vb1, rfl, by walk_at "l", by walk_at "l", kG.trans kg1, ?len1, ?ent1, ?st1⟩
      case st1 =>
        subst hro
        have e1 : n.toNat - (k + 1) = lf := sub_next hlf
        rw [e1]
        rw [show (-((k + 1 : Nat) : Int)) = -(k : Int) + -1 by walk_at "l"]
        exact S14
      case len1 => simp [hys]
      case ent1 =>
        intro i y hy
        rw [List.getElem?_append] at hy
        split at hy
        · exact (hE i y hy).keeps kg1
        · have hi : i = k := by
            obtain ⟨q, _⟩ := List.getElem?_eq_some_iff.mp hy
            simp at q; exact Nat.le_antisymm (hys ▸ Nat.le_of_sub_eq_zero q) (hys ▸ Nat.le_of_not_lt ‹_›)
          subst hi
          simp only [hys, Nat.sub_self, List.getElem?_cons_zero, Option.some.injEq] at hy
          subst hy
          rw [show xs.getD i .none = xs[i] by simp [List.getD, List.getElem?_eq_getElem (show i < xs.length by walk_at "l")]]
          subst hiv
          exact ⟨_, _, _, rfl, hent⟩
end
section
variable {w : World} {A : Around} {E : Value → Shared → Prop} {s : Shared} {g g₀ : Heap} {L : Addr} {l : List (Str × Value)} {N : List (Addr × Obj)} {o : OsState} {mg mb : Str → Option Value} {K : Frag} {x : Addr} {xs : List Value}
set_option maxHeartbeats 1000000
theorem tail_nl {ps : List (Str × Str)} {a n : Int} {tn : Tok} {ob oc io : Obj} {it D : Addr} {ys : List Value} {e1 : Nat} {Q : Flow → Shared → Prop} (G : Gw K mg mb g) (r : Row K g x xs ps a) (hh : A.handled = none) (hd : A.depth + 30 < recursionLimit) (hu : A.units + 100 < cLine)
    (hxs : 2 ≤ xs.length) (hn : n < 1000) (hn2 : -1000 < n)
    (hys : ys.length = min n.toNat xs.length) (hE : ∀ (i : Nat) y, ys[i]? = some y → Enu g y (-(i : Int)) (xs.getD i .none)) (hio : io = liObj x (min n.toNat xs.length) ∨ io = liEnd xs.length ∧ xs.length < n.toNat)
    (S : St g L [(Str.ofString "n", .int n tn), (Str.ofString "iterable", .ref x), (Str.ofString "it", .ref it), (Str.ofString "result", .ref D)] [(D, seqObj "list" ys.toArray e1), (it, io), (L + 1, oc), (130, ob)] o s)
    (h : ∀ (G : Heap) (R : Addr) (out : List Value) (e3 : Nat) l' s', Keeps g G → SortedBy (flp true (psLt ps)) xs out →
      St G L l' [(R, seqObj "list" (out.take n.toNat).toArray e3), (130, ob)] o s' → Q (.ret (.ref R)) s') :
    wpAny (model prog w) A (execs (nlN.drop 2) (nlEnv L)) Q E s := by
  obtain ⟨full, hfull⟩ := sorted_exists (vs := xs) ((psLt_wa ps).flp true _)
  have hzs := r.few
  refine x_cons ?_
  refine wpAny_If ?_
  refine isTrue_not ?_
  refine isTrue_plain ?_
  repeat (walk_at "1")
  have hyx : ys.length ≤ xs.length := hys ▸ Nat.min_le_right _ _
  have hy64 : ys.length < 64 := Nat.lt_of_le_of_lt hyx hzs
  refine tr_list S (S.at (.head _)) (Nat.lt_trans hy64 (by decide)) ?_
  intro s1 S
  by_cases hy0 : ys = []
  · refine if_p (by simp [hy0]) ?_
    have hn0 : n.toNat = 0 := by rw [hy0] at hys; simp at hys; lia
    repeat (walk_at "1")
    rename St _ _ _ _ _ _ => S
    refine h g D full e1 _ _ (.refl _) hfull (S.less ?_)
    rw [hy0, hn0]
    simp only [List.take_zero]
    exact .cons_cons _ (.cons _ (.cons _ (.refl _)))
  · refine if_n (by simp [hy0]) ?_
    have hn0 : 0 < n := by have := List.length_pos_iff.mpr hy0; lia
    repeat (walk_at "1")
    rename St _ _ _ _ _ _ => S
    refine e_glob S G.gs G.n35 ?_
    refine c_fn G.f35 ?_
    repeat (walk_at "1")
    rename St _ _ _ _ _ _ => S
    refine ⟨⟨_, _, _, _, S⟩, ?_⟩
    have hpc : ∀ i, i < xs.length → Pc g (xs.getD i .none) (ps.getD i default) := fun i hi => (r.pcs.2 i _ _ (by simp [List.getD, hi]) (by simp [List.getD, show i < ps.length by rw [← r.pcs.1]; exact hi]))
    have hdc : ∀ (i : Nat) y, ys[i]? = some y → dcOf g y = (i, -(i : Int)) := fun i y hy => by
      unfold dcOf; rw [(hE i y hy).ord]; simp
    have hEn : ∀ (i : Nat) y, ys[i]? = some y → EnN ps xs g y (dcOf g y) := fun i y hy => by
      rw [hdc i y hy]
      exact ⟨hE i y hy, hpc i (Nat.lt_of_lt_of_le (List.getElem?_eq_some_iff.mp hy).1 hyx)⟩
    have hcmp : CmpOk w (hideAll _ [D]) (· ∈ ys) (fun y z => pyl (psLt ps) (dcOf g y) (dcOf g z)) := (entN ps xs).cmpOk (g := g) (M := ys) (fun y hy => by
        obtain ⟨i, hi⟩ := List.getElem?_of_mem hy
        exact hEn i y hi) (fun y hy z hz => by
        obtain ⟨i, hi⟩ := List.getElem?_of_mem hy
        obtain ⟨k, hk⟩ := List.getElem?_of_mem hz
        rw [hdc i y hi, hdc k z hk]
        by_cases e : i = k
        · subst e; rw [hi] at hk; exact .inl (Option.some.inj hk)
        · exact .inr (by simp; lia)) (S.kept.hide (by intro b hb; simp at hb; rw [hb]; exact (S.nw _ (.head _)).2.2))
    refine heapify_ok G.toGl S.kept (S.nw _ (.head _)).2.2 hh (by walk_at "l") (by walk_at "l") S.gn (S.at (.head _)) hcmp (fun y hy => hy) (by walk_at "l") ?_
    intro s2 k1 k2 k3 k4
    have S2 := S.turnBut 0 rfl k1 k2 k3 k4
    have X0 := HS.start (kl := psLt ps) (b := true) (En := EnN ps xs g) (dc := dcOf g) (c := -n) (psLt_wa ps) (fun i y hy => ⟨hdc i y hy, hEn i y hy⟩) (by simp; lia)
    have hHl : (hfy (hlt true fun y z => pyl (psLt ps) (dcOf g y) (dcOf g z)) (ys.length / 2) ys).length = ys.length := (hfy_perm _ _).length_eq
    have S2' : St g L [(Str.ofString "n", .int n tn), (Str.ofString "iterable", .ref x), (Str.ofString "it", .ref it), (Str.ofString "result", .ref D)] [(D, seqObj "list" (hfy (hlt true fun y z => pyl (psLt ps) (dcOf g y) (dcOf g z)) (ys.length / 2) ys).toArray e1), (it, io), (L + 1, oc), (130, ob)] o s2 := S2
    clear S2 S hcmp
    generalize hH : hfy (hlt true fun y z => pyl (psLt ps) (dcOf g y) (dcOf g z)) (ys.length / 2) ys = H at X0 hHl S2'
    clear hH
    have S := S2'
    clear S2'
    obtain ⟨r0, t0, rfl⟩ : ∃ r0 t0, H = r0 :: t0 := by
      cases H with
      | nil => simp at hHl; exact absurd hHl.symm (by have := List.length_pos_iff.mpr hy0; lia)
      | cons a b => exact ⟨a, b, rfl⟩
    obtain ⟨⟨T0, eT0, to0, hr0, ho0⟩, _⟩ := X0.ents r0 (.head _)
    refine x_cons ?_
    repeat (walk_at "e")
    rename St _ _ _ _ _ _ => S
    refine i_list (n := 0) (S.at (.head _)) rfl (by walk_at "l") rfl ?_
    repeat (walk_at "e")
    rename St _ _ _ _ _ _ => S
    rw [hr0]
    refine i_tup (items := [_, _]) (j := 0) (S.kept _ _ ho0) rfl rfl (by simp) ?_
    repeat (walk_at "e")
    refine x_cons ?_
    repeat (walk_at "e")
    rename St _ _ _ _ _ _ => S
    refine u_neg S ?_
    intro tn' _ S
    repeat (walk_at "e")
    refine x_cons ?_
    repeat (walk_at "e")
    rename St _ _ _ _ _ _ => S
    refine e_glob S G.gs G.n28 ?_
    repeat (walk_at "e")
    rename St _ _ _ _ _ _ => S
    refine x_cons ?_
    obtain ⟨M, hM⟩ : ∃ M, M = [(L + 1, oc), (130, ob)] := ⟨_, rfl⟩
    rw [← hM] at S
    obtain ⟨hr, hhr⟩ : ∃ hr, hr = Value.ref 28 := ⟨_, rfl⟩
    rw [← hhr] at S
    have LS0 : Ex8 fun (io' : Obj) (G' : Heap) (r0 : Value) (t0 : List Value) (dc : Value → Nat × Int) (c : Int) (tc : Tok) (e1 : Nat) => An5 (io' = liObj x (min n.toNat xs.length) ∨ io' = liEnd xs.length ∧ min n.toNat xs.length = xs.length) (Keeps g G') (HS (psLt ps) true (EnN ps xs G') (min n.toNat xs.length) c (r0 :: t0) dc) ((r0 :: t0).length = ys.length)
        (St G' L [(Str.ofString "it", .ref it), (Str.ofString "result", .ref D), (Str.ofString "top", xs.getD (dc r0).1 .none), (Str.ofString "order", .int c tc), (Str.ofString "_heapreplace", hr)]
          ((D, seqObj "list" (r0 :: t0).toArray e1) :: (it, io') :: M) o _) :=
      ⟨io, g, r0, t0, dcOf g, -n, tn', e1, hio.imp id fun ⟨p, q⟩ => ⟨p, Nat.min_eq_right (Nat.le_of_lt q)⟩, .refl _, hys ▸ X0, hHl, S.weak rfl⟩
    clear S X0 hr0 ho0 hHl hdc hEn hio hE
    refine w_for (fun s' => Ex8 fun (io' : Obj) (G' : Heap) (r0 : Value) (t0 : List Value) (dc : Value → Nat × Int) (c : Int) (tc : Tok) (e1 : Nat) => An4 (Keeps g G') (HS (psLt ps) true (EnN ps xs G') xs.length c (r0 :: t0) dc) ((r0 :: t0).length = ys.length)
        (St G' L [(Str.ofString "result", .ref D)]
          ((D, seqObj "list" (r0 :: t0).toArray e1) :: (it, io') :: M) o s')) ?_ ?_
    · obtain ⟨io', G', r0, t0, dc, c, tc, e1, hio', kG, X, hl, S⟩ := LS0
      repeat (walk_at "1")
      refine i_li (S.at (.tail _ (.head _))) (by rcases hio' with rfl | ⟨rfl, _⟩ <;> rfl) ?_
      refine ⟨fun m s' => Ex9 fun (j : Nat) (io' : Obj) (G' : Heap) (r0 : Value) (t0 : List Value) (dc : Value → Nat × Int) (c : Int) (tc : Tok) (e1 : Nat) => An7 (m = xs.length - j) (j ≤ xs.length) (io' = liObj x j ∨ io' = liEnd xs.length ∧ j = xs.length) (Keeps g G') (HS (psLt ps) true (EnN ps xs G') j c (r0 :: t0) dc) ((r0 :: t0).length = ys.length)
        (St G' L [(Str.ofString "result", .ref D), (Str.ofString "top", xs.getD (dc r0).1 .none), (Str.ofString "order", .int c tc), (Str.ofString "_heapreplace", hr)]
          ((D, seqObj "list" (r0 :: t0).toArray e1) :: (it, io') :: M) o s'), _, ⟨min n.toNat xs.length, io', G', r0, t0, dc, c, tc, e1, rfl, Nat.min_le_right _ _, hio', kG, X, hl, S.weak rfl⟩, ?_⟩
      clear S X hl kG hio'
      intro m s' hI₁ Q₁ X₁ hQ₁ hX₁
      obtain ⟨j, io', G', r0, t0, dc, c, tc, e1, rfl, hj, hio', kG, X, hl, S⟩ := hI₁
      by_cases hjx : j = xs.length
      · subst hjx
        rcases hio' with rfl | ⟨rfl, _⟩
        · refine n_li_end hh S 1 rfl (r.seq (kG.trans S.kept)) (Nat.le_refl _) ?_
          intro s1 S1
          exact hX₁ _ ⟨_, G', r0, t0, dc, c, tc, e1, kG, X, hl, S1.weak rfl⟩
        · refine n_li_over hh S 1 rfl ?_
          intro s1 S1
          exact hX₁ _ ⟨_, G', r0, t0, dc, c, tc, e1, kG, X, hl, S1.weak rfl⟩
      · have hio2 : io' = liObj x j := hio'.elim id fun q => absurd q.2 hjx
        subst hio2
        have hjl : j < xs.length := by walk_at "l"
        obtain ⟨v, hv⟩ : ∃ v, xs[j]? = some v := ⟨_, List.getElem?_eq_getElem hjl⟩
        have GG := G.keeps kG
        refine n_li S 1 rfl (r.seq (kG.trans S.kept)) hv ?_
        intro s1 S1
        dsimp only [List.set_cons_succ, List.set_cons_zero] at S1
        refine wpAny_assign_Name (s_loc S1 ?_)
        intro s2 S2
        walk_at "put"
        repeat (walk_at "1")
        rename St _ _ _ _ _ _ => S4
        have exj : xs.getD j .none = v := by simp [List.getD, hv]
        have hj1 := ((hpc j hjl).keeps kG).keeps S4.kept
        rw [exj] at hj1
        have hr1 := ((X.ents r0 (.head _)).2).keeps S4.kept
        refine pc_lt hr1 hj1 A _ _ _ (by walk_at "l") (.refl _) ?_
        repeat (walk_at "1")
        refine ite_bool (fun hlt => ?_) (fun hlt => ?_)
        · repeat (walk_at "1")
          rw [hhr]
          refine c_fn GG.f28 ?_
          repeat (walk_at "1")
          rename St _ _ _ _ _ _ => S5
          rename_i Tn s5 hfresh hks
          refine ⟨⟨_, _, _, _, S5⟩, ?_⟩
          obtain ⟨G2, kg1, kg2, kg3, S6⟩ := S5.rebase (N' := ((D, seqObj "list" (r0 :: t0).toArray e1) :: (it, liObj x (j + 1)) :: M)) (.cons _ (.refl _))
          have hobj := kg2 _ (.head _) (S5.out0 (.refl _))
          have hfr := (S5.nw _ (.head _)).2.2
          have hnt : Value.ref Tn ∉ t0 := fun hm => by
            obtain ⟨⟨T, e, u, hT, hTo⟩, _⟩ := X.ents _ (.tail _ hm)
            injection hT with hT
            rw [hT, hTo] at hfr; cases hfr
          have X2 := X.imp (En' := EnN ps xs G2) fun y p hp => (entN (w := w) ps xs).kp _ _ _ _ hp kg1
          have hnewE : EnN ps xs G2 (.ref Tn) (j, c) := ⟨⟨_, _, _, rfl, by rw [exj]; exact hobj⟩, ((hpc j hjl).keeps kG).keeps kg1⟩
          have hbb : flp true (psLt ps) j (dc r0).1 = true := hlt
          have hkh := S6.kept.hide (ms := [D]) (by intro b hb; simp at hb; rw [hb]; exact (S6.nw _ (.head _)).2.2)
          refine heapreplace_ok (GG.keeps kg1).toGl S6.kept (S6.nw _ (.head _)).2.2 (by walk_at "l") (by walk_at "l") S6.gn (S6.at (.head _)) (X2.join (entN ps xs) hnt hnewE hkh) (fun y hy => hy) (Nat.lt_trans (Nat.lt_of_le_of_lt (Nat.le_of_eq hl) hy64) (by decide)) ?_
          intro s7 k1 k2 k3 k4
          have X3 := X2.swap (c' := c - 1) (psLt_wa ps) hnt hnewE hbb rfl
          have S7 := S6.turnBut 0 rfl k1 k2 k3 k4
          dsimp only [List.set_cons_zero] at S7
          have hlen3 := (sup_perm (lt := Mine.hlt true fun y z => pyl (psLt ps) ((fun v => if v = Value.ref Tn then (j, c) else dc v) y) ((fun v => if v = Value.ref Tn then (j, c) else dc v) z)) (pos := 0) (xs := Value.ref Tn :: t0)).length_eq
          have S8 : St G2 L [(Str.ofString "result", .ref D), (Str.ofString "top", xs.getD (dc r0).1 .none), (Str.ofString "order", .int c tc), (Str.ofString "_heapreplace", hr)]
              ((D, seqObj "list" (sup (Mine.hlt true fun y z => pyl (psLt ps) ((fun v => if v = Value.ref Tn then (j, c) else dc v) y) ((fun v => if v = Value.ref Tn then (j, c) else dc v) z)) 0 (Value.ref Tn :: t0)).toArray e1) :: (it, liObj x (j + 1)) :: M) o s7 := S7.weak rfl
          clear S7 k2 k1 k3 k4
          generalize hH3 : sup (Mine.hlt true fun y z => pyl (psLt ps) ((fun v => if v = Value.ref Tn then (j, c) else dc v) y) ((fun v => if v = Value.ref Tn then (j, c) else dc v) z)) 0 (Value.ref Tn :: t0) = H3 at X3 hlen3 S8
          clear hH3
          generalize (fun v => if v = Value.ref Tn then (j, c) else dc v) = dc3 at X3
          obtain ⟨r1, t1, rfl⟩ : ∃ r1 t1, H3 = r1 :: t1 := by
            cases H3 with
            | nil => simp at hlen3
            | cons a b => exact ⟨a, b, rfl⟩
          obtain ⟨⟨T1, eT1, to1, hr1, ho1⟩, _⟩ := X3.ents r1 (.head _)
          clear S S1 S4 S5 S6
          refine x_cons ?_
          refine Assign_Tuple ?_
          repeat (walk_at "e")
          rename St _ _ _ _ _ _ => S9
          refine i_list (n := 0) (S9.at (.head _)) rfl (by walk_at "l") rfl ?_
          rw [hr1]
          refine as_tup (items := [xs.getD (dc3 r1).1 .none, .int (dc3 r1).2 to1]) hh S9 (S9.kept _ _ ho1) ?_
          intro s10 S10
          refine assignInOrder_cons (wpAny_assign_Name (s_loc S10 ?_))
          intro s11 S11
          refine assignInOrder_cons (wpAny_assign_Name (s_loc S11 ?_))
          intro s12 S12
          refine assignInOrder_nil ?_
          walk_at "put"
          refine x_cons ?_
          refine wpAny_AugAssign_Name (n_loc S12 rfl ?_)
          repeat (walk_at "e")
          rename St _ _ _ _ _ _ => S14
          refine ia_sub S14 ?_
          intro tc' s15 S15
          repeat (walk_at "1")
          rename St _ _ _ _ _ _ => S16
          exact hQ₁ _ _ ⟨xs.length - (j + 1), by walk_at "l", j + 1, _, G2, r1, t1, dc3, c - 1, tc', e1, rfl, by walk_at "l", .inl rfl, kG.trans kg1, X3, by simp at hlen3 hl ⊢; lia, S16.weak rfl⟩
        · repeat (walk_at "1")
          have hbb : flp true (psLt ps) j (dc r0).1 = false := hlt
          exact hQ₁ _ _ ⟨xs.length - (j + 1), by walk_at "l", j + 1, _, G', r0, t0, dc, c, tc, e1, rfl, by walk_at "l", .inl rfl, kG, X.keep (psLt_wa ps) hbb, hl, S4.weak rfl⟩
    · rintro s3 ⟨io', G', r0, t0, dc, c, tc, e1, kG, X, hl, S⟩
      subst hM
      repeat (walk_at "1")
      refine methodCall_KW ?_
      repeat (walk_at "1")
      refine m_list PySem.F.slot_list_sort PySem.F.type_list_sort (S.at (.head _)) ?_
      refine callWith_kw0 ?_
      refine kws_cons ?_
      repeat (walk_at "1")
      refine kws_nil ?_
      refine c_sort (T := pTree D true) (S.at (.head _)) (args_list_sort_rev _ _) (pt1 D true) ?_
      refine sort_plain (A := A.in1) (m := 6) (Lt := eLt (psLt ps) dc (r0 :: t0)) (kind := tuples' false) S 0 rfl (Nat.lt_of_le_of_lt (Nat.le_of_eq hl) hy64) (by show A.units + 1 + 6 < _; lia) (eLt_wo (psLt_wa ps) _) (fun _ => (entN ps xs).kd _ _ (fun y hy => ⟨_, X.ents y hy⟩) (by simp)) (X.sortLt (entN ps xs)) ?_
      intro out e3 s4 hsb S4
      refine ⟨_, rfl, ?_⟩
      dsimp only [List.set_cons_zero] at S4
      have hfin := X.done (psLt_wa ps) hsb hfull
      have hmem : ∀ y ∈ out, EnN ps xs G' y (dc y) := fun y hy => by
        obtain ⟨σ, h1, h2, h3, _⟩ := hsb
        obtain ⟨i, hi⟩ := List.getElem?_of_mem hy
        have hil := (List.getElem?_eq_some_iff.mp hi).1
        rw [h3 i (by walk_at "l")] at hi
        exact X.ents y (List.mem_of_getElem? hi)
      have hol : out.length = ys.length := by obtain ⟨σ, h1, _⟩ := hsb; lia
      clear X hsb S
      repeat (walk_at "1")
      obtain ⟨G2, kg1, kg2, kg3, S5⟩ := S4.rebase (N' := [(L + 1, oc), (130, ob)]) (.cons _ (.cons _ (.refl _)))
      have hobj := kg2 _ (.head _) (S4.out0 (.cons _ (.refl _)))
      refine w_comp (cl := []) ?_
      repeat (walk_at "1")
      refine i_lst S5 (S5.kept _ _ hobj) ?_
      intro it' s6 S6
      refine ⟨_, _, _, _, _, loops_list hh S6 ⟨_, _, hobj, rfl⟩ (fun k _ zs N => zs = (out.take k).map (fun y => xs.getD (dc y).1 .none) ∧ N = [(L + 1, oc), (130, ob)]) (fun _ _ => ⟨rfl, rfl⟩) ?_ ?_⟩
      · intro k D' C G3 zs e N s7 v hv kG3 hI₁ S7 P₁ hP₁
        obtain ⟨rfl, rfl⟩ := hI₁
        obtain ⟨⟨T1, eT1, to1, hr1, ho1⟩, _⟩ := hmem v (List.mem_of_getElem? hv)
        subst hr1
        refine as_tup (items := [_, _]) hh S7 (S7.kept _ _ (kG3 _ _ (kg1 _ _ ho1))) ?_
        intro s8 S8
        refine assignInOrder_cons (wpAny_assign_Name (s_loc S8 ?_))
        intro s9 S9
        refine assignInOrder_cons (wpAny_assign_Name (s_loc S9 ?_))
        intro s10 S10
        refine assignInOrder_nil ?_
        walk_at "put"
        show wpAny _ _ (eval _ _) _ _ _
        repeat (walk_at "1")
        refine ap_list S10 0 rfl (by simp; exact Nat.le_trans (Nat.min_le_right _ _) (len_small hol hy64)) ?_
        intro s12 S12
        exact hP₁ _ ⟨G3, _, _, _, _, .refl _, ⟨by rw [List.take_add_one, hv]; simp, rfl⟩, S12⟩
      · rintro D' G3 zs e N G4 s7 ⟨rfl, rfl⟩ kg4 _ S7
        rw [List.take_length, ← hfin] at S7
        refine h G4 D' full e [] s7 ((kG.trans kg1).trans kg4) hfull ?_
        have et : full.take n.toNat = full.take (r0 :: t0).length := by
          rw [hl, hys]
          by_cases hc : n.toNat ≤ xs.length
          · rw [Nat.min_eq_left hc]
          · have hfl : full.length = xs.length := by obtain ⟨σ, h1, _⟩ := hfull; exact h1
            rw [Nat.min_eq_right (by walk_at "l"), List.take_of_length_le (by walk_at "l"), List.take_of_length_le (by walk_at "l")]
        rw [et]
        exact (S7.less (.cons_cons _ (.cons _ (.cons _ (.refl _))))).weak rfl
end

section
variable {w : World} {A : Around} {E : Value → Shared → Prop} {s : Shared} {g g₀ : Heap} {L : Addr} {l : List (Str × Value)} {N : List (Addr × Obj)} {o : OsState} {mg mb : Str → Option Value} {K : Frag} {x : Addr} {xs : List Value}
set_option maxHeartbeats 1000000
theorem call_ks {ps : List (Str × Str)} {a n : Int} {tn : Tok} {ob : Obj} {q al : Addr} {asked : List Value} {ea : Nat} {kf : Value → Int} {Pv : Value → Prop} {fd : FuncData} {Q : Value → Shared → Prop} (G : Gw K mg mb g₀) (Kp : Keeps g₀ s.heap) (h130 : g₀.get? 130 = none) (hal : g₀.get? al = none) (hne : (130 : Nat) ≠ al)
    (r : Row K (hideAll s.heap [130, al]) x xs ps a) (hob : s.heap.get? 130 = some ob) (hT : Tab ob) (hask : s.heap.get? al = some (seqObj "list" asked.toArray ea)) (hza : asked.length ≤ 100) (hh : A.handled = none) (hd : A.depth + 40 < recursionLimit) (hu : A.units + 200 < cLine) (hg : AllBare s.gens)
    (C : KeyOk w (hideAll s.heap [130, al]) (.ref q) al kf Pv) (hP : ∀ v ∈ xs, Pv v) (hq : (hideAll s.heap [130, al]).get? q = some { cls := .type "function", data := .func fd }) (hxs : 2 ≤ xs.length) (hn : n < 1000) (hn2 : -1000 < n)
    (h : ∀ rl out e e' ob' s', SortedBy (kLt kf xs) xs out → s.heap.get? rl = none → KeepsBut [130, al] s.heap s'.heap → s'.heap.get? rl = some (seqObj "list" (out.take n.toNat).toArray e) →
      s'.heap.get? al = some (seqObj "list" (asked ++ (if 0 < n ∨ a + sizeOf' ps ≤ n then xs else [])).toArray e') → s'.heap.get? 130 = some ob' → Tab ob' → s'.os = s.os → AllBare s'.gens → Q (.ref rl) s') :
    wpAny (model prog w) A (call (.ref 83) [.int n tn, .ref x, .ref q]) Q E s := by
  have Kg : Keeps g₀ (hideAll s.heap [130, al]) := Kp.hide (by intro b hb; simp at hb; rcases hb with rfl | rfl; exact h130; exact hal)
  have Gg := G.keeps Kg
  obtain ⟨_, _, d1, d2⟩ := G.d78
  refine call_fn_c (N := [(130, ob), (al, seqObj "list" asked.toArray ea)]) (binds := [(Str.ofString "n", .int n tn), (Str.ofString "iterable", .ref x), (Str.ofString "key", .ref q)]) (lb := [(Str.ofString "n", .int n tn), (Str.ofString "iterable", .ref x)]) G.lim Kp G.f83 (by walk_at "l")
    (by intro p hp; simp at hp; rcases hp with rfl | rfl; exact hob; exact hask) hg rfl (.of_defaults rfl (Kp _ _ d1) d2 rfl rfl) rfl (fun _ => rfl) rfl (fun _ => rfl) (by simpa using hne) ?_
  intro L s₁ M hM S
  obtain ⟨oc, rfl, hoc⟩ := one_cell (c := L + 1) (d := .cell (some (.ref q))) hM
  clear hM
  simp only [List.cons_append, List.nil_append, List.map_cons, List.map_nil] at S
  repeat (walk_at "1")
  rename St _ _ _ _ _ _ => S
  refine ite_dec (fun hn1 => ?_) (fun hn1 => ?_)
  · repeat (walk_at "1")
    refine e_blt S Gg.gs Gg.bs Gg.itr0 Gg.itr1 ?_
    repeat (walk_at "1")
    refine c_iter Gg r S ?_
    intro it s₂ S
    repeat (walk_at "1")
    rename St _ _ _ _ _ _ => S
    refine e_blt S Gg.gs Gg.bs Gg.obj0 Gg.obj1 ?_
    refine callWith_type0 (c_object S ?_)
    intro so s₃ S
    repeat (walk_at "1")
    rename St _ _ _ _ _ _ => S
    refine Call_kw (e_blt S Gg.gs Gg.bs Gg.min0 Gg.min1 ?_)
    refine callWith_kw ?_
    repeat (walk_at "1")
    refine kws_cons ?_
    repeat (walk_at "1")
    refine kws_cons ?_
    refine e_cell S 2 rfl hoc ?_
    refine kws_nil ?_
    have S' : St (hideAll s.heap [130, al]) L [(Str.ofString "n", .int n tn), (Str.ofString "iterable", .ref x), (Str.ofString "it", .ref it), (Str.ofString "sentinel", .ref so)] ((it, liObj x 0) :: (al, seqObj "list" asked.toArray ea) :: [(so, objObj), (L + 1, oc), (130, ob)]) s.os _ := (S.pick 4 (by simp)).pick 2 (by simp)
    refine c_min_key (A := A.deeper _) (d := .ref so) (asked := asked) hh (dd hd (by decide)) (du hu (by decide)) (r.seq (.refl _)) r.few (by walk_at "l") (by intro q; rw [q] at hxs; simp at hxs) C hP S' ?_
    intro i e s₄ hi hL S
    repeat (walk_at "1")
    obtain ⟨T, eT, ta, tb, hx1, hx2⟩ := r.pcs.2 i (xs.getD i .none) (ps.getD i default) (by simp [List.getD, List.getElem?_eq_getElem hi]) (by simp [List.getD, List.getElem?_eq_getElem (r.pcs.1 ▸ hi)])
    rename St _ _ _ _ _ _ => S
    rw [hx1]
    refine is_two (S.kept _ _ hx2) (S.at (.tail _ (.tail _ (.head _)))) ?_
    repeat (walk_at "w")
    rename St _ _ _ _ _ _ => S
    obtain ⟨out, hout⟩ := sorted_exists (vs := xs) (kLt_wo kf xs _)
    show Q (.ref _) _
    refine h _ out _ _ ob _ hout (S.isNew (p := (_, seqObj "list" [xs.getD i .none].toArray 0)) (.head _) ?_) S.keepsBut (by rw [hn1, show (1 : Int).toNat = 1 from rfl, Least.out (kLt_wo kf xs _) hL hout]; exact S.at (.head _)) (by rw [if_pos (.inl (by walk_at "l"))]; exact S.at (.tail _ (.tail _ (.head _)))) (S.at (by repeat first | exact .head _ | apply List.Mem.tail)) hT S.os S.gn
    exact nin2 (by first | exact S.apart 0 1 rfl rfl (by decide) | exact S.apart 0 2 rfl rfl (by decide) | exact S.apart 0 3 rfl rfl (by decide) | exact S.apart 0 4 rfl rfl (by decide) | exact S.apart 0 5 rfl rfl (by decide) | exact S.apart 0 6 rfl rfl (by decide) | exact S.apart 0 7 rfl rfl (by decide) | exact S.apart 0 8 rfl rfl (by decide)) (by first | exact S.apart 0 1 rfl rfl (by decide) | exact S.apart 0 2 rfl rfl (by decide) | exact S.apart 0 3 rfl rfl (by decide) | exact S.apart 0 4 rfl rfl (by decide) | exact S.apart 0 5 rfl rfl (by decide) | exact S.apart 0 6 rfl rfl (by decide) | exact S.apart 0 7 rfl rfl (by decide) | exact S.apart 0 8 rfl rfl (by decide))
  · repeat (walk_at "1")
    refine wpAny_Try_except ?_
    repeat (walk_at "1")
    rename St _ _ _ _ _ _ => S
    refine e_blt S Gg.gs Gg.bs Gg.len0 Gg.len1 ?_
    repeat (walk_at "1")
    refine c_lenrow (A := A.deeper _) Gg r S 1 rfl hT hh (dd hd (by decide)) ?_
    intro tl s₂ ob' hT' S
    repeat (walk_at "1")
    rename St _ _ _ _ _ _ => S
    refine ite_dec (fun hsz => ?_) (fun hsz => ?_)
    · repeat (walk_at "1")
      rename St _ _ _ _ _ _ => S
      refine Call_kw (e_blt S Gg.gs Gg.bs Gg.srt0 Gg.srt1 ?_)
      refine callWith_kw ?_
      repeat (walk_at "1")
      refine kws_cons ?_
      refine e_cell S 0 rfl hoc ?_
      refine kws_nil ?_
      refine c_sorted_key (A := A.deeper _) (b := false) Gg r S 1 2 (by decide) rfl hT' rfl (by walk_at "l") hh (dd hd (by decide)) (du hu (by decide)) C hP ?_
      intro rl out e e'' ob2 s₃ hsb hT2 S
      refine e_slice_up ?_
      repeat (walk_at "1")
      refine ⟨_, _, _, _, _, S, ?_⟩
      intro sl s₄ S
      have hnn : 0 ≤ n := by have := sizeOf_nonneg ps; have := r.first; lia
      refine tail_up S (S.at (.tail _ (.head _))) (S.at (.head _)) hnn (by obtain ⟨_, h1, _⟩ := hsb; have := r.few; lia) ?_
      intro rr s₅ S
      show Q (.ref _) _
      refine h rr out 0 e'' ob2 s₅ hsb (S.isNew (p := (rr, seqObj "list" (out.take n.toNat).toArray 0)) (.head _) ?_) S.keepsBut (S.at (.head _)) (by rw [if_pos (.inr (by walk_at "l"))]; exact S.at (by repeat first | exact .head _ | apply List.Mem.tail)) (S.at (by repeat first | exact .head _ | apply List.Mem.tail)) hT2 S.os S.gn
      exact nin2 (by first | exact S.apart 0 1 rfl rfl (by decide) | exact S.apart 0 2 rfl rfl (by decide) | exact S.apart 0 3 rfl rfl (by decide) | exact S.apart 0 4 rfl rfl (by decide) | exact S.apart 0 5 rfl rfl (by decide) | exact S.apart 0 6 rfl rfl (by decide) | exact S.apart 0 7 rfl rfl (by decide) | exact S.apart 0 8 rfl rfl (by decide)) (by first | exact S.apart 0 1 rfl rfl (by decide) | exact S.apart 0 2 rfl rfl (by decide) | exact S.apart 0 3 rfl rfl (by decide) | exact S.apart 0 4 rfl rfl (by decide) | exact S.apart 0 5 rfl rfl (by decide) | exact S.apart 0 6 rfl rfl (by decide) | exact S.apart 0 7 rfl rfl (by decide) | exact S.apart 0 8 rfl rfl (by decide))
    · repeat (walk_at "1")
      refine e_cell S 0 rfl hoc ?_
      repeat (walk_at "w")
      rename St _ _ _ _ _ _ => S
      refine e_blt S Gg.gs Gg.bs Gg.itr0 Gg.itr1 ?_
      repeat (walk_at "1")
      refine c_iter Gg r S ?_
      intro it s₃ S
      repeat (walk_at "1")
      rename St _ _ _ _ _ _ => S
      have hh' : (A.deeper (nsEnv L)).handled = none := hh
      refine comp_ks (A := A.deeper (nsEnv L)) (q := q) (fd := fd) (kf := kf) (Pv := Pv) Gg r hh' (dd hd (by decide)) (du hu (by decide)) C hP hq hza hn hn2 hoc (S.weak rfl) ?_
      intro G2 D ys e1 e2 io s4 kg hys hE hio S4
      refine tail_ks (A := A.deeper (nsEnv L)) (q := q) (fd := fd) (kf := kf) (Pv := Pv) (Gg.keeps kg) (r.keeps kg) hh' (dd hd (by decide)) (du hu (by decide)) (C.keeps kg) hP (kg _ _ hq) hza hxs hn hn2 hoc hys hE hio S4 ?_
      intro G3 R out e3 e4 l' s5 kg2 hsb S5
      show Q (.ref _) _
      have hcond : (0 < n ∨ a + sizeOf' ps ≤ n) ↔ 0 < n := by have := sizeOf_nonneg ps; have := r.first; lia
      refine h R out e3 e4 ob' s5 hsb (S5.isNew' (kg.trans kg2) (p := (R, _)) (.head _) ?_) (S5.keepsBut' (kg.trans kg2)) (S5.at (.head _)) (by simp only [hcond]; exact S5.at (.tail _ (.head _))) (S5.at (by repeat first | exact .head _ | apply List.Mem.tail)) hT' S5.os S5.gn
      exact nin2 (by first | exact S5.apart 0 1 rfl rfl (by decide) | exact S5.apart 0 2 rfl rfl (by decide) | exact S5.apart 0 3 rfl rfl (by decide) | exact S5.apart 0 4 rfl rfl (by decide) | exact S5.apart 0 5 rfl rfl (by decide) | exact S5.apart 0 6 rfl rfl (by decide) | exact S5.apart 0 7 rfl rfl (by decide) | exact S5.apart 0 8 rfl rfl (by decide)) (by first | exact S5.apart 0 1 rfl rfl (by decide) | exact S5.apart 0 2 rfl rfl (by decide) | exact S5.apart 0 3 rfl rfl (by decide) | exact S5.apart 0 4 rfl rfl (by decide) | exact S5.apart 0 5 rfl rfl (by decide) | exact S5.apart 0 6 rfl rfl (by decide) | exact S5.apart 0 7 rfl rfl (by decide) | exact S5.apart 0 8 rfl rfl (by decide))
end

section
variable {w : World} {A : Around} {E : Value → Shared → Prop} {s : Shared} {g g₀ : Heap} {L : Addr} {l : List (Str × Value)} {N : List (Addr × Obj)} {o : OsState} {mg mb : Str → Option Value} {K : Frag} {x : Addr} {xs : List Value}
set_option maxHeartbeats 1000000
theorem call_kl {ps : List (Str × Str)} {a n : Int} {tn : Tok} {ob : Obj} {q al : Addr} {asked : List Value} {ea : Nat} {kf : Value → Int} {Pv : Value → Prop} {fd : FuncData} {Q : Value → Shared → Prop} (G : Gw K mg mb g₀) (Kp : Keeps g₀ s.heap) (h130 : g₀.get? 130 = none) (hal : g₀.get? al = none) (hne : (130 : Nat) ≠ al)
    (r : Row K (hideAll s.heap [130, al]) x xs ps a) (hob : s.heap.get? 130 = some ob) (hT : Tab ob) (hask : s.heap.get? al = some (seqObj "list" asked.toArray ea)) (hza : asked.length ≤ 100) (hh : A.handled = none) (hd : A.depth + 40 < recursionLimit) (hu : A.units + 200 < cLine) (hg : AllBare s.gens)
    (C : KeyOk w (hideAll s.heap [130, al]) (.ref q) al kf Pv) (hP : ∀ v ∈ xs, Pv v) (hq : (hideAll s.heap [130, al]).get? q = some { cls := .type "function", data := .func fd }) (hxs : 2 ≤ xs.length) (hn : n < 1000) (hn2 : -1000 < n)
    (h : ∀ rl out e e' ob' s', SortedBy (flp true (kLt kf xs)) xs out → s.heap.get? rl = none → KeepsBut [130, al] s.heap s'.heap → s'.heap.get? rl = some (seqObj "list" (out.take n.toNat).toArray e) →
      s'.heap.get? al = some (seqObj "list" (asked ++ (if 0 < n ∨ a + sizeOf' ps ≤ n then xs else [])).toArray e') → s'.heap.get? 130 = some ob' → Tab ob' → s'.os = s.os → AllBare s'.gens → Q (.ref rl) s') :
    wpAny (model prog w) A (call (.ref 89) [.int n tn, .ref x, .ref q]) Q E s := by
  have Kg : Keeps g₀ (hideAll s.heap [130, al]) := Kp.hide (by intro b hb; simp at hb; rcases hb with rfl | rfl; exact h130; exact hal)
  have Gg := G.keeps Kg
  obtain ⟨_, _, d1, d2⟩ := G.d84
  refine call_fn_c (N := [(130, ob), (al, seqObj "list" asked.toArray ea)]) (binds := [(Str.ofString "n", .int n tn), (Str.ofString "iterable", .ref x), (Str.ofString "key", .ref q)]) (lb := [(Str.ofString "n", .int n tn), (Str.ofString "iterable", .ref x)]) G.lim Kp G.f89 (by walk_at "l")
    (by intro p hp; simp at hp; rcases hp with rfl | rfl; exact hob; exact hask) hg rfl (.of_defaults rfl (Kp _ _ d1) d2 rfl rfl) rfl (fun _ => rfl) rfl (fun _ => rfl) (by simpa using hne) ?_
  intro L s₁ M hM S
  obtain ⟨oc, rfl, hoc⟩ := one_cell (c := L + 1) (d := .cell (some (.ref q))) hM
  clear hM
  simp only [List.cons_append, List.nil_append, List.map_cons, List.map_nil] at S
  repeat (walk_at "1")
  rename St _ _ _ _ _ _ => S
  refine ite_dec (fun hn1 => ?_) (fun hn1 => ?_)
  · repeat (walk_at "1")
    refine e_blt S Gg.gs Gg.bs Gg.itr0 Gg.itr1 ?_
    repeat (walk_at "1")
    refine c_iter Gg r S ?_
    intro it s₂ S
    repeat (walk_at "1")
    rename St _ _ _ _ _ _ => S
    refine e_blt S Gg.gs Gg.bs Gg.obj0 Gg.obj1 ?_
    refine callWith_type0 (c_object S ?_)
    intro so s₃ S
    repeat (walk_at "1")
    rename St _ _ _ _ _ _ => S
    refine Call_kw (e_blt S Gg.gs Gg.bs Gg.max0 Gg.max1 ?_)
    refine callWith_kw ?_
    repeat (walk_at "1")
    refine kws_cons ?_
    repeat (walk_at "1")
    refine kws_cons ?_
    refine e_cell S 2 rfl hoc ?_
    refine kws_nil ?_
    have S' : St (hideAll s.heap [130, al]) L [(Str.ofString "n", .int n tn), (Str.ofString "iterable", .ref x), (Str.ofString "it", .ref it), (Str.ofString "sentinel", .ref so)] ((it, liObj x 0) :: (al, seqObj "list" asked.toArray ea) :: [(so, objObj), (L + 1, oc), (130, ob)]) s.os _ := (S.pick 4 (by simp)).pick 2 (by simp)
    refine c_max_key (A := A.deeper _) (d := .ref so) (asked := asked) hh (dd hd (by decide)) (du hu (by decide)) (r.seq (.refl _)) r.few (by walk_at "l") (by intro q; rw [q] at hxs; simp at hxs) C hP S' ?_
    intro i e s₄ hi hL S
    repeat (walk_at "1")
    obtain ⟨T, eT, ta, tb, hx1, hx2⟩ := r.pcs.2 i (xs.getD i .none) (ps.getD i default) (by simp [List.getD, List.getElem?_eq_getElem hi]) (by simp [List.getD, List.getElem?_eq_getElem (r.pcs.1 ▸ hi)])
    rename St _ _ _ _ _ _ => S
    rw [hx1]
    refine is_two (S.kept _ _ hx2) (S.at (.tail _ (.tail _ (.head _)))) ?_
    repeat (walk_at "w")
    rename St _ _ _ _ _ _ => S
    obtain ⟨out, hout⟩ := sorted_exists (vs := xs) ((kLt_wa kf xs).flp true _)
    show Q (.ref _) _
    refine h _ out _ _ ob _ hout (S.isNew (p := (_, seqObj "list" [xs.getD i .none].toArray 0)) (.head _) ?_) S.keepsBut (by rw [hn1, show (1 : Int).toNat = 1 from rfl, Least.out ((kLt_wa kf xs).flp true _) hL hout]; exact S.at (.head _)) (by rw [if_pos (.inl (by walk_at "l"))]; exact S.at (.tail _ (.tail _ (.head _)))) (S.at (by repeat first | exact .head _ | apply List.Mem.tail)) hT S.os S.gn
    exact nin2 (by first | exact S.apart 0 1 rfl rfl (by decide) | exact S.apart 0 2 rfl rfl (by decide) | exact S.apart 0 3 rfl rfl (by decide) | exact S.apart 0 4 rfl rfl (by decide) | exact S.apart 0 5 rfl rfl (by decide) | exact S.apart 0 6 rfl rfl (by decide) | exact S.apart 0 7 rfl rfl (by decide) | exact S.apart 0 8 rfl rfl (by decide)) (by first | exact S.apart 0 1 rfl rfl (by decide) | exact S.apart 0 2 rfl rfl (by decide) | exact S.apart 0 3 rfl rfl (by decide) | exact S.apart 0 4 rfl rfl (by decide) | exact S.apart 0 5 rfl rfl (by decide) | exact S.apart 0 6 rfl rfl (by decide) | exact S.apart 0 7 rfl rfl (by decide) | exact S.apart 0 8 rfl rfl (by decide))
  · repeat (walk_at "1")
    refine wpAny_Try_except ?_
    repeat (walk_at "1")
    rename St _ _ _ _ _ _ => S
    refine e_blt S Gg.gs Gg.bs Gg.len0 Gg.len1 ?_
    repeat (walk_at "1")
    refine c_lenrow (A := A.deeper _) Gg r S 1 rfl hT hh (dd hd (by decide)) ?_
    intro tl s₂ ob' hT' S
    repeat (walk_at "1")
    rename St _ _ _ _ _ _ => S
    refine ite_dec (fun hsz => ?_) (fun hsz => ?_)
    · repeat (walk_at "1")
      rename St _ _ _ _ _ _ => S
      refine Call_kw (e_blt S Gg.gs Gg.bs Gg.srt0 Gg.srt1 ?_)
      refine callWith_kw ?_
      repeat (walk_at "1")
      refine kws_cons ?_
      refine e_cell S 0 rfl hoc ?_
      refine kws_cons ?_
      repeat (walk_at "1")
      refine kws_nil ?_
      refine c_sorted_key (A := A.deeper _) (b := true) Gg r S 1 2 (by decide) rfl hT' rfl (by walk_at "l") hh (dd hd (by decide)) (du hu (by decide)) C hP ?_
      intro rl out e e'' ob2 s₃ hsb hT2 S
      refine e_slice_up ?_
      repeat (walk_at "1")
      refine ⟨_, _, _, _, _, S, ?_⟩
      intro sl s₄ S
      have hnn : 0 ≤ n := by have := sizeOf_nonneg ps; have := r.first; lia
      refine tail_up S (S.at (.tail _ (.head _))) (S.at (.head _)) hnn (by obtain ⟨_, h1, _⟩ := hsb; have := r.few; lia) ?_
      intro rr s₅ S
      show Q (.ref _) _
      refine h rr out 0 e'' ob2 s₅ hsb (S.isNew (p := (rr, seqObj "list" (out.take n.toNat).toArray 0)) (.head _) ?_) S.keepsBut (S.at (.head _)) (by rw [if_pos (.inr (by walk_at "l"))]; exact S.at (by repeat first | exact .head _ | apply List.Mem.tail)) (S.at (by repeat first | exact .head _ | apply List.Mem.tail)) hT2 S.os S.gn
      exact nin2 (by first | exact S.apart 0 1 rfl rfl (by decide) | exact S.apart 0 2 rfl rfl (by decide) | exact S.apart 0 3 rfl rfl (by decide) | exact S.apart 0 4 rfl rfl (by decide) | exact S.apart 0 5 rfl rfl (by decide) | exact S.apart 0 6 rfl rfl (by decide) | exact S.apart 0 7 rfl rfl (by decide) | exact S.apart 0 8 rfl rfl (by decide)) (by first | exact S.apart 0 1 rfl rfl (by decide) | exact S.apart 0 2 rfl rfl (by decide) | exact S.apart 0 3 rfl rfl (by decide) | exact S.apart 0 4 rfl rfl (by decide) | exact S.apart 0 5 rfl rfl (by decide) | exact S.apart 0 6 rfl rfl (by decide) | exact S.apart 0 7 rfl rfl (by decide) | exact S.apart 0 8 rfl rfl (by decide))
    · repeat (walk_at "1")
      refine e_cell S 0 rfl hoc ?_
      repeat (walk_at "w")
      rename St _ _ _ _ _ _ => S
      refine e_blt S Gg.gs Gg.bs Gg.itr0 Gg.itr1 ?_
      repeat (walk_at "1")
      refine c_iter Gg r S ?_
      intro it s₃ S
      repeat (walk_at "1")
      rename St _ _ _ _ _ _ => S
      have hh' : (A.deeper (nlEnv L)).handled = none := hh
      refine comp_kl (A := A.deeper (nlEnv L)) (q := q) (fd := fd) (kf := kf) (Pv := Pv) Gg r hh' (dd hd (by decide)) (du hu (by decide)) C hP hq hza hn hn2 hoc (S.weak rfl) ?_
      intro G2 D ys e1 e2 io s4 kg hys hE hio S4
      refine tail_kl (A := A.deeper (nlEnv L)) (q := q) (fd := fd) (kf := kf) (Pv := Pv) (Gg.keeps kg) (r.keeps kg) hh' (dd hd (by decide)) (du hu (by decide)) (C.keeps kg) hP (kg _ _ hq) hza hxs hn hn2 hoc hys hE hio S4 ?_
      intro G3 R out e3 e4 l' s5 kg2 hsb S5
      show Q (.ref _) _
      have hcond : (0 < n ∨ a + sizeOf' ps ≤ n) ↔ 0 < n := by have := sizeOf_nonneg ps; have := r.first; lia
      refine h R out e3 e4 ob' s5 hsb (S5.isNew' (kg.trans kg2) (p := (R, _)) (.head _) ?_) (S5.keepsBut' (kg.trans kg2)) (S5.at (.head _)) (by simp only [hcond]; exact S5.at (.tail _ (.head _))) (S5.at (by repeat first | exact .head _ | apply List.Mem.tail)) hT' S5.os S5.gn
      exact nin2 (by first | exact S5.apart 0 1 rfl rfl (by decide) | exact S5.apart 0 2 rfl rfl (by decide) | exact S5.apart 0 3 rfl rfl (by decide) | exact S5.apart 0 4 rfl rfl (by decide) | exact S5.apart 0 5 rfl rfl (by decide) | exact S5.apart 0 6 rfl rfl (by decide) | exact S5.apart 0 7 rfl rfl (by decide) | exact S5.apart 0 8 rfl rfl (by decide)) (by first | exact S5.apart 0 1 rfl rfl (by decide) | exact S5.apart 0 2 rfl rfl (by decide) | exact S5.apart 0 3 rfl rfl (by decide) | exact S5.apart 0 4 rfl rfl (by decide) | exact S5.apart 0 5 rfl rfl (by decide) | exact S5.apart 0 6 rfl rfl (by decide) | exact S5.apart 0 7 rfl rfl (by decide) | exact S5.apart 0 8 rfl rfl (by decide))
end

section
variable {w : World} {A : Around} {E : Value → Shared → Prop} {s : Shared} {g g₀ : Heap} {L : Addr} {l : List (Str × Value)} {N : List (Addr × Obj)} {o : OsState} {mg mb : Str → Option Value} {K : Frag} {x : Addr} {xs : List Value}
set_option maxHeartbeats 1000000
theorem call_ns {ps : List (Str × Str)} {a n : Int} {tn : Tok} {ob : Obj} {Q : Value → Shared → Prop} (G : Gw K mg mb g₀) (Kp : Keeps g₀ s.heap) (h130 : g₀.get? 130 = none)
    (r : Row K (hideAll s.heap [130]) x xs ps a) (hob : s.heap.get? 130 = some ob) (hT : Tab ob) (hh : A.handled = none) (hd : A.depth + 40 < recursionLimit) (hu : A.units + 200 < cLine) (hg : AllBare s.gens)
    (hxs : 2 ≤ xs.length) (hn : n < 1000) (hn2 : -1000 < n)
    (h : ∀ rl out e ob' s', SortedBy (psLt ps) xs out → s.heap.get? rl = none → KeepsBut [130] s.heap s'.heap → s'.heap.get? rl = some (seqObj "list" (out.take n.toNat).toArray e) →
      s'.heap.get? 130 = some ob' → Tab ob' → s'.os = s.os → AllBare s'.gens → Q (.ref rl) s') :
    wpAny (model prog w) A (call (.ref 83) [.int n tn, .ref x]) Q E s := by
  have Kg : Keeps g₀ (hideAll s.heap [130]) := Kp.hide (by intro b hb; simp at hb; rw [hb]; exact h130)
  have Gg := G.keeps Kg
  obtain ⟨_, _, d1, d2⟩ := G.d78
  refine call_fn_c (N := [(130, ob)]) (binds := [(Str.ofString "n", .int n tn), (Str.ofString "iterable", .ref x), (Str.ofString "key", .none)]) (lb := [(Str.ofString "n", .int n tn), (Str.ofString "iterable", .ref x)]) G.lim Kp G.f83 (by walk_at "l")
    (by intro p hp; simp at hp; subst hp; exact hob) hg rfl (.of_defaults rfl (Kp _ _ d1) d2 rfl rfl) rfl (fun _ => rfl) rfl (fun _ => rfl) (by simp) ?_
  intro L s₁ M hM S
  obtain ⟨oc, rfl, hoc⟩ := one_cell (c := L + 1) (d := .cell (some .none)) hM
  clear hM
  simp only [List.cons_append, List.nil_append, List.map_cons, List.map_nil] at S
  repeat (walk_at "1")
  rename St _ _ _ _ _ _ => S
  refine ite_dec (fun hn1 => ?_) (fun hn1 => ?_)
  · repeat (walk_at "1")
    refine e_blt S Gg.gs Gg.bs Gg.itr0 Gg.itr1 ?_
    repeat (walk_at "1")
    refine c_iter Gg r S ?_
    intro it s₂ S
    repeat (walk_at "1")
    rename St _ _ _ _ _ _ => S
    refine e_blt S Gg.gs Gg.bs Gg.obj0 Gg.obj1 ?_
    refine callWith_type0 (c_object S ?_)
    intro so s₃ S
    repeat (walk_at "1")
    rename St _ _ _ _ _ _ => S
    refine Call_kw (e_blt S Gg.gs Gg.bs Gg.min0 Gg.min1 ?_)
    refine callWith_kw ?_
    repeat (walk_at "1")
    refine kws_cons ?_
    repeat (walk_at "1")
    refine kws_cons ?_
    refine e_cell S 2 rfl hoc ?_
    refine kws_nil ?_
    have S' : St (hideAll s.heap [130]) L [(Str.ofString "n", .int n tn), (Str.ofString "iterable", .ref x), (Str.ofString "it", .ref it), (Str.ofString "sentinel", .ref so)] ((it, liObj x 0) :: [(so, objObj), (L + 1, oc), (130, ob)]) s.os _ := S.pick 1 (by simp)
    refine c_min_none (A := A.deeper _) (d := .ref so) (m := 2) (Lt := psLt ps) hh (du (m := 12) hu (by decide)) (let ⟨_, _, _, _, h1, _⟩ := r.at'; h1.seq) r.few (by intro q; rw [q] at hxs; simp at hxs) (psLt_wa ps _) (fun i j hi hj => pc_lt (r.pcs.atD hi) (r.pcs.atD hj)) S' ?_
    intro i s₄ hi hL S
    repeat (walk_at "1")
    obtain ⟨T, eT, ta, tb, hx1, hx2⟩ := r.pcs.2 i (xs.getD i .none) (ps.getD i default) (by simp [List.getD, List.getElem?_eq_getElem hi]) (by simp [List.getD, List.getElem?_eq_getElem (r.pcs.1 ▸ hi)])
    rename St _ _ _ _ _ _ => S
    rw [hx1]
    refine is_two (S.kept _ _ hx2) (S.at (.tail _ (.head _))) ?_
    repeat (walk_at "w")
    rename St _ _ _ _ _ _ => S
    obtain ⟨out, hout⟩ := sorted_exists (vs := xs) (psLt_wa ps _)
    show Q (.ref _) _
    refine h _ out _ ob _ hout (S.isNew (p := (_, seqObj "list" [xs.getD i .none].toArray 0)) (.head _) ?_) S.keepsBut (by rw [hn1, show (1 : Int).toNat = 1 from rfl, Least.out (psLt_wa ps _) hL hout]; exact S.at (.head _)) (S.at (by repeat first | exact .head _ | apply List.Mem.tail)) hT S.os S.gn
    exact nin1 (by first | exact S.apart 0 1 rfl rfl (by decide) | exact S.apart 0 2 rfl rfl (by decide) | exact S.apart 0 3 rfl rfl (by decide) | exact S.apart 0 4 rfl rfl (by decide) | exact S.apart 0 5 rfl rfl (by decide) | exact S.apart 0 6 rfl rfl (by decide) | exact S.apart 0 7 rfl rfl (by decide) | exact S.apart 0 8 rfl rfl (by decide))
  · repeat (walk_at "1")
    refine wpAny_Try_except ?_
    repeat (walk_at "1")
    rename St _ _ _ _ _ _ => S
    refine e_blt S Gg.gs Gg.bs Gg.len0 Gg.len1 ?_
    repeat (walk_at "1")
    refine c_lenrow (A := A.deeper _) Gg r S 1 rfl hT hh (dd hd (by decide)) ?_
    intro tl s₂ ob' hT' S
    repeat (walk_at "1")
    rename St _ _ _ _ _ _ => S
    refine ite_dec (fun hsz => ?_) (fun hsz => ?_)
    · repeat (walk_at "1")
      rename St _ _ _ _ _ _ => S
      refine Call_kw (e_blt S Gg.gs Gg.bs Gg.srt0 Gg.srt1 ?_)
      refine callWith_kw ?_
      repeat (walk_at "1")
      refine kws_cons ?_
      refine e_cell S 0 rfl hoc ?_
      refine kws_nil ?_
      refine c_sorted_none (A := A.deeper _) (b := false) (kind := tuples' true) (m := 0) (Lt := psLt ps) Gg r S 1 rfl hT' hh (dd hd (by decide)) (du (m := 10) hu (by decide)) (psLt_wa ps _) (fun h2 => pc_kind r.pcs h2) (fun i j y z hy hz => r.pcs.klt hy hz) ?_
      intro rl out e ob2 s₃ hsb hT2 S
      refine e_slice_up ?_
      repeat (walk_at "1")
      refine ⟨_, _, _, _, _, S, ?_⟩
      intro sl s₄ S
      have hnn : 0 ≤ n := by have := sizeOf_nonneg ps; have := r.first; lia
      refine tail_up S (S.at (.tail _ (.head _))) (S.at (.head _)) hnn (by obtain ⟨_, h1, _⟩ := hsb; have := r.few; lia) ?_
      intro rr s₅ S
      show Q (.ref _) _
      refine h rr out 0 ob2 s₅ hsb (S.isNew (p := (rr, seqObj "list" (out.take n.toNat).toArray 0)) (.head _) ?_) S.keepsBut (S.at (.head _)) (S.at (by repeat first | exact .head _ | apply List.Mem.tail)) hT2 S.os S.gn
      exact nin1 (by first | exact S.apart 0 1 rfl rfl (by decide) | exact S.apart 0 2 rfl rfl (by decide) | exact S.apart 0 3 rfl rfl (by decide) | exact S.apart 0 4 rfl rfl (by decide) | exact S.apart 0 5 rfl rfl (by decide) | exact S.apart 0 6 rfl rfl (by decide) | exact S.apart 0 7 rfl rfl (by decide) | exact S.apart 0 8 rfl rfl (by decide))
    · repeat (walk_at "1")
      refine e_cell S 0 rfl hoc ?_
      repeat (walk_at "w")
      rename St _ _ _ _ _ _ => S
      refine e_blt S Gg.gs Gg.bs Gg.itr0 Gg.itr1 ?_
      repeat (walk_at "1")
      refine c_iter Gg r S ?_
      intro it s₃ S
      repeat (walk_at "1")
      rename St _ _ _ _ _ _ => S
      have hh' : (A.deeper (nsEnv L)).handled = none := hh
      refine comp_ns (A := A.deeper (nsEnv L)) Gg r hh' (dd hd (by decide)) (du hu (by decide)) hn hn2 (S.weak rfl) ?_
      intro G2 D ys e1 e2 io s4 kg hys hE hio S4
      refine tail_ns (A := A.deeper (nsEnv L)) (Gg.keeps kg) (r.keeps kg) hh' (dd hd (by decide)) (du hu (by decide)) hxs hn hn2 hys hE hio S4 ?_
      intro G3 R out e3 l' s5 kg2 hsb S5
      show Q (.ref _) _
      refine h R out e3 ob' s5 hsb (S5.isNew' (kg.trans kg2) (p := (R, _)) (.head _) ?_) (S5.keepsBut' (kg.trans kg2)) (S5.at (.head _)) (S5.at (by repeat first | exact .head _ | apply List.Mem.tail)) hT' S5.os S5.gn
      exact nin1 (by first | exact S5.apart 0 1 rfl rfl (by decide) | exact S5.apart 0 2 rfl rfl (by decide) | exact S5.apart 0 3 rfl rfl (by decide) | exact S5.apart 0 4 rfl rfl (by decide) | exact S5.apart 0 5 rfl rfl (by decide) | exact S5.apart 0 6 rfl rfl (by decide) | exact S5.apart 0 7 rfl rfl (by decide) | exact S5.apart 0 8 rfl rfl (by decide))
end

section
variable {w : World} {A : Around} {E : Value → Shared → Prop} {s : Shared} {g g₀ : Heap} {L : Addr} {l : List (Str × Value)} {N : List (Addr × Obj)} {o : OsState} {mg mb : Str → Option Value} {K : Frag} {x : Addr} {xs : List Value}
set_option maxHeartbeats 1000000
theorem call_nl {ps : List (Str × Str)} {a n : Int} {tn : Tok} {ob : Obj} {Q : Value → Shared → Prop} (G : Gw K mg mb g₀) (Kp : Keeps g₀ s.heap) (h130 : g₀.get? 130 = none)
    (r : Row K (hideAll s.heap [130]) x xs ps a) (hob : s.heap.get? 130 = some ob) (hT : Tab ob) (hh : A.handled = none) (hd : A.depth + 40 < recursionLimit) (hu : A.units + 200 < cLine) (hg : AllBare s.gens)
    (hxs : 2 ≤ xs.length) (hn : n < 1000) (hn2 : -1000 < n)
    (h : ∀ rl out e ob' s', SortedBy (flp true (psLt ps)) xs out → s.heap.get? rl = none → KeepsBut [130] s.heap s'.heap → s'.heap.get? rl = some (seqObj "list" (out.take n.toNat).toArray e) →
      s'.heap.get? 130 = some ob' → Tab ob' → s'.os = s.os → AllBare s'.gens → Q (.ref rl) s') :
    wpAny (model prog w) A (call (.ref 89) [.int n tn, .ref x]) Q E s := by
  have Kg : Keeps g₀ (hideAll s.heap [130]) := Kp.hide (by intro b hb; simp at hb; rw [hb]; exact h130)
  have Gg := G.keeps Kg
  obtain ⟨_, _, d1, d2⟩ := G.d84
  refine call_fn_c (N := [(130, ob)]) (binds := [(Str.ofString "n", .int n tn), (Str.ofString "iterable", .ref x), (Str.ofString "key", .none)]) (lb := [(Str.ofString "n", .int n tn), (Str.ofString "iterable", .ref x)]) G.lim Kp G.f89 (by walk_at "l")
    (by intro p hp; simp at hp; subst hp; exact hob) hg rfl (.of_defaults rfl (Kp _ _ d1) d2 rfl rfl) rfl (fun _ => rfl) rfl (fun _ => rfl) (by simp) ?_
  intro L s₁ M hM S
  obtain ⟨oc, rfl, hoc⟩ := one_cell (c := L + 1) (d := .cell (some .none)) hM
  clear hM
  simp only [List.cons_append, List.nil_append, List.map_cons, List.map_nil] at S
  repeat (walk_at "1")
  rename St _ _ _ _ _ _ => S
  refine ite_dec (fun hn1 => ?_) (fun hn1 => ?_)
  · repeat (walk_at "1")
    refine e_blt S Gg.gs Gg.bs Gg.itr0 Gg.itr1 ?_
    repeat (walk_at "1")
    refine c_iter Gg r S ?_
    intro it s₂ S
    repeat (walk_at "1")
    rename St _ _ _ _ _ _ => S
    refine e_blt S Gg.gs Gg.bs Gg.obj0 Gg.obj1 ?_
    refine callWith_type0 (c_object S ?_)
    intro so s₃ S
    repeat (walk_at "1")
    rename St _ _ _ _ _ _ => S
    refine Call_kw (e_blt S Gg.gs Gg.bs Gg.max0 Gg.max1 ?_)
    refine callWith_kw ?_
    repeat (walk_at "1")
    refine kws_cons ?_
    repeat (walk_at "1")
    refine kws_cons ?_
    refine e_cell S 2 rfl hoc ?_
    refine kws_nil ?_
    have S' : St (hideAll s.heap [130]) L [(Str.ofString "n", .int n tn), (Str.ofString "iterable", .ref x), (Str.ofString "it", .ref it), (Str.ofString "sentinel", .ref so)] ((it, liObj x 0) :: [(so, objObj), (L + 1, oc), (130, ob)]) s.os _ := S.pick 1 (by simp)
    refine c_max_none (A := A.deeper _) (d := .ref so) (m := 2) (Lt := psLt ps) hh (du (m := 12) hu (by decide)) (let ⟨_, _, _, _, h1, _⟩ := r.at'; h1.seq) r.few (by intro q; rw [q] at hxs; simp at hxs) (psLt_wa ps _) (fun i j hi hj => pc_gt (r.pcs.atD hi) (r.pcs.atD hj)) S' ?_
    intro i s₄ hi hL S
    repeat (walk_at "1")
    obtain ⟨T, eT, ta, tb, hx1, hx2⟩ := r.pcs.2 i (xs.getD i .none) (ps.getD i default) (by simp [List.getD, List.getElem?_eq_getElem hi]) (by simp [List.getD, List.getElem?_eq_getElem (r.pcs.1 ▸ hi)])
    rename St _ _ _ _ _ _ => S
    rw [hx1]
    refine is_two (S.kept _ _ hx2) (S.at (.tail _ (.head _))) ?_
    repeat (walk_at "w")
    rename St _ _ _ _ _ _ => S
    obtain ⟨out, hout⟩ := sorted_exists (vs := xs) ((psLt_wa ps).flp true _)
    show Q (.ref _) _
    refine h _ out _ ob _ hout (S.isNew (p := (_, seqObj "list" [xs.getD i .none].toArray 0)) (.head _) ?_) S.keepsBut (by rw [hn1, show (1 : Int).toNat = 1 from rfl, Least.out ((psLt_wa ps).flp true _) hL hout]; exact S.at (.head _)) (S.at (by repeat first | exact .head _ | apply List.Mem.tail)) hT S.os S.gn
    exact nin1 (by first | exact S.apart 0 1 rfl rfl (by decide) | exact S.apart 0 2 rfl rfl (by decide) | exact S.apart 0 3 rfl rfl (by decide) | exact S.apart 0 4 rfl rfl (by decide) | exact S.apart 0 5 rfl rfl (by decide) | exact S.apart 0 6 rfl rfl (by decide) | exact S.apart 0 7 rfl rfl (by decide) | exact S.apart 0 8 rfl rfl (by decide))
  · repeat (walk_at "1")
    refine wpAny_Try_except ?_
    repeat (walk_at "1")
    rename St _ _ _ _ _ _ => S
    refine e_blt S Gg.gs Gg.bs Gg.len0 Gg.len1 ?_
    repeat (walk_at "1")
    refine c_lenrow (A := A.deeper _) Gg r S 1 rfl hT hh (dd hd (by decide)) ?_
    intro tl s₂ ob' hT' S
    repeat (walk_at "1")
    rename St _ _ _ _ _ _ => S
    refine ite_dec (fun hsz => ?_) (fun hsz => ?_)
    · repeat (walk_at "1")
      rename St _ _ _ _ _ _ => S
      refine Call_kw (e_blt S Gg.gs Gg.bs Gg.srt0 Gg.srt1 ?_)
      refine callWith_kw ?_
      repeat (walk_at "1")
      refine kws_cons ?_
      refine e_cell S 0 rfl hoc ?_
      refine kws_cons ?_
      repeat (walk_at "1")
      refine kws_nil ?_
      refine c_sorted_none (A := A.deeper _) (b := true) (kind := tuples' true) (m := 0) (Lt := psLt ps) Gg r S 1 rfl hT' hh (dd hd (by decide)) (du (m := 10) hu (by decide)) (psLt_wa ps _) (fun h2 => pc_kind r.pcs h2) (fun i j y z hy hz => r.pcs.klt hy hz) ?_
      intro rl out e ob2 s₃ hsb hT2 S
      refine e_slice_up ?_
      repeat (walk_at "1")
      refine ⟨_, _, _, _, _, S, ?_⟩
      intro sl s₄ S
      have hnn : 0 ≤ n := by have := sizeOf_nonneg ps; have := r.first; lia
      refine tail_up S (S.at (.tail _ (.head _))) (S.at (.head _)) hnn (by obtain ⟨_, h1, _⟩ := hsb; have := r.few; lia) ?_
      intro rr s₅ S
      show Q (.ref _) _
      refine h rr out 0 ob2 s₅ hsb (S.isNew (p := (rr, seqObj "list" (out.take n.toNat).toArray 0)) (.head _) ?_) S.keepsBut (S.at (.head _)) (S.at (by repeat first | exact .head _ | apply List.Mem.tail)) hT2 S.os S.gn
      exact nin1 (by first | exact S.apart 0 1 rfl rfl (by decide) | exact S.apart 0 2 rfl rfl (by decide) | exact S.apart 0 3 rfl rfl (by decide) | exact S.apart 0 4 rfl rfl (by decide) | exact S.apart 0 5 rfl rfl (by decide) | exact S.apart 0 6 rfl rfl (by decide) | exact S.apart 0 7 rfl rfl (by decide) | exact S.apart 0 8 rfl rfl (by decide))
    · repeat (walk_at "1")
      refine e_cell S 0 rfl hoc ?_
      repeat (walk_at "w")
      rename St _ _ _ _ _ _ => S
      refine e_blt S Gg.gs Gg.bs Gg.itr0 Gg.itr1 ?_
      repeat (walk_at "1")
      refine c_iter Gg r S ?_
      intro it s₃ S
      repeat (walk_at "1")
      rename St _ _ _ _ _ _ => S
      have hh' : (A.deeper (nlEnv L)).handled = none := hh
      refine comp_nl (A := A.deeper (nlEnv L)) Gg r hh' (dd hd (by decide)) (du hu (by decide)) hn hn2 (S.weak rfl) ?_
      intro G2 D ys e1 e2 io s4 kg hys hE hio S4
      refine tail_nl (A := A.deeper (nlEnv L)) (Gg.keeps kg) (r.keeps kg) hh' (dd hd (by decide)) (du hu (by decide)) hxs hn hn2 hys hE hio S4 ?_
      intro G3 R out e3 l' s5 kg2 hsb S5
      show Q (.ref _) _
      refine h R out e3 ob' s5 hsb (S5.isNew' (kg.trans kg2) (p := (R, _)) (.head _) ?_) (S5.keepsBut' (kg.trans kg2)) (S5.at (.head _)) (S5.at (by repeat first | exact .head _ | apply List.Mem.tail)) hT' S5.os S5.gn
      exact nin1 (by first | exact S5.apart 0 1 rfl rfl (by decide) | exact S5.apart 0 2 rfl rfl (by decide) | exact S5.apart 0 3 rfl rfl (by decide) | exact S5.apart 0 4 rfl rfl (by decide) | exact S5.apart 0 5 rfl rfl (by decide) | exact S5.apart 0 6 rfl rfl (by decide) | exact S5.apart 0 7 rfl rfl (by decide) | exact S5.apart 0 8 rfl rfl (by decide))
end

section
variable {w : World} {A : Around} {E : Value → Shared → Prop} {s : Shared} {g g₀ : Heap} {L : Addr} {l : List (Str × Value)} {N M : List (Addr × Obj)} {o : OsState} {x : Addr} {xs : List Value}
theorem wp_ite {α : Type} {c : Prop} [Decidable c] {X Y : Sem α} {Q : α → Shared → Prop} (h1 : c → wpAny (model prog w) A X Q E s) (h2 : ¬ c → wpAny (model prog w) A Y Q E s) : wpAny (model prog w) A (if c then X else Y) Q E s := by
  by_cases h : c
  · rw [if_pos h]; exact h1 h
  · rw [if_neg h]; exact h2 h
noncomputable def tiObj (x : Addr) (k : Nat) : Obj := { cls := .type "tuple_iterator", data := .fields #[.ref x, rawInt k] }
noncomputable def tiEnd (k : Nat) : Obj := { cls := .type "tuple_iterator", data := .fields #[.none, rawInt k] }
noncomputable def TupAt (h : Heap) (x : Addr) (xs : List Value) : Prop := ∃ e, h.get? x = some (seqObj "tuple" xs.toArray e)
theorem TupAt.keeps {h h' : Heap} (a : TupAt h x xs) (k : Keeps h h') : TupAt h' x xs := by obtain ⟨e, q⟩ := a; exact ⟨e, k _ _ q⟩
theorem i_tupl {Q : Value → Shared → Prop} (S : St g L l N o s) (hx : TupAt s.heap x xs) (h : ∀ it s', St g L l ((it, tiObj x 0) :: N) o s' → Q (.ref it) s') : wpAny (model prog w) A (pyIter (.ref x)) Q E s := by
  obtain ⟨e, hx⟩ := hx
  exact wpAny_pyIter_tuple (items := xs.toArray) ⟨_, hx, rfl, _, rfl⟩ (h _ _ (S.new (tiObj x 0) rfl))
theorem c_ti {it : Addr} {k : Nat} {v : Value} {Q : Option Value → Shared → Prop} (S : St g L l N o s) (i : Nat) (hi : N[i]? = some (it, tiObj x k)) (hx : TupAt s.heap x xs) (hv : xs[k]? = some v)
    (h : ∀ s', St g L l (N.set i (it, tiObj x (k + 1))) o s' → Q (some v) s') : wpAny (model prog w) A (callSpecial? (.ref it) (Str.ofString "__next__")) Q E s := by
  have hit := S.at (List.mem_of_getElem? hi)
  obtain ⟨n, hob⟩ := hx
  have hT : s.TypeIs (.ref it) "tuple_iterator" := ⟨_, hit, rfl⟩
  refine wpAny_callSpecial?_slot (name := Str.ofString "__next__") hT PySem.F.slot_tuple_iterator_next (wpAny_call_entry PySem.F.slot_tuple_iterator_next hT PySem.F.entry_tuple_iterator_next ?_ (PySem.F.args_tuple_iterator_next_1 _))
  show wpAny _ _ (field (.ref it) 0 >>= _) _ _ s
  refine wpAny_bind (wpAny_field hit rfl (x := .ref x) rfl ?_)
  show wpAny _ _ (if (Value.ref x == Value.none) = true then _ else _) _ _ s
  rw [if_neg (show ¬ ((Value.ref x == Value.none) = true) from Bool.false_ne_true)]
  show wpAny _ _ (field (.ref it) 1 >>= _) _ _ s
  refine wpAny_bind (wpAny_field hit rfl (x := .int k 0) rfl ?_)
  show wpAny _ _ (seqItems? (.ref x) >>= _) _ _ s
  refine wpAny_bind (wpAny_seqItems hob rfl ?_)
  simp only [Int.toNat_natCast, List.getElem?_toArray, hv]
  refine wpAny_bind (t_setField (c := .type "tuple_iterator") (vs := #[.ref x, rawInt k]) S i hi (by simp) fun s' S' => ?_)
  exact wpAny_pure ⟨v, rfl, h _ S'⟩
theorem c_ti_end {it : Addr} {k : Nat} {Q : Option Value → Shared → Prop} (hh : A.handled = none) (S : St g L l N o s) (i : Nat) (hi : N[i]? = some (it, tiObj x k)) (hx : TupAt s.heap x xs) (hv : xs.length ≤ k)
    (h : ∀ e s', St g L l (N.set i (it, tiEnd k)) o s' → s'.TypeIs (.ref e) "StopIteration" → E (.ref e) s') : wpAny (model prog w) A (callSpecial? (.ref it) (Str.ofString "__next__")) Q E s := by
  have hit := S.at (List.mem_of_getElem? hi)
  obtain ⟨n, hob⟩ := hx
  have hT : s.TypeIs (.ref it) "tuple_iterator" := ⟨_, hit, rfl⟩
  refine wpAny_callSpecial?_slot (name := Str.ofString "__next__") hT PySem.F.slot_tuple_iterator_next (wpAny_call_entry PySem.F.slot_tuple_iterator_next hT PySem.F.entry_tuple_iterator_next ?_ (PySem.F.args_tuple_iterator_next_1 _))
  show wpAny _ _ (field (.ref it) 0 >>= _) _ _ s
  refine wpAny_bind (wpAny_field hit rfl (x := .ref x) rfl ?_)
  show wpAny _ _ (if (Value.ref x == Value.none) = true then _ else _) _ _ s
  rw [if_neg (show ¬ ((Value.ref x == Value.none) = true) from Bool.false_ne_true)]
  show wpAny _ _ (field (.ref it) 1 >>= _) _ _ s
  refine wpAny_bind (wpAny_field hit rfl (x := .int k 0) rfl ?_)
  show wpAny _ _ (seqItems? (.ref x) >>= _) _ _ s
  refine wpAny_bind (wpAny_seqItems hob rfl ?_)
  have hn : xs[k]? = none := List.getElem?_eq_none hv
  simp only [Int.toNat_natCast, List.getElem?_toArray, hn]
  refine wpAny_bind (wpAny_rule ?_)
  refine wpAny_bind (t_setField (c := .type "tuple_iterator") (vs := #[.ref x, rawInt k]) S i hi (by simp) fun s' S' => ?_)
  exact t_stop hh S' h
theorem n_ti {it : Addr} {k : Nat} {v : Value} {Q : Option Value → Shared → Prop} (S : St g L l N o s) (i : Nat) (hi : N[i]? = some (it, tiObj x k)) (hx : TupAt s.heap x xs) (hv : xs[k]? = some v)
    (h : ∀ s', St g L l (N.set i (it, tiObj x (k + 1))) o s' → Q (some v) s') : wpAny (model prog w) A (pyNext (.ref it)) Q E s :=
  pyNext_of (X := fun _ _ => False) (c_ti S i hi hx hv fun s' S' => ⟨_, rfl, h _ S'⟩) (fun _ _ x => x.elim)
theorem n_ti_end {it : Addr} {k : Nat} {Q : Option Value → Shared → Prop} (hh : A.handled = none) (S : St g L l N o s) (i : Nat) (hi : N[i]? = some (it, tiObj x k)) (hx : TupAt s.heap x xs) (hv : xs.length ≤ k)
    (h : ∀ s', St g L l (N.set i (it, tiEnd k)) o s' → Q none s') : wpAny (model prog w) A (pyNext (.ref it)) Q E s :=
  pyNext_of (X := fun e s' => ∃ a, e = .ref a ∧ s'.TypeIs (.ref a) "StopIteration" ∧ Q none s') (c_ti_end hh S i hi hx hv fun e s' S' hT => ⟨e, rfl, hT, h _ S'⟩) (fun _ _ x => x)

noncomputable def enObj (f0 : Value) (it : Addr) (i : Int) (item : Value) : Obj := { cls := .type "enumerate", data := .fields #[f0, .bool false, .ref it, rawInt i, .none, item] }
theorem c_enum {Q : Value → Shared → Prop} (S : St g L l N o s) (hx : TupAt s.heap x xs) (h : ∀ e it s', St g L l ((e, enObj .none it 0 .none) :: (it, tiObj x 0) :: N) o s' → Q (.ref e) s') : wpAny (model prog w) A (call (.type "enumerate") [.ref x]) Q E s := by
  obtain ⟨n, hx⟩ := hx
  refine callType_newIn (S := fun A' R s' => s' = s ∧ ∀ e it s'', St g L l ((e, enObj .none it 0 .none) :: (it, tiObj x 0) :: N) o s'' → R (.ok (.ret (.ref e))) s'') PySem.F.called_enumerate (by decide) (PySem.F.typeCall_enumerate_1 _) (PySem.F.newCall_enumerate_1 _) (fun obj => PySem.F.args_object_init_2 obj _) PySem.F.entry_enumerate_new ?_ ⟨rfl, ?_⟩
  · refine .of_wp fun A' R s' hs => ?_
    obtain ⟨rfl, hq⟩ := hs
    have fin : ∀ s1, s1 = s' → wpAny (model prog w) A'.in1 (pyIter (.ref x) >>= fun i => Builtin.SmallTypes.newRecord (.type "enumerate") [.none, .bool false, i, rawInt 0, .none, .none] >>= fun r => ret r) (fun fin s' => ∃ v, fin = Fin.done (Flow.ret v) ∧ R (Except.ok (Flow.ret v)) s') (fun e s' => R (Except.error e) s') s1 := fun s1 e1 => by
      subst e1
      refine wpAny_bind (i_tupl S ⟨_, hx⟩ fun it s2 S2 => ?_)
      refine wpAny_bind (t_new (T := "enumerate") (d := .fields #[.none, .bool false, .ref it, rawInt 0, .none, .none]) S2 rfl (fun z s4 S4 => ?_) (by show Array.size _ ≤ _; simp [sizeLine_eq]))
      exact wpAny_pure ⟨_, rfl, hq z it s4 S4⟩
    unfold Builtin.«enumerate.__new__»
    refine wpAny_bind (wpAny_of_eq (a := (Value.type "enumerate", [Value.ref x])) (by kernel_rfl) ?_)
    dsimp only
    first | refine wI_pos (show (Value.type "enumerate" == Value.type "enumerate") = true by decide) ?_ | rw [if_pos (show (Value.type "enumerate" == Value.type "enumerate") = true by decide)]
    refine wpAny_bind ?_
    unfold Builtin.SmallTypes.calledThroughType
    refine wpAny_bind (wpAny_stack_any fun st => wpAny_pure ?_)
    exact wp_ite (fun _ => wpAny_bind (wpAny_of_eq (a := (Value.ref x, none)) (by kernel_rfl) (fin _ rfl))) (fun _ => wpAny_bind (wpAny_of_eq (a := (Value.ref x, none)) (by kernel_rfl) (fin _ rfl)))
  · intro e it s'' S''
    exact ⟨⟨_, S''.at (.head _), rfl⟩, h e it s'' S''⟩
theorem n_enum {e it : Addr} {k : Nat} {old v : Value} {Q : Option Value → Shared → Prop} (S : St g L l ((e, enObj .none it k old) :: (it, tiObj x k) :: M) o s) (hx : TupAt s.heap x xs) (hv : xs[k]? = some v)
    (h : ∀ T t s', St g L l ((T, prObj (.int k t) v) :: (e, enObj (rawInt T) it ((k + 1 : Nat) : Int) v) :: (it, tiObj x (k + 1)) :: M) o s' → Q (some (.ref T)) s') : wpAny (model prog w) A (pyNext (.ref e)) Q E s := by
  have he := S.at (.head _)
  have hT : s.TypeIs (.ref e) "enumerate" := ⟨_, he, rfl⟩
  refine pyNext_of (X := fun _ _ => False) (wpAny_callSpecial?_slot (name := Str.ofString "__next__") hT PySem.F.slot_enumerate_next (wpAny_call_entry PySem.F.slot_enumerate_next hT PySem.F.entry_enumerate_next ?_ (PySem.F.args_enumerate_next_1 _))) (fun _ _ q => q.elim)
  show wpAny _ _ (field (.ref e) 2 >>= _) _ _ _
  refine wpAny_bind (wpAny_field he rfl (x := .ref it) rfl ?_)
  refine wpAny_bind (nextOf_of (c_ti S 1 rfl hx hv fun s1 S1 => ⟨_, rfl, ?_⟩))
  have he1 := S1.at (.head _)
  show wpAny _ _ (field (.ref e) 3 >>= _) _ _ _
  refine wpAny_bind (wpAny_field he1 rfl (x := rawInt k) rfl ?_)
  show wpAny _ _ (field (.ref e) 4 >>= _) _ _ _
  refine wpAny_bind (wpAny_field he1 rfl (x := .none) rfl ?_)
  show wpAny _ _ (mkInt k >>= _) _ _ _
  refine wpAny_bind (wpAny_mkInt ?_)
  have S2 := S1.tok (t := s1.toks + 1)
  refine wpAny_bind (t_setField (c := .type "enumerate") S2 0 rfl (by simp) fun s3 S3 => ?_)
  refine wpAny_bind (t_setField (c := .type "enumerate") S3 0 rfl (by simp) fun s4 S4 => ?_)
  refine wpAny_bind (t_new (T := "tuple") S4 rfl (fun T s5 S5 => ?_) (by show Array.size _ ≤ sizeLine; simp [sizeLine_eq]))
  have he5 := S5.at (.tail _ (.head _))
  show wpAny _ _ (Builtin.SmallTypes.ownedTupleIsFree (.ref e) >>= _) _ _ _
  refine wpAny_bind ?_
  unfold Builtin.SmallTypes.ownedTupleIsFree
  refine wpAny_bind (wpAny_field he5 rfl (x := .none) rfl (wpAny_pure ?_))
  first | refine wI_pos rfl ?_ | simp only [if_true]
  refine wpAny_bind (wpAny_rule ?_)
  refine wpAny_bind (wpAny_field he5 rfl (x := old) rfl ?_)
  refine wpAny_bind (t_setField (c := .type "enumerate") S5 1 rfl (by simp) fun s6 S6 => ?_)
  show wpAny _ _ (Builtin.SmallTypes.ownedTupleHandOut (.ref e) (.ref T) >>= _) _ _ _
  refine wpAny_bind ?_
  unfold Builtin.SmallTypes.ownedTupleHandOut
  refine wpAny_bind (t_setField (c := .type "enumerate") S6 1 rfl (by simp) fun s7 S7 => ?_)
  refine t_setField (c := .type "enumerate") S7 1 rfl (by simp) fun s8 S8 => ?_
  refine wpAny_bind (wpAny_letGo ?_)
  exact wpAny_pure ⟨_, rfl, _, rfl, h T _ s8 S8⟩
theorem n_enum_end {e it : Addr} {k : Nat} {old : Value} {Q : Option Value → Shared → Prop} (hh : A.handled = none) (S : St g L l ((e, enObj .none it k old) :: (it, tiObj x k) :: M) o s) (hx : TupAt s.heap x xs) (hv : xs.length ≤ k)
    (h : ∀ s', St g L l M o s' → Q none s') : wpAny (model prog w) A (pyNext (.ref e)) Q E s := by
  have he := S.at (.head _)
  have hT : s.TypeIs (.ref e) "enumerate" := ⟨_, he, rfl⟩
  refine pyNext_of (X := fun e s' => ∃ a, e = .ref a ∧ s'.TypeIs (.ref a) "StopIteration" ∧ Q none s') (wpAny_callSpecial?_slot (name := Str.ofString "__next__") hT PySem.F.slot_enumerate_next (wpAny_call_entry PySem.F.slot_enumerate_next hT PySem.F.entry_enumerate_next ?_ (PySem.F.args_enumerate_next_1 _))) (fun _ _ q => q)
  show wpAny _ _ (field (.ref e) 2 >>= _) _ _ _
  refine wpAny_bind (wpAny_field he rfl (x := .ref it) rfl ?_)
  refine wpAny_bind (nextOf_of (c_ti_end (A := A.in1) hh S 1 rfl hx hv fun e s' S' hT => ⟨e, rfl, hT, h _ (S'.less (.cons _ (.cons _ (.refl _))))⟩))
theorem go_enum {elts : List Expr} {k : Nat} {pos : Pos} {e it T : Addr} {i : Int} {v : Value} {Q : Unit → Shared → Prop} (S : St g L l N o s) (j : Nat) (hi : N[j]? = some (e, enObj (rawInt T) it i v)) (h : ∀ s', St g L l (N.set j (e, enObj .none it i v)) o s' → Q () s') :
    wpAny (model prog w) A (letOwnedTupleGo (.Tuple elts k pos) (.ref e) (.ref T)) Q E s :=
  wpAny_letOwnedTupleGo_enum (S.at (List.mem_of_getElem? hi)) fun _ h1 hs => h _ (S.upd j hi hs h1)
end

noncomputable def ftab : List (List (Int × String)) := [[(40960, "l"), (49152, "s"), (32768, "-"), (24576, "b"), (16384, "d"), (8192, "c"), (4096, "p")], [(256, "r")], [(128, "w")], [(2112, "s"), (2048, "S"), (64, "x")],
  [(32, "r")], [(16, "w")], [(1032, "s"), (1024, "S"), (8, "x")], [(4, "r")], [(2, "w")], [(513, "t"), (512, "T"), (1, "x")]]
noncomputable def PairAt (g : Heap) (p : Int × String) (b : Value) : Prop := Ex3 fun (B : Addr) (t u : Tok) => An2 (b = .ref B) (TupAt g B [.int p.1 t, .str (Str.ofString p.2) u])
noncomputable def RowAt (g : Heap) (row : List (Int × String)) (r : Value) : Prop := Ex2 fun (R : Addr) (bs : List Value) => An4 (r = .ref R) (TupAt g R bs) (bs.length = row.length) (∀ (i : Nat) b p, bs[i]? = some b → row[i]? = some p → PairAt g p b)
noncomputable def FtabAt (g : Heap) : Prop := ∃ rs, An3 (TupAt g 211 rs) (rs.length = ftab.length) (∀ (i : Nat) r row, rs[i]? = some r → ftab[i]? = some row → RowAt g row r)
theorem PairAt.keeps {g h : Heap} {p : Int × String} {b : Value} (x : PairAt g p b) (k : Keeps g h) : PairAt h p b := by obtain ⟨B, t, u, e, a⟩ := x; exact ⟨B, t, u, e, a.keeps k⟩
theorem RowAt.keeps {g h : Heap} {p : List (Int × String)} {b : Value} (x : RowAt g p b) (k : Keeps g h) : RowAt h p b := by obtain ⟨B, t, e, a, n, c⟩ := x; exact ⟨B, t, e, a.keeps k, n, fun i b p h1 h2 => (c i b p h1 h2).keeps k⟩
theorem FtabAt.keeps {g h : Heap} (x : FtabAt g) (k : Keeps g h) : FtabAt h := by obtain ⟨t, a, n, c⟩ := x; exact ⟨t, a.keeps k, n, fun i b p h1 h2 => (c i b p h1 h2).keeps k⟩
structure Gv (K : Frag) (mg mb : Str → Option Value) (g : Heap) : Prop extends Gw K mg mb g where
  f178 : FnAt g 178 (fnAt 16 .none mStat 177)
  f218 : FnAt g 218 (fnAt 37 .none mStat 217)
  f225 : FnAt g 225 (fnAt 39 .none mLaw 224)
  f232 : FnAt g 232 (fnAt 40 .none mLaw 231)
  f239 : FnAt g 239 (fnAt 41 .none mLaw 238)
  f244 : FnAt g 244 (fnAt 42 .none mLaw 243)
  f251 : FnAt g 251 (fnAt 43 .none mLaw 250)
  f256 : FnAt g 256 (fnAt 44 .none mLaw 255)
  f261 : FnAt g 261 (fnAt 45 .none mLaw 260)
  n178 : mg (Str.ofString "S_IFMT") = some (.ref 178)
  n218 : mg (Str.ofString "filemode") = some (.ref 218)
  n225 : mg (Str.ofString "_law_listing") = some (.ref 225)
  n232 : mg (Str.ofString "_law_made") = some (.ref 232)
  n239 : mg (Str.ofString "_law_filled") = some (.ref 239)
  n244 : mg (Str.ofString "_law_order") = some (.ref 244)
  n251 : mg (Str.ofString "_law_asked") = some (.ref 251)
  n256 : mg (Str.ofString "_law_right") = some (.ref 256)
  n211 : mg (Str.ofString "_filemode_table") = some (.ref 211)
  ftab : FtabAt g
  enu0 : mg (Str.ofString "enumerate") = none
  enu1 : mb (Str.ofString "enumerate") = some (.type "enumerate")
theorem Gv.keeps {K : Frag} {mg mb : Str → Option Value} {g h : Heap} (x : Gv K mg mb g) (k : Keeps g h) : Gv K mg mb h :=
  { x with toGw := x.toGw.keeps k, f178 := x.f178.keeps k, f218 := x.f218.keeps k, f225 := x.f225.keeps k, f232 := x.f232.keeps k, f239 := x.f239.keeps k, f244 := x.f244.keeps k, f251 := x.f251.keeps k, f256 := x.f256.keeps k, f261 := x.f261.keeps k, ftab := x.ftab.keeps k }
section
variable {w : World} {A : Around} {E : Value → Shared → Prop} {s : Shared} {g g₀ : Heap} {L : Addr} {l : List (Str × Value)} {N : List (Addr × Obj)} {o : OsState} {mg mb : Str → Option Value} {K : Frag}
noncomputable def Left (s s' : Shared) : Prop := Keeps s.heap s'.heap ∧ s'.os = s.os ∧ AllBare s'.gens
theorem St.left (S : St (hideAll s.heap []) L l N s.os s') : Left s s' := ⟨fun b ob e => S.kept b ob e, S.os, S.gn⟩
theorem St.on {s' : Shared} (S : St g L l N o s) (h : Left s s') : St g L l N o s' := by
  obtain ⟨m, F, hl⟩ := S.fr
  exact ⟨⟨m, ⟨F.ns.keeps h.1, fun b ob e => h.1 _ _ (F.keep _ _ e), F.nl⟩, hl⟩, fun p hp => ⟨h.1 _ _ (S.nw p hp).1, (S.nw p hp).2⟩, S.nd, h.2.1.trans S.os, h.2.2⟩
theorem ifmt_ok {m : Int} {t : Tok} {Q : Value → Shared → Prop} (G : Gv K mg mb g₀) (Kp : Keeps g₀ s.heap) (hd : A.depth + 5 < recursionLimit) (hg : AllBare s.gens) (h : ∀ u s', Left s s' → Q (.int (Builtin.bitAnd m 61440) u) s') :
    wpAny (model prog w) A (call (.ref 178) [.int m t]) Q E s := by
  refine call_fn (N := []) (binds := [(Str.ofString "mode", .int m t)]) G.lim Kp G.f178 (by walk_at "l") (by simp) hg rfl (.of_eq rfl) rfl rfl (by simp) ?_
  intro L s₁ S
  walk_at "put"
  repeat (walk_at "1")
  rename St _ _ _ _ _ _ => S
  exact h _ _ S.left
end

noncomputable def hits (k : Nat) (m b : Int) : Bool := if k = 0 then decide (Builtin.bitAnd m 61440 = b) else decide (Builtin.bitAnd m b = b)
noncomputable def pickC (k : Nat) (m : Int) (row : List (Int × String)) : Str := match row.find? (fun p => hits k m p.1) with
  | some p => Str.ofString p.2
  | none => Str.ofString (if k = 0 then "?" else "-")
noncomputable def fchars (m : Int) : List Str := (List.range ftab.length).map fun k => pickC k m (ftab.getD k [])
noncomputable def fmode (m : Int) : Str := Txt.join (Str.ofString "") (fchars m)
theorem find_hit {α : Type} {p : α → Bool} : ∀ {l : List α} {j : Nat} {x : α}, (∀ i y, i < j → l[i]? = some y → p y = false) → l[j]? = some x → p x = true → l.find? p = some x
  | [], j, x, _, h, _ => by simp at h
  | a :: l, 0, x, _, h, hx => by simp at h; subst h; simp [hx]
  | a :: l, j + 1, x, hn, h, hx => by
    have ha : p a = false := hn 0 a (by walk_at "l") rfl
    rw [List.find?_cons, ha]
    exact find_hit (j := j) (fun i y hi hy => hn (i + 1) y (by walk_at "l") (by simpa using hy)) (by simpa using h) hx
theorem find_miss {α : Type} {p : α → Bool} {l : List α} (h : ∀ i y, i < l.length → l[i]? = some y → p y = false) : l.find? p = none := by
  rw [List.find?_eq_none]
  intro x hx
  obtain ⟨i, hi⟩ := List.getElem?_of_mem hx
  have := h i x (List.getElem?_eq_some_iff.mp hi).1 hi
  simp [this]
theorem pick_hit {k : Nat} {m : Int} {row : List (Int × String)} {j : Nat} {p : Int × String} (hn : ∀ i y, i < j → row[i]? = some y → hits k m y.1 = false) (hj : row[j]? = some p) (hp : hits k m p.1 = true) : pickC k m row = Str.ofString p.2 := by
  unfold pickC; rw [find_hit (p := fun p : Int × String => hits k m p.1) hn hj hp]
theorem pick_miss {k : Nat} {m : Int} {row : List (Int × String)} (hn : ∀ i y, i < row.length → row[i]? = some y → hits k m y.1 = false) : pickC k m row = Str.ofString (if k = 0 then "?" else "-") := by
  unfold pickC; rw [find_miss (p := fun p : Int × String => hits k m p.1) hn]
theorem row_len : (ftab.all fun row => row.all fun p => (Str.ofString p.2).length == 1) = true := by decide +kernel
theorem pick_len (k : Nat) (m : Int) : (pickC k m (ftab.getD k [])).length = 1 := by
  unfold pickC
  split
  · rename_i p hp
    have hm := List.mem_of_find?_eq_some hp
    by_cases hk : k < ftab.length
    · have hr : ftab.getD k [] ∈ ftab := by simp [List.getD, hk]
      have := List.all_eq_true.mp (List.all_eq_true.mp row_len _ hr) p hm
      simpa using this
    · rw [show ftab.getD k [] = [] by simp [List.getD, hk]] at hm; simp at hm
  · split <;> rfl
theorem join_ok (m : Int) : JoinOk (Str.ofString "") (fchars m) = true := by
  have e : fchars m = [pickC 0 m (ftab.getD 0 []), pickC 1 m (ftab.getD 1 []), pickC 2 m (ftab.getD 2 []), pickC 3 m (ftab.getD 3 []), pickC 4 m (ftab.getD 4 []), pickC 5 m (ftab.getD 5 []), pickC 6 m (ftab.getD 6 []), pickC 7 m (ftab.getD 7 []), pickC 8 m (ftab.getD 8 []), pickC 9 m (ftab.getD 9 [])] := rfl
  rw [e]
  unfold JoinOk
  simp only [List.foldl_toArray, List.foldl_cons, List.foldl_nil, pick_len, show (Str.ofString "").length = 0 from rfl]
  rfl
section
variable {w : World} {A : Around} {E : Value → Shared → Prop} {s : Shared} {g g₀ : Heap} {L : Addr} {l : List (Str × Value)} {N : List (Addr × Obj)} {o : OsState} {mg mb : Str → Option Value} {K : Frag}
set_option maxHeartbeats 1000000
theorem filemode_ok {m : Int} {t : Tok} {Q : Value → Shared → Prop} (G : Gv K mg mb g₀) (Kp : Keeps g₀ s.heap) (hh : A.handled = none) (hd : A.depth + 10 < recursionLimit) (hg : AllBare s.gens) (h : ∀ u s', Left s s' → Q (.str (fmode m) u) s') :
    wpAny (model prog w) A (call (.ref 218) [.int m t]) Q E s := by
  have Gg : Gv K mg mb (hideAll s.heap []) := G.keeps (Kp.hide (by simp))
  refine call_fn (N := []) (binds := [(Str.ofString "mode", .int m t)]) G.lim Kp G.f218 (by walk_at "l") (by simp) hg rfl (.of_eq rfl) rfl rfl (by simp) ?_
  intro L s₁ S
  walk_at "put"
  refine x_cons (wpAny_Assign_Name (e_lst (spliced_none (Made.go S (by simp) ?_))))
  intro P _ S _ _
  refine s_loc S ?_
  intro _ S
  walk_at "put"
  obtain ⟨rs, hrs, hrl, hrow⟩ := Gg.ftab
  have hh' : ∀ env, (A.deeper env).handled = none := fun _ => hh
  refine x_cons ?_
  refine w_forE (fun s' => Ex2 fun (cs : List (Str × Tok)) (e : Nat) => An2 (cs.map (·.1) = fchars m) (St (hideAll s.heap []) L [(Str.ofString "mode", .int m t), (Str.ofString "perm", .ref P)] [(P, seqObj "list" (strValues cs).toArray e)] s.os s')) ?_ ?_
  · refine Call_ (e_blt S Gg.gs Gg.bs Gg.enu0 Gg.enu1 ?_)
    refine callWith_type1 ?_
    refine args_cons ?_
    refine e_glob S Gg.gs Gg.n211 ?_
    repeat (walk_at "1")
    refine c_enum S (hrs.keeps S.kept) ?_
    intro en it s2 S
    refine wpAny_pyIter_enum (S.at (.head _)) ?_
    refine ⟨fun n s' => Ex5 fun (k : Nat) (cs : List (Str × Tok)) (e : Nat) (old : Value) (l' : List (Str × Value)) => An4 (n = ftab.length - k) (k ≤ ftab.length) (cs.map (·.1) = (fchars m).take k) (St (hideAll s.heap []) L [(Str.ofString "mode", .int m t), (Str.ofString "perm", .ref P)] [(en, enObj .none it (k : Int) old), (it, tiObj 211 k), (P, seqObj "list" (strValues cs).toArray e)] s.os s'), _, ⟨0, [], 0, .none, [], rfl, Nat.zero_le _, rfl, S⟩, ?_⟩
    intro n s3 hI₁ Q₁ X₁ hQ₁ hX₁
    obtain ⟨k, cs, e, old, l', rfl, hk, hcs, S⟩ := hI₁
    by_cases hkn : k = ftab.length
    · subst hkn
      refine n_enum_end (hh' _) S (hrs.keeps S.kept) (by walk_at "l") ?_
      intro s4 S
      refine wpAny_execs_nil ⟨rfl, hX₁ _ ⟨cs, e, ?_, S⟩⟩
      rw [hcs]
      exact List.take_of_length_le (by simp [fchars])
    · have hkr : k < rs.length := by walk_at "l"
      obtain ⟨R, bs, hR, hRt, hRl, hpair⟩ := hrow k _ _ (List.getElem?_eq_getElem hkr) (List.getElem?_eq_getElem (show k < ftab.length by walk_at "l"))
      refine n_enum S (hrs.keeps S.kept) (List.getElem?_eq_getElem hkr) ?_
      intro T ti s4 S
      refine go_enum S 1 rfl ?_
      intro s5 S
      refine as_tup (items := [_, _]) (hh' _) S (S.at (.head _)) ?_
      intro s6 S
      refine assignInOrder_cons (wpAny_assign_Name (s_loc S ?_))
      intro s7 S
      refine assignInOrder_cons (wpAny_assign_Name (s_loc S ?_))
      intro s8 S
      refine assignInOrder_nil ?_
      walk_at "put"
      dsimp only [List.set_cons_succ, List.set_cons_zero] at S
      rw [hR] at S
      have S := S.less (N' := [(en, enObj .none it ((k + 1 : Nat) : Int) (.ref R)), (it, tiObj 211 (k + 1)), (P, seqObj "list" (strValues cs).toArray e)]) (.cons _ (.refl _))
      refine x_cons ?_
      refine w_forE (fun s' => Ex2 fun u e => St (hideAll s.heap []) L [(Str.ofString "mode", .int m t), (Str.ofString "perm", .ref P)] [(en, enObj .none it ((k + 1 : Nat) : Int) (.ref R)), (it, tiObj 211 (k + 1)), (P, seqObj "list" (strValues (cs ++ [(pickC k m (ftab[k]), u)])).toArray e)] s.os s') ?_ ?_
      · repeat (walk_at "1")
        refine i_tupl S (hRt.keeps S.kept) ?_
        intro jt s9 S
        have hlrow : bs.length = (ftab[k]).length := hRl
        refine ⟨fun n s' => Ex2 fun (j : Nat) (l' : List (Str × Value)) => An4 (n = bs.length - j) (j ≤ bs.length) ((∀ i y, i < j → (ftab[k])[i]? = some y → hits k m y.1 = false)) (St (hideAll s.heap []) L [(Str.ofString "mode", .int m t), (Str.ofString "perm", .ref P), (Str.ofString "index", .int k ti)] [(jt, tiObj R j), (en, enObj .none it ((k + 1 : Nat) : Int) (.ref R)), (it, tiObj 211 (k + 1)), (P, seqObj "list" (strValues cs).toArray e)] s.os s'),
          _, ⟨0, [], rfl, Nat.zero_le _, fun i y hi => absurd hi (by walk_at "l"), S.weak rfl⟩, ?_⟩
        intro n s10 hI₁ Q₂ X₂ hQ₂ hX₂
        obtain ⟨j, l', rfl, hj, hno, S⟩ := hI₁
        have hcsl : (strValues cs).length ≤ 1000 := by
          have : cs.length = ((fchars m).take k).length := by rw [← hcs, List.length_map]
          have hfl : ftab.length = 10 := rfl
          simp [strValues]; simp at this; lia
        have app : ∀ (ch : Str) (u : Tok), strValues cs ++ [.str ch u] = strValues (cs ++ [(ch, u)]) := fun ch u => by simp [strValues]
        by_cases hjn : j = bs.length
        · subst hjn
          refine n_ti_end (hh' _) S 0 rfl (hRt.keeps S.kept) (Nat.le_refl _) ?_
          intro s11 S
          have hm := pick_miss (k := k) (m := m) (row := ftab[k]) (fun i y hi hy => hno i y (by walk_at "l") hy)
          dsimp only [List.set_cons_zero] at S
          refine x_cons ?_
          repeat (walk_at "e")
          rename St _ _ _ _ _ _ => S
          refine ite_dec (fun hk0 => ?_) (fun hk0 => ?_)
          · refine x_cons ?_
            repeat (walk_at "e")
            refine m_list PySem.F.slot_list_append PySem.F.type_list_append (S.at (.tail _ (.tail _ (.tail _ (.head _))))) ?_
            repeat (walk_at "e")
            rename St _ _ _ _ _ _ => S
            refine ap_list S 3 rfl hcsl ?_
            intro s12 S
            repeat (walk_at "1")
            rw [app] at S
            rw [if_pos (show k = 0 by walk_at "l")] at hm
            exact ⟨rfl, hX₂ _ ⟨_, _, by rw [hm]; exact (S.less (.cons _ (.refl _))).weak rfl⟩⟩
          · refine x_cons ?_
            repeat (walk_at "e")
            refine m_list PySem.F.slot_list_append PySem.F.type_list_append (S.at (.tail _ (.tail _ (.tail _ (.head _))))) ?_
            repeat (walk_at "e")
            rename St _ _ _ _ _ _ => S
            refine ap_list S 3 rfl hcsl ?_
            intro s12 S
            repeat (walk_at "1")
            rw [app] at S
            rw [if_neg (show k ≠ 0 by walk_at "l")] at hm
            exact ⟨rfl, hX₂ _ ⟨_, _, by rw [hm]; exact (S.less (.cons _ (.refl _))).weak rfl⟩⟩
        · have hjl : j < bs.length := by walk_at "l"
          obtain ⟨B, tb, uc, hB, hBt⟩ := hpair j _ _ (List.getElem?_eq_getElem hjl) (List.getElem?_eq_getElem (show j < (ftab[k]).length by walk_at "l"))
          refine n_ti S 0 rfl (hRt.keeps S.kept) (List.getElem?_eq_getElem hjl) ?_
          intro s11 S
          refine go_plain (S.at (.head _)) rfl rfl ?_
          rw [hB]
          obtain ⟨eB, hBo⟩ := hBt
          refine as_tup (items := [_, _]) (hh' _) S (S.kept _ _ hBo) ?_
          intro s12 S
          refine assignInOrder_cons (wpAny_assign_Name (s_loc S ?_))
          intro s13 S
          refine assignInOrder_cons (wpAny_assign_Name (s_loc S ?_))
          intro s14 S
          refine assignInOrder_nil ?_
          walk_at "put"
          dsimp only [List.set_cons_zero] at S
          have next : ∀ s15 lx, hits k m (ftab[k])[j].1 = false → St (hideAll s.heap []) L lx [(jt, tiObj R (j + 1)), (en, enObj .none it ((k + 1 : Nat) : Int) (.ref R)), (it, tiObj 211 (k + 1)), (P, seqObj "list" (strValues cs).toArray e)] s.os s15 →
              lx.lookup (Str.ofString "mode") = some (.int m t) → lx.lookup (Str.ofString "perm") = some (.ref P) → lx.lookup (Str.ofString "index") = some (.int k ti) → ∃ n', n' < bs.length - j ∧ (fun n s' => Ex2 fun (j : Nat) (l' : List (Str × Value)) => An4 (n = bs.length - j) (j ≤ bs.length) ((∀ i y, i < j → (ftab[k])[i]? = some y → hits k m y.1 = false)) (St (hideAll s.heap []) L [(Str.ofString "mode", .int m t), (Str.ofString "perm", .ref P), (Str.ofString "index", .int k ti)] [(jt, tiObj R j), (en, enObj .none it ((k + 1 : Nat) : Int) (.ref R)), (it, tiObj 211 (k + 1)), (P, seqObj "list" (strValues cs).toArray e)] s.os s')) n' s15 := fun s15 lx hf S h1 h2 h3 => by
            refine ⟨bs.length - (j + 1), by walk_at "l", j + 1, [], rfl, by walk_at "l", fun i y hi hy => ?_, S.weak (by simp [h1, h2, h3])⟩
            by_cases hij : i = j
            · subst hij
              rw [List.getElem?_eq_getElem (show i < (ftab[k]).length by walk_at "l")] at hy
              cases hy; exact hf
            · exact hno i y (by walk_at "l") hy
          have done : hits k m (ftab[k])[j].1 = true → pickC k m (ftab[k]) = Str.ofString (ftab[k])[j].2 := fun hf => pick_hit hno (List.getElem?_eq_getElem (show j < (ftab[k]).length by walk_at "l")) hf
          refine x_cons ?_
          repeat (walk_at "e")
          rename St _ _ _ _ _ _ => S
          refine ite_dec (fun hk0 => ?_) (fun hk0 => ?_)
          · refine x_cons ?_
            repeat (walk_at "e")
            refine e_glob S Gg.gs Gg.n178 ?_
            refine c_fn Gg.f178 ?_
            repeat (walk_at "1")
            refine ⟨⟨_, _, _, _, S⟩, ?_⟩
            refine ifmt_ok (A := A.deeper _) Gg S.kept (dd hd (by decide)) S.gn ?_
            intro u15 s15 hl15
            have S := S.on hl15
            repeat (walk_at "e")
            refine ite_dec (fun hbit => ?_) (fun hbit => ?_)
            · have hd' := done (by unfold hits; rw [if_pos (show k = 0 by walk_at "l")]; exact decide_eq_true hbit)
              refine x_cons ?_
              repeat (walk_at "e")
              refine m_list PySem.F.slot_list_append PySem.F.type_list_append (S.at (.tail _ (.tail _ (.tail _ (.head _))))) ?_
              repeat (walk_at "e")
              refine ap_list S 3 rfl hcsl ?_
              intro s16 S
              repeat (walk_at "1")
              rw [app] at S
              exact hQ₂ _ _ ⟨_, _, by rw [hd']; exact (S.less (.cons _ (.refl _))).weak rfl⟩
            · repeat (walk_at "1")
              exact hQ₂ _ _ (next _ _ (by unfold hits; rw [if_pos (show k = 0 by walk_at "l")]; exact decide_eq_false hbit) S rfl rfl rfl)
          · refine x_cons ?_
            repeat (walk_at "e")
            rename St _ _ _ _ _ _ => S
            refine ite_dec (fun hbit => ?_) (fun hbit => ?_)
            · have hd' := done (by unfold hits; rw [if_neg (show k ≠ 0 by walk_at "l")]; exact decide_eq_true hbit)
              refine x_cons ?_
              repeat (walk_at "e")
              refine m_list PySem.F.slot_list_append PySem.F.type_list_append (S.at (.tail _ (.tail _ (.tail _ (.head _))))) ?_
              repeat (walk_at "e")
              refine ap_list S 3 rfl hcsl ?_
              intro s16 S
              repeat (walk_at "1")
              rw [app] at S
              exact hQ₂ _ _ ⟨_, _, by rw [hd']; exact (S.less (.cons _ (.refl _))).weak rfl⟩
            · repeat (walk_at "1")
              exact hQ₂ _ _ (next _ _ (by unfold hits; rw [if_neg (show k ≠ 0 by walk_at "l")]; exact decide_eq_false hbit) S rfl rfl rfl)
      · rintro s9 ⟨u, e2, S⟩
        repeat (walk_at "1")
        refine hQ₁ _ _ ⟨ftab.length - (k + 1), by walk_at "l", k + 1, cs ++ [(pickC k m (ftab[k]), u)], e2, .ref R, [], rfl, by walk_at "l", ?_, S⟩
        rw [List.map_append, hcs, List.take_add_one]
        congr 1
        unfold fchars
        simp [show k < ftab.length by walk_at "l"]
  · rintro s2 ⟨cs, e, hcs, S⟩
    repeat (walk_at "1")
    rename St _ _ _ _ _ _ => S
    refine GM.join ?_
    repeat (walk_at "1")
    refine SC.join (D := P) (l := cs) (texts := fchars m) ⟨_, S.at (.head _), rfl, _, rfl⟩ hcs (join_ok m) ?_
    intro t' k
    exact h t' _ (S.tok (t := k)).left
end

section
variable {w : World} {A : Around} {E : Value → Shared → Prop} {s : Shared} {g g₀ : Heap} {L : Addr} {l : List (Str × Value)} {N : List (Addr × Obj)} {o : OsState} {mg mb : Str → Option Value} {K : Frag} {env : Env}
theorem i_str {value slice : Expr} {x : Str} {t u : Tok} {k : Int} {j c : Nat} {Q : Value → Shared → Prop} (S : St g L l N o s) (hk : k = (j : Int)) (hz : j < 1000) (hc : x.cps[j]? = some c) (h : ∀ t s', St g L l N o s' → Q (.str ⟨#[c]⟩ t) s')
    (hs : subscripted slice false (.str x t) (.int k u) = operate [.str x t, .int k u] (getItem (.str x t) (.int k u)) := by with_unfolding_all rfl) :
    wpAny (model prog w) A (subscriptTail value slice (.str x t) (.int k u)) Q E s := by
  have hj : j < x.length := by obtain ⟨q, _⟩ := Array.getElem?_eq_some_iff.mp hc; exact q
  subst hk
  refine tail_any (typeIs_str _ _ _) PySem.F.slot_str_getitem.lookup (getItem_str (c := c) (by simp; lia) ?_ (h _ _ S.tok)) hs
  have : seqIndex? (j : Int) x.length = some j := seqIndex_of (Int.natCast_nonneg j) (Int.ofNat_lt.mpr hj)
  rw [this]; exact hc
theorem b_cat {x y : Str} {t u : Tok} {Q : Value → Shared → Prop} (S : St g L l N o s) (hz : x.length + y.length ≤ 10000) (h : ∀ t s', St g L l N o s' → Q (.str (x ++ y) t) s') : wpAny (model prog w) A (binaryOp .Add (.str x t) (.str y u)) Q E s :=
  PyProof.Rows.add_str (fun _ _ => h _ _ S.tok) (by rw [sizeLine_eq]; lia)
theorem e_tupSS {a b : Str} {k k1 k2 : Nat} {pos p1 p2 : Pos} {Q : Value → Shared → Prop} (S : St g L l N o s) (h : ∀ T t1 t2 s', St g L l ((T, prObj (.str a t1) (.str b t2)) :: N) o s' → Q (.ref T) s') :
    wpAny (model prog w) A (eval (.Tuple [.Constant (.str a) k1 p1, .Constant (.str b) k2 p2] k pos) env) Q E s := by
  refine e_tup (spliced_more (e_str S ?_))
  intro t1 s1 S
  refine spliced_more (e_str S ?_)
  intro t2 s2 S
  refine spliced_none (Made.go S (by simp) ?_)
  intro T s3 S _ _
  exact h T t1 t2 s3 S
theorem e_tupIIS {a b : Int} {c : Str} {k k1 k2 k3 : Nat} {pos p1 p2 p3 : Pos} {Q : Value → Shared → Prop} (S : St g L l N o s) (h : ∀ T t1 t2 t3 s', St g L l ((T, seqObj "tuple" #[.int a t1, .int b t2, .str c t3] 0) :: N) o s' → Q (.ref T) s') :
    wpAny (model prog w) A (eval (.Tuple [.Constant (.int a) k1 p1, .Constant (.int b) k2 p2, .Constant (.str c) k3 p3] k pos) env) Q E s := by
  refine e_tup (spliced_more (e_int S ?_))
  intro t1 s1 S
  refine spliced_more (e_int S ?_)
  intro t2 s2 S
  refine spliced_more (e_str S ?_)
  intro t3 s3 S
  refine spliced_none (Made.go S (by simp) ?_)
  intro T s4 S _ _
  exact h T t1 t2 t3 s4 S
end
theorem ifS_aux {a b : String} {c : Bool} : (if c = true then Str.ofString a else Str.ofString b) = Str.ofString (if c = true then a else b) := by cases c <;> rfl
section
variable {w : World} {A : Around} {E : Value → Shared → Prop} {s : Shared} {g g₀ : Heap} {L : Addr} {l : List (Str × Value)} {N : List (Addr × Obj)} {o : OsState} {env : Env}
theorem e_ifS {test : Expr} {a b : String} {k1 k2 : Nat} {pos p1 p2 : Pos} {Q : Value → Shared → Prop} (h : wpAny (model prog w) A (isTrue test env (eval test env)) (fun c s1 => ∃ g L l N o, St g L l N o s1 ∧ ∀ t s', St g L l N o s' → Q (.str (Str.ofString (if c = true then a else b)) t) s') E s) :
    wpAny (model prog w) A (eval (.IfExp test (.Constant (.str (Str.ofString a)) k1 p1) (.Constant (.str (Str.ofString b)) k2 p2) pos) env) Q E s := by
  refine wpAny_IfExp (wpAny_mono h (fun c s1 h1 => ?_) fun _ _ x => x)
  obtain ⟨g, L, l, N, o, S, h1⟩ := h1
  cases c with
  | true => exact if_p rfl (e_str S h1)
  | false => exact if_n Bool.false_ne_true (e_str S h1)
theorem St.left' {s' : Shared} {G : Heap} (k : Keeps (hideAll s.heap []) G) (S : St G L l N s.os s') : Left s s' := ⟨fun b ob e => S.kept b ob (k _ _ e), S.os, S.gn⟩
end
theorem cps_at {x : Str} {j : Nat} (h : j < x.cps.size) : x.cps[j]? = some (x.cps.getD j 0) := by simp [Array.getD, h]
noncomputable def signAt (x : String) (j : Nat) : Str := ⟨#[(Str.ofString x).cps.getD j 0]⟩
noncomputable def lrows : List (Int × Int × String) := [(64, 2048, "-xSs"), (8, 1024, "-xSs"), (1, 512, "-xTt")]
noncomputable def lstep (m : Int) (sg : Str) (r : Int × Int × String) : Str :=
  sg ++ Str.ofString (if (m.fdiv r.1).fmod 8 ≥ 4 then "r" else "-") ++ Str.ofString (if ((m.fdiv r.1).fmod 8).fmod 4 ≥ 2 then "w" else "-") ++ signAt r.2.2 (((m.fdiv r.1).fmod 8).fmod 2 + 2 * (m.fdiv r.2.1).fmod 2).toNat
noncomputable def listing (m : Int) : Str := lrows.foldl (lstep m) (signAt "?pc?d?b?-?l?s???" (m.fdiv 4096).toNat)
theorem str_len_append (x y : Str) : (x ++ y).length = x.length + y.length := by
  show (x.cps ++ y.cps).size = _
  rw [Array.size_append]; rfl
theorem lstep_len (m : Int) (sg : Str) (r : Int × Int × String) : (lstep m sg r).length = sg.length + 3 := by
  unfold lstep
  rw [str_len_append, str_len_append, str_len_append]
  have h1 : (Str.ofString (if (m.fdiv r.1).fmod 8 ≥ 4 then "r" else "-")).length = 1 := by split <;> rfl
  have h2 : (Str.ofString (if ((m.fdiv r.1).fmod 8).fmod 4 ≥ 2 then "w" else "-")).length = 1 := by split <;> rfl
  rw [h1, h2]; rfl
theorem na {a : Int} (h : 0 < a) (h1 : a ≤ 2048) : a.natAbs < 1073741824 := by lia
theorem bits4 (a b : Int) : 0 ≤ a.fmod 2 + 2 * b.fmod 2 ∧ a.fmod 2 + 2 * b.fmod 2 < 4 := by
  have h1 := Int.fmod_nonneg_of_pos a (show (0 : Int) < 2 by decide)
  have h2 := Int.fmod_lt_of_pos a (show (0 : Int) < 2 by decide)
  have h3 := Int.fmod_nonneg_of_pos b (show (0 : Int) < 2 by decide)
  have h4 := Int.fmod_lt_of_pos b (show (0 : Int) < 2 by decide)
  lia
theorem rbit (c : Prop) [Decidable c] : (Str.ofString (if decide c = true then "r" else "-")).length = 1 := by split <;> rfl
theorem wbit (c : Prop) [Decidable c] : (Str.ofString (if decide c = true then "w" else "-")).length = 1 := by split <;> rfl
section
variable {w : World} {A : Around} {E : Value → Shared → Prop} {s : Shared} {g g₀ : Heap} {L : Addr} {l : List (Str × Value)} {N : List (Addr × Obj)} {o : OsState} {mg mb : Str → Option Value} {K : Frag} {env : Env}
set_option maxHeartbeats 1000000
theorem listing_ok {m : Int} {t : Tok} {Q : Value → Shared → Prop} (G : Gv K mg mb g₀) (Kp : Keeps g₀ s.heap) (hh : A.handled = none) (hd : A.depth + 10 < recursionLimit) (hg : AllBare s.gens) (hm : 0 ≤ m ∧ m < 65536) (h : ∀ u s', Left s s' → Q (.str (listing m) u) s') :
    wpAny (model prog w) A (call (.ref 225) [.int m t]) Q E s := by
  refine call_fn (N := []) (binds := [(Str.ofString "mode", .int m t)]) G.lim Kp G.f225 (by lia) (by simp) hg rfl (.of_eq rfl) rfl rfl (by simp) ?_
  intro L s₁ S
  have hh' : ∀ env, (A.deeper env).handled = none := fun _ => hh
  walk_at "put"
  repeat (walk_at "1")
  rename St _ _ _ _ _ _ => S
  have hq : 0 ≤ m.fdiv 4096 ∧ m.fdiv 4096 < 16 := by rw [Int.fdiv_eq_ediv_of_nonneg _ (by lia)]; lia
  refine i_str (j := (m.fdiv 4096).toNat) (c := (Str.ofString "?pc?d?b?-?l?s???").cps.getD (m.fdiv 4096).toNat 0) S (Int.toNat_of_nonneg hq.1).symm (Nat.lt_trans (toNat_lt hq) (by decide)) ?_ ?_
  · exact cps_at (toNat_lt hq)
  intro u2 s2 S
  repeat (walk_at "e")
  rename St _ _ _ _ _ _ => S
  refine x_cons ?_
  refine w_forE (fun s' => Ex2 fun u G' => An2 (Keeps (hideAll s.heap []) G') (St G' L [(Str.ofString "mode", .int m t), (Str.ofString "signs", .str (listing m) u)] [] s.os s')) ?_ ?_
  · refine e_lst (spliced_more (e_tupIIS S ?_))
    intro T1 a1 b1 c1 _ S
    refine spliced_more (e_tupIIS S ?_)
    intro T2 a2 b2 c2 _ S
    refine spliced_more (e_tupIIS S ?_)
    intro T3 a3 b3 c3 _ S
    refine spliced_none (Made.go S (by simp) ?_)
    intro D _ S _ _
    obtain ⟨G2, kg1, kg2, kg3, S⟩ := S.rebase (N' := []) (List.nil_sublist _)
    have hD := kg2 _ (.head _) (by simp)
    have h3 := kg2 _ (.tail _ (.head _)) (by simp)
    have h2 := kg2 _ (.tail _ (.tail _ (.head _))) (by simp)
    have h1 := kg2 _ (.tail _ (.tail _ (.tail _ (.head _)))) (by simp)
    have hrow : ∀ (j : Nat) v, [Value.ref T1, Value.ref T2, Value.ref T3][j]? = some v → ∃ T x y z r, v = .ref T ∧ lrows[j]? = some r ∧ G2.get? T = some (seqObj "tuple" [.int r.1 x, .int r.2.1 y, .str (Str.ofString r.2.2) z].toArray 0) := fun j v hv => by
      match j, hv with
      | 0, hv => cases hv; exact ⟨_, _, _, _, _, rfl, rfl, h1⟩
      | 1, hv => cases hv; exact ⟨_, _, _, _, _, rfl, rfl, h2⟩
      | 2, hv => cases hv; exact ⟨_, _, _, _, _, rfl, rfl, h3⟩
      | j + 3, hv => simp at hv
    refine i_lst (xs := [Value.ref T1, Value.ref T2, Value.ref T3]) S (S.kept _ _ hD) ?_
    intro it s3 S
    have e0 : (⟨#[(Str.ofString "?pc?d?b?-?l?s???").cps.getD (m.fdiv 4096).toNat 0]⟩ : Str) = signAt "?pc?d?b?-?l?s???" (m.fdiv 4096).toNat := rfl
    rw [e0] at S
    generalize hxs : [Value.ref T1, Value.ref T2, Value.ref T3] = xs at hD hrow S
    have hxl : xs.length = 3 := by rw [← hxs]; rfl
    clear hxs h1 h2 h3
    refine ⟨fun n s' => Ex3 fun (j : Nat) (sg : Str) (u : Tok) => An5 (n = 3 - j) (j ≤ 3) (sg = (lrows.take j).foldl (lstep m) (signAt "?pc?d?b?-?l?s???" (m.fdiv 4096).toNat)) (sg.length ≤ 1 + 3 * j) (St G2 L [(Str.ofString "mode", .int m t), (Str.ofString "signs", .str sg u)] [(it, liObj D j)] s.os s'), _, ⟨0, _, u2, rfl, by lia, rfl, by show 1 ≤ _; lia, S⟩, ?_⟩
    intro n s4 hI₁ Q₁ X₁ hQ₁ hX₁
    obtain ⟨j, sg, u, rfl, hj, hsg, hsl, S⟩ := hI₁
    by_cases hj3 : j = 3
    · subst hj3
      refine n_li_end (hh' _) S 0 rfl ⟨_, _, S.kept _ _ hD, rfl⟩ (by lia) ?_
      intro s5 S
      refine wpAny_execs_nil ⟨rfl, hX₁ _ ⟨u, G2, kg1, ?_⟩⟩
      have S := (S.less (N' := []) (List.nil_sublist _))
      rw [hsg] at S
      exact S
    · have hjl : j < xs.length := by lia
      obtain ⟨T, x, y, z, r, hT, hr, hTo⟩ := hrow j _ (List.getElem?_eq_getElem hjl)
      refine n_li S 0 rfl ⟨_, _, S.kept _ _ hD, rfl⟩ (List.getElem?_eq_getElem hjl) ?_
      intro s5 S
      refine go_plain (S.at (.head _)) rfl rfl ?_
      rw [hT]
      refine as_tup (items := [_, _, _]) (hh' _) S (S.kept _ _ hTo) ?_
      intro s6 S
      refine assignInOrder_cons (wpAny_assign_Name (s_loc S ?_))
      intro s7 S
      refine assignInOrder_cons (wpAny_assign_Name (s_loc S ?_))
      intro s8 S
      refine assignInOrder_cons (wpAny_assign_Name (s_loc S ?_))
      intro s9 S
      refine assignInOrder_nil ?_
      walk_at "put"
      dsimp only [List.set_cons_zero] at S
      have hrr : 0 < r.1 ∧ r.1 ≤ 64 ∧ 0 < r.2.1 ∧ r.2.1 ≤ 2048 ∧ (Str.ofString r.2.2).cps.size = 4 := by
        have : r ∈ lrows := List.mem_of_getElem? hr
        simp only [lrows, List.mem_cons, List.not_mem_nil, or_false] at this
        rcases this with rfl | rfl | rfl <;> exact ⟨by decide, by decide, by decide, by decide, rfl⟩
      refine x_cons ?_
      repeat (walk_at "e")
      refine b_fdiv S (Int.ne_of_gt hrr.1) (na hrr.1 (Int.le_trans hrr.2.1 (by decide))) ?_
      intro _ _ S
      repeat (walk_at "e")
      rename St _ _ _ _ _ _ => S
      refine x_cons ?_
      refine wpAny_Assign_Name (wpAny_BinOp (wpAny_BinOp ?_))
      refine e_loc S rfl ?_
      refine e_ifS ?_
      repeat (walk_at "e")
      rename St _ _ _ _ _ _ => S
      refine ⟨_, _, _, _, _, S, ?_⟩
      intro _ _ S
      refine b_cat S (by rw [rbit]; lia) ?_
      intro _ _ S
      refine e_ifS ?_
      repeat (walk_at "e")
      rename St _ _ _ _ _ _ => S
      refine ⟨_, _, _, _, _, S, ?_⟩
      intro _ _ S
      refine b_cat S (by rw [str_len_append, rbit, wbit]; lia) ?_
      intro _ _ S
      repeat (walk_at "e")
      rename St _ _ _ _ _ _ => S
      refine x_cons ?_
      repeat (walk_at "e")
      rename St _ _ _ _ _ _ => S
      refine b_fdiv S (Int.ne_of_gt hrr.2.2.1) (na hrr.2.2.1 hrr.2.2.2.1) ?_
      intro _ _ S
      repeat (walk_at "e")
      rename St _ _ _ _ _ _ => S
      have hb : 0 ≤ ((m.fdiv r.1).fmod 8).fmod 2 + 2 * (m.fdiv r.2.1).fmod 2 ∧ ((m.fdiv r.1).fmod 8).fmod 2 + 2 * (m.fdiv r.2.1).fmod 2 < 4 := by
        exact bits4 _ _
      refine i_str (j := (((m.fdiv r.1).fmod 8).fmod 2 + 2 * (m.fdiv r.2.1).fmod 2).toNat) (c := (Str.ofString r.2.2).cps.getD (((m.fdiv r.1).fmod 8).fmod 2 + 2 * (m.fdiv r.2.1).fmod 2).toNat 0) S (Int.toNat_of_nonneg hb.1).symm (Nat.lt_trans (toNat_lt hb) (by decide)) ?_ ?_
      · exact cps_at (by rw [hrr.2.2.2.2]; exact toNat_lt hb)
      intro _ _ S
      refine b_cat S (by rw [str_len_append, str_len_append, rbit, wbit]; show _ + 1 ≤ _; lia) ?_
      intro _ _ S
      repeat (walk_at "1")
      rename St _ _ _ _ _ _ => S
      have e1 : sg ++ Str.ofString (if decide (4 ≤ (m.fdiv r.1).fmod 8) = true then "r" else "-") ++ Str.ofString (if decide (2 ≤ ((m.fdiv r.1).fmod 8).fmod 4) = true then "w" else "-") ++ signAt r.2.2 (((m.fdiv r.1).fmod 8).fmod 2 + 2 * (m.fdiv r.2.1).fmod 2).toNat = lstep m sg r := by
        unfold lstep; simp only [decide_eq_true_eq, ge_iff_le]
      refine hQ₁ _ _ ⟨3 - (j + 1), sub_dec hj hj3, j + 1, lstep m sg r, _, rfl, by lia, ?_, by rw [lstep_len]; lia, S.weak (by rw [← e1]; rfl)⟩
      rw [List.take_add_one, hr, hsg, List.foldl_append]; rfl
  · rintro s3 ⟨u3, G3, k3, S⟩
    repeat (walk_at "1")
    exact h _ _ (S.left' k3)
end

theorem listing_len (m : Int) : (listing m).cps.size = 10 := by
  show (listing m).length = 10
  unfold listing
  show (lstep m (lstep m (lstep m _ _) _) _).length = 10
  rw [lstep_len, lstep_len, lstep_len]; rfl
noncomputable def modeOf (n : Int) : Int := (33261 + n.fdiv 40 * 4099).fmod 65536
theorem modeOf_lt (n : Int) : 0 ≤ modeOf n ∧ modeOf n < 65536 := by unfold modeOf; exact ⟨Int.fmod_nonneg_of_pos _ (by decide), Int.fmod_lt_of_pos _ (by decide)⟩
noncomputable def signOf (n : Int) : Str := ⟨#[(listing (modeOf n)).cps.getD ((n.fdiv 4).fmod 10).toNat 0]⟩
noncomputable def madeOf (n : Int) : Str × Str := if n.fmod 4 = 0 then (Str.ofString "", signOf n) else if n.fmod 4 = 1 then (Str.ofString "", Str.ofString "") else if n.fmod 4 = 2 then (Str.ofString " ", Str.ofString "") else (Str.ofString "  ", signOf n)
noncomputable def WriteOk (w : World) (g : Heap) (f : Addr) : Prop := (∃ fd, FnAt g f fd) ∧ ∀ (m : Int) (t : Tok) (A : Around) (E : Value → Shared → Prop) (Q : Value → Shared → Prop) (s : Shared), 0 ≤ m ∧ m < 65536 → A.handled = none → A.depth + 10 < recursionLimit → AllBare s.gens → Keeps g s.heap →
  (∀ u s', Left s s' → Q (.str (listing m) u) s') → wpAny (model prog w) A (call (.ref f) [.int m t]) Q E s
theorem WriteOk.keeps {w : World} {g h : Heap} {f : Addr} (x : WriteOk w g f) (k : Keeps g h) : WriteOk w h f := ⟨by obtain ⟨fd, a⟩ := x.1; exact ⟨fd, a.keeps k⟩, fun m t A E Q s h1 h2 h3 h4 h5 h6 => x.2 m t A E Q s h1 h2 h3 h4 (k.trans h5) h6⟩
section
variable {w : World} {A : Around} {E : Value → Shared → Prop} {s : Shared} {g g₀ : Heap} {L : Addr} {l : List (Str × Value)} {N : List (Addr × Obj)} {o : OsState} {mg mb : Str → Option Value} {K : Frag} {env : Env}
theorem listing_write (G : Gv K mg mb g) : WriteOk w g 225 := ⟨⟨_, G.f225⟩, fun _ _ _ _ _ _ h1 h2 h3 h4 h5 h6 => listing_ok G h5 h2 h3 h4 h1 h6⟩
theorem e_tupSN {a : Str} {x : Str} {v : Value} {k k1 : Nat} {pos p1 p2 : Pos} {Q : Value → Shared → Prop} (S : St g L l N o s) (hv : l.lookup x = some v) (h : ∀ T t1 s', St g L l ((T, prObj (.str a t1) v) :: N) o s' → Q (.ref T) s')
    (hL : env.locals = L := by rfl) (hk : env.scope.kind = .function := by rfl) (hx : env.kindOf x = some .local := by rfl) (hd : (x == ("__debug__" : Str)) = false := by rfl) :
    wpAny (model prog w) A (eval (.Tuple [.Constant (.str a) k1 p1, .Name x p2] k pos) env) Q E s := by
  refine e_tup (spliced_more (e_str S ?_))
  intro t1 s1 S
  refine spliced_more (e_loc S hv ?_ hL hk hx hd)
  refine spliced_none (Made.go S (by simp) ?_)
  intro T s3 S _ _
  exact h T t1 s3 S
set_option maxHeartbeats 1000000
theorem made_ok {n : Int} {t : Tok} {f : Addr} {Q : Value → Shared → Prop} (G : Gv K mg mb g₀) (Kp : Keeps g₀ s.heap) (hh : A.handled = none) (hd : A.depth + 15 < recursionLimit) (hg : AllBare s.gens) (W : WriteOk w g₀ f)
    (h : ∀ T s', Left s s' → s.heap.get? T = none → Pc s'.heap (.ref T) (madeOf n) → Q (.ref T) s') :
    wpAny (model prog w) A (call (.ref 232) [.int n t, .ref f]) Q E s := by
  have k0 : Keeps g₀ (hideAll s.heap []) := Kp.hide (by simp)
  have Wg := W.keeps k0
  refine call_fn (N := []) (binds := [(Str.ofString "n", .int n t), (Str.ofString "writing", .ref f)]) G.lim Kp G.f232 (by walk_at "l") (by simp) hg rfl (.of_eq rfl) rfl rfl (by simp) ?_
  intro L s₁ S
  have hh' : ∀ env, (A.deeper env).handled = none := fun _ => hh
  walk_at "put"
  repeat (walk_at "1")
  obtain ⟨⟨fd, hf⟩, hw⟩ := Wg
  refine c_fn hf ?_
  repeat (walk_at "1")
  rename St _ _ _ _ _ _ => S
  refine ⟨⟨_, _, _, _, S⟩, ?_⟩
  refine hw (modeOf n) _ (A.deeper _) _ _ _ (modeOf_lt n) hh (dd hd (by decide)) S.gn S.kept ?_
  intro u s2 hl2
  have S := S.on hl2
  repeat (walk_at "1")
  rename St _ _ _ _ _ _ => S
  have hb : 0 ≤ (n.fdiv 4).fmod 10 ∧ (n.fdiv 4).fmod 10 < 10 := ⟨Int.fmod_nonneg_of_pos _ (by decide), Int.fmod_lt_of_pos _ (by decide)⟩
  refine i_str (j := ((n.fdiv 4).fmod 10).toNat) (c := (listing (modeOf n)).cps.getD ((n.fdiv 4).fmod 10).toNat 0) S (Int.toNat_of_nonneg hb.1).symm (Nat.lt_trans (toNat_lt hb) (by decide)) (cps_at (by rw [listing_len]; exact toNat_lt hb)) ?_
  intro us s3 S
  repeat (walk_at "e")
  rename St _ _ _ _ _ _ => S
  refine x_cons (wpAny_Return_some (Subscript_ ?_))
  refine e_lst (spliced_more (e_tupSN S rfl ?_))
  intro T1 a1 _ S
  refine spliced_more (e_tupSS S ?_)
  intro T2 a2 b2 _ S
  refine spliced_more (e_tupSS S ?_)
  intro T3 a3 b3 _ S
  refine spliced_more (e_tupSN S rfl ?_)
  intro T4 a4 _ S
  refine spliced_none (Made.go S (by simp) ?_)
  intro D _ S _ _
  repeat (walk_at "e")
  rename St _ _ _ _ _ _ => S
  have h4 : n.fmod 4 = 0 ∨ n.fmod 4 = 1 ∨ n.fmod 4 = 2 ∨ n.fmod 4 = 3 := by rw [Int.fmod_eq_emod_of_nonneg _ (by decide)]; lia
  have fin : ∀ T ob, (T, ob) ∈ [(D, seqObj "list" #[Value.ref T1, Value.ref T2, Value.ref T3, Value.ref T4] 0), (T4, prObj (Value.str (Str.ofString "  ") a4) (Value.str (signOf n) us)), (T3, prObj (Value.str (Str.ofString " ") a3) (Value.str (Str.ofString "") b3)), (T2, prObj (Value.str (Str.ofString "") a2) (Value.str (Str.ofString "") b2)), (T1, prObj (Value.str (Str.ofString "") a1) (Value.str (signOf n) us))] →
      s.heap.get? T = none := fun T ob hm => S.isNew (p := (T, ob)) hm (by simp)
  rcases h4 with h4 | h4 | h4 | h4
  · refine i_list (n := 0) (S.at (.head _)) h4 (by walk_at "l") rfl ?_
    refine h T1 _ S.left (fin T1 _ (.tail _ (.tail _ (.tail _ (.tail _ (.head _)))))) ⟨T1, 0, a1, us, rfl, ?_⟩
    simp only [madeOf, h4]
    exact S.at (.tail _ (.tail _ (.tail _ (.tail _ (.head _)))))
  · refine i_list (n := 1) (S.at (.head _)) h4 (by walk_at "l") rfl ?_
    refine h T2 _ S.left (fin T2 _ (.tail _ (.tail _ (.tail _ (.head _))))) ⟨T2, 0, a2, b2, rfl, ?_⟩
    simp only [madeOf, h4]
    exact S.at (.tail _ (.tail _ (.tail _ (.head _))))
  · refine i_list (n := 2) (S.at (.head _)) h4 (by walk_at "l") rfl ?_
    refine h T3 _ S.left (fin T3 _ (.tail _ (.tail _ (.head _)))) ⟨T3, 0, a3, b3, rfl, ?_⟩
    simp only [madeOf, h4]
    exact S.at (.tail _ (.tail _ (.head _)))
  · refine i_list (n := 3) (S.at (.head _)) h4 (by walk_at "l") rfl ?_
    refine h T4 _ S.left (fin T4 _ (.tail _ (.head _))) ⟨T4, 0, a4, us, rfl, ?_⟩
    simp only [madeOf, h4]
    exact S.at (.tail _ (.head _))
end

section
variable {M : Nat}
theorem and_bit (M i : Nat) : M &&& 2 ^ i = (M / 2 ^ i % 2) * 2 ^ i := by
  have key : M &&& 2 ^ i = if M.testBit i then 2 ^ i else 0 := by
    apply Nat.eq_of_testBit_eq
    intro j
    rw [Nat.testBit_and, Nat.testBit_two_pow]
    by_cases hij : i = j
    · subst hij
      cases h : M.testBit i
      · simp
      · simp [Nat.testBit_two_pow]
    · cases h : M.testBit i
      · simp [hij]
      · simp [hij, Nat.testBit_two_pow]
  rw [key, Nat.testBit_eq_decide_div_mod_eq]
  rcases Nat.mod_two_eq_zero_or_one (M / 2 ^ i) with h | h <;> simp [h]
theorem bit01 (M d : Nat) : M / d % 2 = 0 ∨ M / d % 2 = 1 := Nat.mod_two_eq_zero_or_one _
theorem hits_nat {k : Nat} (hk : k ≠ 0) (M b : Nat) : hits k (M : Int) (b : Int) = decide (M &&& b = b) := by
  unfold hits
  rw [if_neg hk, bitAnd_pp (by lia) (by lia)]
  simp only [Int.toNat_natCast]
  by_cases h : M &&& b = b
  · simp [h]
  · simp only [h, decide_false, decide_eq_false_iff_not]
    intro q; exact h (by exact_mod_cast q)
theorem hits0_nat (M b : Nat) : hits 0 (M : Int) (b : Int) = decide (M &&& 61440 = b) := by
  unfold hits
  rw [if_pos rfl, show (61440 : Int) = ((61440 : Nat) : Int) from rfl, bitAnd_pp (by lia) (by lia)]
  simp only [Int.toNat_natCast]
  by_cases h : M &&& 61440 = b
  · simp [h]
  · simp only [h, decide_false, decide_eq_false_iff_not]
    intro q; exact h (by exact_mod_cast q)
theorem fd (M d : Nat) : (M : Int).fdiv (d : Int) = ((M / d : Nat) : Int) := by rw [Int.fdiv_eq_ediv_of_nonneg _ (by lia)]; rfl
theorem fm (M d : Nat) : (M : Int).fmod (d : Int) = ((M % d : Nat) : Int) := by rw [Int.fmod_eq_emod_of_nonneg _ (by lia)]; rfl
theorem or2 (M a b : Nat) : M &&& (2 ^ a ||| 2 ^ b) = (M / 2 ^ a % 2) * 2 ^ a ||| (M / 2 ^ b % 2) * 2 ^ b := by rw [Nat.and_or_distrib_left, and_bit, and_bit]
theorem bit_r (M d : Nat) : ((M / d % 8 : Nat) : Int) ≥ 4 ↔ M / (d * 4) % 2 = 1 := by
  rw [← Nat.div_div_eq_div_mul, ← Nat.mod_mul_right_div_self (M / d) 4 2]
  have hb := Nat.mod_lt (M / d) (show 8 > 0 by decide)
  show ((M / d % 8 : Nat) : Int) ≥ 4 ↔ M / d % 8 / 4 = 1
  generalize M / d % 8 = b at hb
  revert b; decide
theorem bit_w (M d : Nat) : ((M / d % 8 % 4 : Nat) : Int) ≥ 2 ↔ M / (d * 2) % 2 = 1 := by
  rw [← Nat.div_div_eq_div_mul, ← Nat.mod_mul_right_div_self (M / d) 2 2, Nat.mod_mod_of_dvd (M / d) (show 4 ∣ 8 from ⟨2, rfl⟩)]
  have hb := Nat.mod_lt (M / d) (show 4 > 0 by decide)
  show ((M / d % 4 : Nat) : Int) ≥ 2 ↔ M / d % 4 / 2 = 1
  generalize M / d % 4 = b at hb
  revert b; decide
theorem bit_x (M d e : Nat) : (((M / d % 8 % 2 : Nat) : Int) + 2 * ((M / e % 2 : Nat) : Int)).toNat = M / d % 2 + 2 * (M / e % 2) := by
  have h : M / d % 8 % 2 = M / d % 2 := Nat.mod_mod_of_dvd _ ⟨4, rfl⟩
  rw [h]; rfl
theorem one_sign {k : Nat} (hk : k ≠ 0) (M i : Nat) (c : String) : pickC k (M : Int) [(((2 ^ i : Nat) : Int), c)] = Str.ofString (if M / 2 ^ i % 2 = 1 then c else "-") := by
  unfold pickC
  simp only [List.find?_cons, List.find?_nil, hits_nat hk, and_bit, hk, if_false]
  rcases bit01 M (2 ^ i) with h | h
  · have : ¬ (0 * 2 ^ i = 2 ^ i) := by have := Nat.two_pow_pos i; lia
    simp only [h, this, decide_false, Nat.zero_ne_one, if_false]
  · simp only [h, Nat.one_mul, decide_true, if_true]
theorem three_signs {k : Nat} (hk : k ≠ 0) (M i j : Nat) (c : Nat) (hc : c = 2 ^ i ||| 2 ^ j) (s S x : String)
    (h00 : ¬ ((0 : Nat) * 2 ^ i ||| 0 * 2 ^ j) = 2 ^ i ||| 2 ^ j) (h01 : ¬ (0 * 2 ^ i ||| 2 ^ j) = 2 ^ i ||| 2 ^ j) (h10 : ¬ (2 ^ i ||| 0 * 2 ^ j) = 2 ^ i ||| 2 ^ j) :
    pickC k (M : Int) [((c : Int), s), (((2 ^ j : Nat) : Int), S), (((2 ^ i : Nat) : Int), x)] = Str.ofString (if M / 2 ^ i % 2 = 1 then (if M / 2 ^ j % 2 = 1 then s else x) else (if M / 2 ^ j % 2 = 1 then S else "-")) := by
  have n1 : ∀ e, ¬ (0 * 2 ^ e = 2 ^ e) := fun e => by have := Nat.two_pow_pos e; lia
  unfold pickC
  subst hc
  simp only [List.find?_cons, List.find?_nil, hits_nat hk, and_bit, or2, hk, if_false]
  rcases bit01 M (2 ^ i) with h | h <;> rcases bit01 M (2 ^ j) with h' | h' <;> simp only [h, h', h00, h01, h10, n1, Nat.one_mul, decide_true, decide_false, if_true, if_false, Nat.zero_ne_one]
theorem type_sign (M : Nat) (hM : M < 65536) : pickC 0 (M : Int) (ftab.getD 0 []) = signAt "?pc?d?b?-?l?s???" (M / 4096) := by
  have e : ftab.getD 0 [] = [(((40960 : Nat) : Int), "l"), (((49152 : Nat) : Int), "s"), (((32768 : Nat) : Int), "-"), (((24576 : Nat) : Int), "b"), (((16384 : Nat) : Int), "d"), (((8192 : Nat) : Int), "c"), (((4096 : Nat) : Int), "p")] := rfl
  have h4 : M &&& 61440 = ((M / 4096 % 2) * 2 ^ 12 ||| (M / 8192 % 2) * 2 ^ 13) ||| ((M / 16384 % 2) * 2 ^ 14 ||| (M / 32768 % 2) * 2 ^ 15) := by
    rw [show 61440 = (2 ^ 12 ||| 2 ^ 13) ||| (2 ^ 14 ||| 2 ^ 15) from by decide, Nat.and_or_distrib_left, or2, or2]
  rw [show M / 8192 = M / 4096 / 2 from (Nat.div_div_eq_div_mul M 4096 2).symm, show M / 16384 = M / 4096 / 4 from (Nat.div_div_eq_div_mul M 4096 4).symm, show M / 32768 = M / 4096 / 8 from (Nat.div_div_eq_div_mul M 4096 8).symm] at h4
  rw [e]
  unfold pickC
  simp only [List.find?_cons, List.find?_nil, hits0_nat, h4]
  have ha : M / 4096 < 16 := Nat.div_lt_of_lt_mul hM
  clear h4
  generalize M / 4096 = a at ha
  revert a
  decide +kernel
theorem fmode_listing {m : Int} (hm : 0 ≤ m ∧ m < 65536) : fmode m = listing m := by
  obtain ⟨M, rfl⟩ := Int.eq_ofNat_of_zero_le hm.1
  have hM : M < 65536 := by lia
  have nz : ∀ k : Nat, k + 1 ≠ 0 := fun k => by lia
  have g1 := type_sign M hM
  have c1 := one_sign (nz 0) M 8 "r"
  have c2 := one_sign (nz 1) M 7 "w"
  have c3 := three_signs (nz 2) M 6 11 2112 (by decide) "s" "S" "x" (by decide) (by decide) (by decide)
  have c4 := one_sign (nz 3) M 5 "r"
  have c5 := one_sign (nz 4) M 4 "w"
  have c6 := three_signs (nz 5) M 3 10 1032 (by decide) "s" "S" "x" (by decide) (by decide) (by decide)
  have c7 := one_sign (nz 6) M 2 "r"
  have c8 := one_sign (nz 7) M 1 "w"
  have c9 := three_signs (nz 8) M 0 9 513 (by decide) "t" "T" "x" (by decide) (by decide) (by decide)
  have e : fchars (M : Int) = [pickC 0 M (ftab.getD 0 []), pickC 1 M [(((2 ^ 8 : Nat) : Int), "r")], pickC 2 M [(((2 ^ 7 : Nat) : Int), "w")], pickC 3 M [(((2112 : Nat) : Int), "s"), (((2 ^ 11 : Nat) : Int), "S"), (((2 ^ 6 : Nat) : Int), "x")],
    pickC 4 M [(((2 ^ 5 : Nat) : Int), "r")], pickC 5 M [(((2 ^ 4 : Nat) : Int), "w")], pickC 6 M [(((1032 : Nat) : Int), "s"), (((2 ^ 10 : Nat) : Int), "S"), (((2 ^ 3 : Nat) : Int), "x")],
    pickC 7 M [(((2 ^ 2 : Nat) : Int), "r")], pickC 8 M [(((2 ^ 1 : Nat) : Int), "w")], pickC 9 M [(((513 : Nat) : Int), "t"), (((2 ^ 9 : Nat) : Int), "T"), (((2 ^ 0 : Nat) : Int), "x")]] := rfl
  have glue : ∀ a b c d e f g h i j : Str, Txt.join (Str.ofString "") [a, b, c, d, e, f, g, h, i, j] = a ++ b ++ c ++ d ++ e ++ f ++ g ++ h ++ i ++ j := fun a b c d e f g h i j => by
    have e0 : (Str.ofString "").cps = #[] := rfl
    unfold Txt.join Builtin.Str.glued
    simp only [List.drop_succ_cons, List.drop_zero, List.foldl_cons, List.foldl_nil, e0, Array.append_empty, List.headD_cons]
    rfl
  have xsS : ∀ a b : Nat, (a = 0 ∨ a = 1) → (b = 0 ∨ b = 1) → Str.ofString (if a = 1 then (if b = 1 then "s" else "x") else (if b = 1 then "S" else "-")) = signAt "-xSs" (a + 2 * b) := by
    rintro a b (rfl | rfl) (rfl | rfl) <;> rfl
  have xtT : ∀ a b : Nat, (a = 0 ∨ a = 1) → (b = 0 ∨ b = 1) → Str.ofString (if a = 1 then (if b = 1 then "t" else "x") else (if b = 1 then "T" else "-")) = signAt "-xTt" (a + 2 * b) := by
    rintro a b (rfl | rfl) (rfl | rfl) <;> rfl
  unfold fmode
  rw [e, glue, g1, c1, c2, c3, c4, c5, c6, c7, c8, c9, xsS _ _ (bit01 ..) (bit01 ..), xsS _ _ (bit01 ..) (bit01 ..), xtT _ _ (bit01 ..) (bit01 ..)]
  unfold listing
  show _ = lstep M (lstep M (lstep M _ _) _) _
  unfold lstep
  have dv : ∀ d : Nat, (M : Int).fdiv (d : Int) = ((M / d : Nat) : Int) := fd M
  have md : ∀ a d : Nat, (a : Int).fmod (d : Int) = ((a % d : Nat) : Int) := fm
  have x0 : ((M : Int).fdiv 4096).toNat = M / 4096 := by rw [show (4096 : Int) = ((4096 : Nat) : Int) from rfl, dv]; rfl
  rw [x0]
  have n8 : (8 : Int) = ((8 : Nat) : Int) := rfl
  have n4 : (4 : Int) = ((4 : Nat) : Int) := rfl
  have n2 : (2 : Int) = ((2 : Nat) : Int) := rfl
  have v8 : ∀ a : Nat, (a : Int).fmod 8 = ((a % 8 : Nat) : Int) := fun a => md a 8
  have v4 : ∀ a : Nat, (a : Int).fmod 4 = ((a % 4 : Nat) : Int) := fun a => md a 4
  have v2 : ∀ a : Nat, (a : Int).fmod 2 = ((a % 2 : Nat) : Int) := fun a => md a 2
  have d64 : (M : Int).fdiv 64 = ((M / 64 : Nat) : Int) := dv 64
  have a2048 : (M : Int).fdiv 2048 = ((M / 2048 : Nat) : Int) := dv 2048
  have d8 : (M : Int).fdiv 8 = ((M / 8 : Nat) : Int) := dv 8
  have a1024 : (M : Int).fdiv 1024 = ((M / 1024 : Nat) : Int) := dv 1024
  have d1 : (M : Int).fdiv 1 = ((M / 1 : Nat) : Int) := dv 1
  have a512 : (M : Int).fdiv 512 = ((M / 512 : Nat) : Int) := dv 512
  dsimp only
  simp only [d64, d8, d1, a2048, a1024, a512, v8, v4, v2]
  have r64 : ((M / 64 % 8 : Nat) : Int) ≥ 4 ↔ M / 2 ^ 8 % 2 = 1 := bit_r M 64
  have w64 : ((M / 64 % 8 % 4 : Nat) : Int) ≥ 2 ↔ M / 2 ^ 7 % 2 = 1 := bit_w M 64
  have x64 : (((M / 64 % 8 % 2 : Nat) : Int) + 2 * ((M / 2048 % 2 : Nat) : Int)).toNat = M / 2 ^ 6 % 2 + 2 * (M / 2 ^ 11 % 2) := bit_x M 64 2048
  have r8 : ((M / 8 % 8 : Nat) : Int) ≥ 4 ↔ M / 2 ^ 5 % 2 = 1 := bit_r M 8
  have w8 : ((M / 8 % 8 % 4 : Nat) : Int) ≥ 2 ↔ M / 2 ^ 4 % 2 = 1 := bit_w M 8
  have x8 : (((M / 8 % 8 % 2 : Nat) : Int) + 2 * ((M / 1024 % 2 : Nat) : Int)).toNat = M / 2 ^ 3 % 2 + 2 * (M / 2 ^ 10 % 2) := bit_x M 8 1024
  have r1 : ((M / 1 % 8 : Nat) : Int) ≥ 4 ↔ M / 2 ^ 2 % 2 = 1 := bit_r M 1
  have w1 : ((M / 1 % 8 % 4 : Nat) : Int) ≥ 2 ↔ M / 2 ^ 1 % 2 = 1 := bit_w M 1
  have x1 : (((M / 1 % 8 % 2 : Nat) : Int) + 2 * ((M / 512 % 2 : Nat) : Int)).toNat = M / 2 ^ 0 % 2 + 2 * (M / 2 ^ 9 % 2) := bit_x M 1 512
  simp only [r64, w64, x64, r8, w8, x8, r1, w1, x1]
end

section
variable {w : World} {A : Around} {E : Value → Shared → Prop} {s : Shared} {g g₀ : Heap} {L : Addr} {l : List (Str × Value)} {N : List (Addr × Obj)} {o : OsState} {mg mb : Str → Option Value} {K : Frag} {env : Env}
theorem c_fnM {pos : Pos} {f : Addr} {fd : FuncData} {first : List Value} {e : Expr} {rest : List Expr} {Q : Value → Shared → Prop} (hf : FnAt g f fd)
    (h : wpAny (model prog w) A (spliced (backTo pos (starEach (e :: rest) env))) (fun vs s₁ => (∃ L l N o, St g L l N o s₁) ∧ wpAny (model prog w) A (call (.ref f) (first ++ vs)) Q E s₁) E s)
    (he : starEach (e :: rest) env = (false, eval e env) :: starEach rest env := by rfl) (hplain : (backTo pos (starEach rest env)).any (·.1) = false := by rfl) :
    wpAny (model prog w) A (callWith pos (.ref f) first (backTo pos (starEach (e :: rest) env)) []) Q E s := by
  have h2 := wpAny_mono h (Q' := fun vs s₁ => s₁.heap.get? f = some { cls := .type "function", data := .func fd } ∧ wpAny (model prog w) A (call (.ref f) (first ++ vs)) Q E s₁) (fun vs s₁ h₁ => by obtain ⟨⟨L, l, N, o, S⟩, h₁⟩ := h₁; exact ⟨S.kept _ _ hf.ob, h₁⟩) fun _ _ x => x
  rw [he] at h2 ⊢
  exact callWith_of (P := fun hp => hp.get? f = some { cls := .type "function", data := .func fd }) (by show ((false || (backTo pos (starEach rest env)).any (·.1)) || false) = false; rw [hplain]; rfl)
    (fun hp hx => ⟨.frame, .inl rfl, (Looks.ld (part := none) hx).andThen .now⟩) (evalArgs_plain h2)
theorem Cl.keep {g : Heap} (C : Cl K g) : keepIn K (.ref 167) = true := by
  obtain ⟨oc, od, cd, sl, e, _⟩ := C.mk4
  unfold keepIn
  dsimp only
  rw [e]
  dsimp only
  rw [C.call']
  rfl
theorem c_cls {pos : Pos} {e : Expr} {rest : List Expr} {Q : Value → Shared → Prop} (C : Cl K g)
    (h : wpAny (model prog w) A (spliced (backTo pos (starEach (e :: rest) env))) (fun vs s₁ => (∃ L l N o, St g L l N o s₁) ∧ wpAny (model prog w) A (call (.ref 167) vs) Q E s₁) E s)
    (he : starEach (e :: rest) env = (false, eval e env) :: starEach rest env := by rfl) (hplain : (backTo pos (starEach rest env)).any (·.1) = false := by rfl) :
    wpAny (model prog w) A (callWith pos (.ref 167) [] (backTo pos (starEach (e :: rest) env)) []) Q E s :=
  callWith_K C.X C.keep (wpAny_mono h (fun vs s₁ h₁ => by obtain ⟨⟨L, l, N, o, S⟩, h₁⟩ := h₁; exact ⟨C.X.keeps S.kept, h₁⟩) fun _ _ x => x) he hplain
set_option maxHeartbeats 1000000
theorem filled_ok {a : Int} {ta : Tok} {P : Addr} {qs : List Value} {e : Nat} {ps : List (Str × Str)} {Q : Value → Shared → Prop} (G : Gv K mg mb g₀) (Kp : Keeps g₀ s.heap) (hh : A.handled = none) (hd : A.depth + 15 < recursionLimit) (hg : AllBare s.gens)
    (hP : s.heap.get? P = some (seqObj "list" qs.toArray e)) (hq : Pcs s.heap qs ps) (hz : qs.length < 64)
    (h : ∀ x dx n t xs s', Left s s' → s.heap.get? x = none → s.heap.get? dx = none → x ≠ dx → s'.heap.get? x = some (accObj xs n dx) → s'.heap.get? dx = some (dOb w (.int a ta) t) → Pcs s'.heap xs ps → Q (.ref x) s') :
    wpAny (model prog w) A (call (.ref 239) [.int a ta, .ref P]) Q E s := by
  have k0 : Keeps g₀ (hideAll s.heap []) := Kp.hide (by simp)
  have Gg := G.keeps k0
  refine call_fn (N := []) (binds := [(Str.ofString "size", .int a ta), (Str.ofString "pieces", .ref P)]) G.lim Kp G.f239 (by walk_at "l") (by simp) hg rfl (.of_eq rfl) rfl rfl (by simp) ?_
  intro L s₁ S
  have hh' : ∀ env, (A.deeper env).handled = none := fun _ => hh
  walk_at "put"
  repeat (walk_at "1")
  refine e_glob S Gg.gs Gg.n167 ?_
  refine c_cls Gg.toCl ?_
  repeat (walk_at "1")
  refine ⟨⟨_, _, _, _, S⟩, ?_⟩
  refine make_ok (A := A.deeper _) Gg.toGw S.kept (dd hd (by decide)) S.gn ?_
  intro x dx n0 t0 s2 hx0 hd0 hne k2 hx hdx ho2 hg2
  have fx := S.fresh hx0
  have fd := S.fresh hd0
  have S2 : St (hideAll s.heap []) L [(Str.ofString "size", .int a ta), (Str.ofString "pieces", .ref P)] [(x, accObj [] n0 dx), (dx, dOb w (.int a ta) t0)] s.os s2 := by
    refine (S.weak rfl).next (ms := []) (fun b ob _ e => k2 b ob e) (by simp) (fun p hp => ?_) (by simpa using hne) (ho2.trans S.os) hg2
    simp at hp
    rcases hp with rfl | rfl
    · exact ⟨hx, fx⟩
    · exact ⟨hdx, fd⟩
  clear S
  repeat (walk_at "e")
  rename St _ _ _ _ _ _ => S
  refine x_cons ?_
  refine w_forE (fun s' => Ex3 fun (xs : List Value) (n : Nat) (G' : Heap) => An3 (Keeps (hideAll s.heap []) G') (Pcs G' xs ps) (St G' L [(Str.ofString "size", .int a ta), (Str.ofString "pieces", .ref P), (Str.ofString "row", .ref x)] [(x, accObj xs n dx), (dx, dOb w (.int a ta) t0)] s.os s')) ?_ ?_
  · repeat (walk_at "1")
    have hP' : (hideAll s.heap []).get? P = some (seqObj "list" qs.toArray e) := hideAll_get _ hP (by simp)
    have hq' : Pcs (hideAll s.heap []) qs ps := hq.keeps fun b ob e => hideAll_get _ e (by simp)
    refine i_lst S (S.kept _ _ hP') ?_
    intro it s3 S
    refine ⟨fun m s' => Ex4 fun (j : Nat) (xs : List Value) (n : Nat) (G' : Heap) => An6 (m = qs.length - j) (j ≤ qs.length) (xs.length = j) (Keeps (hideAll s.heap []) G') (Pcs G' xs (ps.take j)) (St G' L [(Str.ofString "size", .int a ta), (Str.ofString "pieces", .ref P), (Str.ofString "row", .ref x)] [(it, liObj P j), (x, accObj xs n dx), (dx, dOb w (.int a ta) t0)] s.os s'), _, ⟨0, [], n0, _, rfl, Nat.zero_le _, rfl, .refl _, ⟨rfl, by simp⟩, S⟩, ?_⟩
    intro m s4 hI₁ Q₁ X₁ hQ₁ hX₁
    obtain ⟨j, xs, n, G', rfl, hj, hxl, kG, hpc, S⟩ := hI₁
    by_cases hjq : j = qs.length
    · subst hjq
      refine n_li_end (hh' _) S 0 rfl ⟨_, _, S.kept _ _ (kG _ _ hP'), rfl⟩ (Nat.le_refl _) ?_
      intro s5 S
      refine wpAny_execs_nil ⟨rfl, hX₁ _ ⟨xs, n, G', kG, ?_, S.less (.cons _ (.refl _))⟩⟩
      rwa [List.take_of_length_le (by rw [← hq.1]; lia)] at hpc
    · have hjl : j < qs.length := by walk_at "l"
      have hjp : j < ps.length := by rw [← hq.1]; exact hjl
      obtain ⟨T, eT, ua, ub, hT, hTo⟩ := hq'.2 j _ _ (List.getElem?_eq_getElem hjl) (List.getElem?_eq_getElem hjp)
      refine n_li S 0 rfl ⟨_, _, S.kept _ _ (kG _ _ hP'), rfl⟩ (List.getElem?_eq_getElem hjl) ?_
      intro s5 S
      refine go_plain (S.at (.head _)) rfl rfl ?_
      rw [hT]
      refine as_tup (items := [_, _]) (hh' _) S (S.kept _ _ (kG _ _ hTo)) ?_
      intro s6 S
      refine assignInOrder_cons (wpAny_assign_Name (s_loc S ?_))
      intro s7 S
      refine assignInOrder_cons (wpAny_assign_Name (s_loc S ?_))
      intro s8 S
      refine assignInOrder_nil ?_
      walk_at "put"
      dsimp only [List.set_cons_zero] at S
      refine x_cons ?_
      repeat (walk_at "e")
      have GG := Gg.keeps kG
      refine m_acc (GG.toCl.keeps S.kept) ⟨S.at (.tail _ (.head _)), S.at (.tail _ (.tail _ (.head _)))⟩ GG.psh GG.psh' (.inl rfl) (dOb_push _ _ _) ?_
      refine c_fnM GG.f113 ?_
      repeat (walk_at "1")
      refine ⟨⟨_, _, _, _, S⟩, ?_⟩
      refine push_ok (A := A.deeper _) (od := dOb w (.int a ta) t0) GG.toGw S.kept (S.nw _ (.tail _ (.head _))).2.2 (dd hd (by decide)) S.gn (S.at (.tail _ (.head _))) (S.at (.tail _ (.tail _ (.head _)))) hne.symm (dOb_append _ _ _) (by walk_at "l") ?_
      intro T2 s9 hT0 k9 hx9 hT9 ho9 hg9
      have fT := S.fresh hT0
      have nT1 : T2 ≠ x := fun q => by rw [q, S.at (.tail _ (.head _))] at hT0; cases hT0
      have nT2 : T2 ≠ dx := fun q => by rw [q, S.at (.tail _ (.tail _ (.head _)))] at hT0; cases hT0
      have nT3 : T2 ≠ it := fun q => by rw [q, S.at (.head _)] at hT0; cases hT0
      have S9 : St G' L [(Str.ofString "size", .int a ta), (Str.ofString "pieces", .ref P), (Str.ofString "row", .ref x)] [(T2, prObj (.str (ps[j]).1 ua) (.str (ps[j]).2 ub)), (it, liObj P (j + 1)), (x, accObj (xs ++ [.ref T2]) (n + 1) dx), (dx, dOb w (.int a ta) t0)] s.os s9 := by
        refine (S.weak rfl).next (ms := [x]) k9 (by intro b hb; simp at hb; subst hb; exact (S.nw _ (.tail _ (.head _))).2) (fun p hp => ?_) (List.nodup_cons.mpr ⟨nin3 nT3 nT1 nT2, S.nd⟩) (ho9.trans S.os) hg9
        simp at hp
        rcases hp with rfl | rfl | rfl | rfl
        · exact ⟨hT9, fT⟩
        · exact ⟨k9 _ _ (nin1 (S.apart 0 1 rfl rfl (by decide))) (S.at (.head _)), (S.nw _ (.head _)).2⟩
        · exact ⟨hx9, (S.nw _ (.tail _ (.head _))).2⟩
        · exact ⟨k9 _ _ (by simpa using hne.symm) (S.at (.tail _ (.tail _ (.head _)))), (S.nw _ (.tail _ (.tail _ (.head _)))).2⟩
      obtain ⟨G2, kg1, kg2, kg3, S10⟩ := S9.rebase (N' := [(it, liObj P (j + 1)), (x, accObj (xs ++ [.ref T2]) (n + 1) dx), (dx, dOb w (.int a ta) t0)]) (.cons _ (.refl _))
      have hob := kg2 _ (.head _) (S9.out0 (.refl _))
      repeat (walk_at "1")
      refine hQ₁ _ _ ⟨qs.length - (j + 1), by walk_at "l", j + 1, xs ++ [.ref T2], n + 1, G2, rfl, by walk_at "l", by simp [hxl], kG.trans kg1, ?_, S10⟩
      refine ⟨by simp [hxl]; lia, fun i v p hv hp => ?_⟩
      rw [List.take_add_one, List.getElem?_eq_getElem hjp] at hp
      by_cases hi : i < j
      · rw [List.getElem?_append_left (by walk_at "l")] at hv
        rw [List.getElem?_append_left (by simp; lia)] at hp
        exact (hpc.2 i v p hv hp).keeps kg1
      · have hi2 : i = j := by
          have := (List.getElem?_eq_some_iff.mp hv).1
          simp at this; lia
        subst hi2
        rw [List.getElem?_append_right (by walk_at "l")] at hv
        rw [List.getElem?_append_right (by simp; lia)] at hp
        simp [hxl] at hv
        simp [Nat.min_eq_left (Nat.le_of_lt hjp)] at hp
        subst hv hp
        exact ⟨T2, 0, ua, ub, rfl, hob⟩
  · rintro s3 ⟨xs, n, G', kG, hpc, S⟩
    repeat (walk_at "1")
    exact h x dx n t0 xs _ (S.left' kG) (S.isNew' kG (p := (x, _)) (.head _) (by simp)) (S.isNew' kG (p := (dx, _)) (.tail _ (.head _)) (by simp)) hne (S.at (.head _)) (S.at (.tail _ (.head _))) (hpc.keeps S.kept)
end

section
theorem countP_or {α : Type} (p q : α → Bool) (hd : ∀ a, p a = true → q a = false) : ∀ l : List α, l.countP (fun a => p a || q a) = l.countP p + l.countP q
  | [] => rfl
  | a :: l => by
    have ih := countP_or p q hd l
    cases hp : p a with
    | true => have := hd a hp; simp [hp, this, ih]; lia
    | false => cases hq : q a <;> simp [hp, hq, ih]; lia
theorem countP_lt {α : Type} (p q : α → Bool) (hi : ∀ a, p a = true → q a = true) : ∀ (l : List α) (b : α), b ∈ l → q b = true → p b = false → l.countP p < l.countP q
  | [], b, hb, _, _ => by simp at hb
  | a :: l, b, hb, h1, h2 => by
    have le : l.countP p ≤ l.countP q := List.countP_mono_left fun x _ hx => hi x hx
    rcases List.mem_cons.mp hb with rfl | hb
    · simp [h1, h2]; lia
    · have ih := countP_lt p q hi l b hb h1 h2
      cases hp : p a with
      | true => have := hi a hp; simp [hp, this]; lia
      | false => cases hq : q a <;> simp [hp, hq] <;> lia
theorem countP_below (e : Nat → Bool) (i : Nat) : ∀ n, i ≤ n → (List.range n).countP (fun j => decide (j < i) && e j) = (List.range i).countP e
  | 0, h => by simp at h; subst h; rfl
  | n + 1, h => by
    by_cases hi : i = n + 1
    · subst hi
      exact List.countP_congr fun j hj => by simp [List.mem_range.mp hj]
    · rw [List.range_succ, List.countP_append, countP_below e i n (by walk_at "l")]
      simp; lia
variable {L : Nat → Nat → Bool} {n : Nat}
noncomputable def ahead (L : Nat → Nat → Bool) (n i : Nat) : Nat := (List.range n).countP fun j => L j i || (!L i j && decide (j < i))
theorem ahead_iff {i j : Nat} : (L j i || (!L i j && decide (j < i))) = true ↔ TT L j i := by
  unfold TT
  cases L j i <;> cases L i j <;> simp
theorem ahead_lt (W : WA L) {i j : Nat} (hi : i < n) (h : TT L i j) : ahead L n i < ahead L n j := by
  refine countP_lt _ _ (fun k hk => ?_) _ i (List.mem_range.mpr hi) (ahead_iff.mpr h) ?_
  · rw [ahead_iff] at *
    exact TT.tr (W (i + j + k + 1)) (by walk_at "l") (by walk_at "l") (by walk_at "l") hk h
  · cases q : (L i i || (!L i i && decide (i < i))) with
    | false => rfl
    | true => exact absurd (ahead_iff.mp q) (TT.asym (W (i + 1)) (by walk_at "l") (by walk_at "l") (ahead_iff.mp q))
theorem ahead_le (W : WA L) {i : Nat} (hi : i < n) : ahead L n i < n := by
  have h := countP_lt (fun j => L j i || (!L i j && decide (j < i))) (fun _ => true) (fun _ _ => rfl) (List.range n) i (List.mem_range.mpr hi) rfl (by
    cases q : (L i i || (!L i i && decide (i < i))) with
    | false => rfl
    | true => exact absurd (ahead_iff.mp q) (TT.asym (W (i + 1)) (by walk_at "l") (by walk_at "l") (ahead_iff.mp q)))
  simpa [ahead] using h
noncomputable def spotsOf (L : Nat → Nat → Bool) (n : Nat) : List Nat := (List.range n).map (ahead L n)
theorem spots_perm (W : WA L) : (spotsOf L n).Perm (List.range n) := by
  refine nodup_perm n _ ?_ (by simp [spotsOf]) fun x hx => ?_
  · unfold spotsOf
    rw [List.nodup_iff_pairwise_ne, List.pairwise_map]
    refine List.Pairwise.imp_of_mem ?_ (List.nodup_iff_pairwise_ne.mp List.nodup_range)
    intro a b ha hb hne e
    rcases TT.tot (L := L) hne with q | q
    · have := ahead_lt W (List.mem_range.mp ha) q; lia
    · have := ahead_lt W (List.mem_range.mp hb) q; lia
  · obtain ⟨i, hi, rfl⟩ := List.mem_map.mp hx
    exact ahead_le W (List.mem_range.mp hi)
theorem spot_at (W : WA L) {k : Nat} (hk : k < n) : (spotsOf L n).idxOf k < n ∧ ahead L n ((spotsOf L n).idxOf k) = k := by
  have hm : k ∈ spotsOf L n := (spots_perm W).mem_iff.mpr (List.mem_range.mpr hk)
  have h1 : (spotsOf L n).idxOf k < (spotsOf L n).length := List.idxOf_lt_length_of_mem hm
  have h2 : (spotsOf L n).length = n := by simp [spotsOf]
  refine ⟨by walk_at "l", ?_⟩
  have h3 := List.getElem_idxOf h1
  have key : ∀ i (h : i < (spotsOf L n).length), (spotsOf L n)[i] = ahead L n i := fun i h => by simp [spotsOf]
  rw [← key _ h1]; exact h3
theorem order_sorted {vs out : List Value} (W : WA L) (hl : out.length = vs.length) (ho : ∀ k, k < vs.length → out[k]? = vs[(spotsOf L vs.length).idxOf k]?) : SortedBy L vs out := by
  refine ⟨fun k => (spotsOf L vs.length).idxOf k, hl, fun k hk => (spot_at W hk).1, ho, fun i j hij hj => ?_⟩
  have hi := spot_at W (show i < vs.length by walk_at "l")
  have hj := spot_at W hj
  have hne : (spotsOf L vs.length).idxOf i ≠ (spotsOf L vs.length).idxOf j := fun e => by rw [e] at hi; lia
  rcases TT.tot (L := L) hne with q | q
  · exact q
  · have := ahead_lt W hj.1 q; lia
end

structure KeysAt (w : World) (g : Heap) (ks : List Value) (kl : Nat → Nat → Bool) : Prop where
  lt : ∀ i j v u, ks[i]? = some v → ks[j]? = some u → Ans w g 10 (compareOp .Lt v u) (.bool (kl i j))
  gt : ∀ i j v u, ks[i]? = some v → ks[j]? = some u → Ans w g 10 (compareOp .Gt v u) (.bool (kl j i))
  eq : ∀ i j v u, ks[i]? = some v → ks[j]? = some u → Ans w g 10 (compareOp .Eq v u) (.bool (!kl i j && !kl j i))
theorem KeysAt.keeps {w : World} {g h : Heap} {ks : List Value} {kl : Nat → Nat → Bool} (x : KeysAt w g ks kl) (k : Keeps g h) : KeysAt w h ks kl :=
  ⟨fun i j v u a b => (x.lt i j v u a b).keeps k, fun i j v u a b => (x.gt i j v u a b).keeps k, fun i j v u a b => (x.eq i j v u a b).keeps k⟩
section
variable {w : World} {A : Around} {E : Value → Shared → Prop} {s : Shared} {g g₀ : Heap} {L : Addr} {l : List (Str × Value)} {N : List (Addr × Obj)} {o : OsState} {mg mb : Str → Option Value} {K : Frag} {env : Env}
theorem e_cellH {x : Str} {pos : Pos} {c : Addr} {ob : Obj} {v : Value} {Q : Value → Shared → Prop} (ho : s.heap.get? c = some ob) (hd : ob.data = .cell (some v)) (h : Q v s)
    (hx : env.kindOf x = some .cell := by rfl) (hc : env.cells.lookup x = some c := by rfl) (hk : env.scope.kind = .function := by rfl) (hdb : (x == ("__debug__" : Str)) = false := by rfl) :
    wpAny (model prog w) A (eval (.Name x pos) env) Q E s :=
  wpAny_Name (wpAny_loadName_cell hk hx hc ⟨_, ho, hd⟩ h) hdb
theorem i_rng {r : Addr} {n : Nat} {t u v : Tok} {Q : Value → Shared → Prop} (S : St g L l N o s) (hr : s.heap.get? r = some (rngObj 0 n 1 t u v)) (hn : n < 1000) (h : ∀ it s', St g L l ((it, riObj 0 n 1) :: N) o s' → Q (.ref it) s') : wpAny (model prog w) A (pyIter (.ref r)) Q E s := by
  refine wpAny_pyIter_range hr (small_range (by walk_at "l") (by walk_at "l")) ?_
  have S1 := S.new (riObj 0 (Builtin.Range.rangeSize 0 n 1) 1) rfl
  rw [size_up, Int.toNat_natCast] at S1
  rw [size_up, Int.toNat_natCast]
  exact h _ _ S1
theorem lay_range : ∀ n < 64, PyData.layable0 (.list (((List.range n).map fun i : Nat => (i : Int)).map .int)) = true := by decide +kernel
theorem idxOf_ints (k : Nat) : ∀ l : List Nat, (l.map fun i : Nat => (i : Int)).idxOf (k : Int) = l.idxOf k
  | [] => rfl
  | a :: l => by
    rw [List.map_cons, List.idxOf_cons, List.idxOf_cons, idxOf_ints k l]
    by_cases h : a = k
    · subst h; simp
    · have h1 : ((a : Int) == (k : Int)) = false := by simp; lia
      have h2 : (a == k) = false := by simpa using h
      rw [h1, h2]
theorem ahead_split {kl : Nat → Nat → Bool} (W : WA kl) (b : Bool) {n i : Nat} (hi : i < n) : ahead (flp b kl) n i = (List.range n).countP (fun j => flp b kl j i) + (List.range i).countP (fun j => !kl j i && !kl i j) := by
  rw [← countP_below _ i n (by walk_at "l"), ← countP_or _ _ (fun a ha => ?_)]
  · unfold ahead
    refine List.countP_congr fun j _ => ?_
    cases b
    · show (kl j i || (!kl i j && decide (j < i))) = true ↔ (kl j i || (decide (j < i) && (!kl j i && !kl i j))) = true
      cases kl j i <;> cases kl i j <;> simp
    · show (kl i j || (!kl j i && decide (j < i))) = true ↔ (kl i j || (decide (j < i) && (!kl j i && !kl i j))) = true
      cases kl j i <;> cases kl i j <;> simp
  · cases b
    · have ha : kl a i = true := ha
      simp [ha]
    · have ha : kl i a = true := ha
      simp [ha]
theorem countP_succ (p : Nat → Bool) (k : Nat) : (List.range (k + 1)).countP p = (List.range k).countP p + if p k = true then 1 else 0 := by
  rw [List.range_succ, List.countP_append]
  cases h : p k <;> simp [h]
theorem ints_snoc {vs : List Value} {ns : List Int} (h : IntsAre vs ns) (n : Int) (t : Tok) : IntsAre (vs ++ [.int n t]) (ns ++ [n]) := by
  induction h with
  | nil => exact .cons n t .nil
  | cons m u _ ih => exact .cons m u ih
theorem St.unbase {G : Heap} (S : St G L l N o s) (k : Keeps g G) (M : List (Addr × Obj)) (hM : ∀ p ∈ M, G.get? p.1 = some p.2 ∧ g.get? p.1 = none) (hnd : (M.map (·.1)).Nodup) : St g L l (M ++ N) o s := by
  obtain ⟨m, F, hl⟩ := S.fr
  have nG : ∀ a, G.get? a = none → g.get? a = none := fun a ha => by
    cases e : g.get? a with
    | none => rfl
    | some ob => rw [k _ _ e] at ha; cases ha
  refine ⟨⟨m, ⟨F.ns, fun b ob e => F.keep b ob (k _ _ e), nG _ F.nl⟩, hl⟩, fun p hp => ?_, ?_, S.os, S.gn⟩
  · rcases List.mem_append.mp hp with hp | hp
    · exact ⟨S.kept _ _ (hM p hp).1, (fun q => by have h1 := (hM p hp).1; rw [q, F.nl] at h1; cases h1), (hM p hp).2⟩
    · exact ⟨(S.nw p hp).1, (S.nw p hp).2.1, nG _ (S.nw p hp).2.2⟩
  · rw [List.map_append]
    refine List.nodup_append.mpr ⟨hnd, S.nd, fun a ha b hb hab => ?_⟩
    obtain ⟨p, hp, he⟩ := List.mem_map.mp ha
    obtain ⟨q, hq, he'⟩ := List.mem_map.mp hb
    have h1 := (hM p hp).1
    have h2 := (S.nw q hq).2.2
    rw [show p.1 = q.1 from he.trans (hab.trans he'.symm), h2] at h1
    cases h1
theorem five_cells {M : List (Addr × Obj)} {c1 c2 c3 c4 c5 : Addr} {d1 d2 d3 d4 d5 : Data} (h : M.map (fun p => (p.1, p.2.data)) = [(c1, d1), (c2, d2), (c3, d3), (c4, d4), (c5, d5)]) :
    ∃ o1 o2 o3 o4 o5 : Obj, M = [(c1, o1), (c2, o2), (c3, o3), (c4, o4), (c5, o5)] ∧ o1.data = d1 ∧ o2.data = d2 ∧ o3.data = d3 ∧ o4.data = d4 ∧ o5.data = d5 := by
  obtain ⟨o1, M, rfl, h1, h⟩ := cell_cons h
  obtain ⟨o2, M, rfl, h2, h⟩ := cell_cons h
  obtain ⟨o3, M, rfl, h3, h⟩ := cell_cons h
  obtain ⟨o4, M, rfl, h4, h⟩ := cell_cons h
  obtain ⟨o5, M, rfl, h5, h⟩ := cell_cons h
  rw [List.map_eq_nil_iff.mp h]
  exact ⟨o1, o2, o3, o4, o5, rfl, h1, h2, h3, h4, h5⟩
set_option maxHeartbeats 1000000
theorem order_ok {P Kl : Addr} {qs ks : List Value} {e e' : Nat} {b : Bool} {kl : Nat → Nat → Bool} {Q : Value → Shared → Prop} (G : Gv K mg mb g₀) (Kp : Keeps g₀ s.heap) (hh : A.handled = none) (hd : A.depth + 15 < recursionLimit) (hu : A.units + 50 < cLine) (hg : AllBare s.gens)
    (hP : s.heap.get? P = some (seqObj "list" qs.toArray e)) (hK : s.heap.get? Kl = some (seqObj "list" ks.toArray e')) (hlen : ks.length = qs.length) (hz : qs.length < 64) (W : WA kl) (Ks : KeysAt w s.heap ks kl)
    (h : ∀ R out e s', Left s s' → s.heap.get? R = none → s'.heap.get? R = some (seqObj "list" out.toArray e) → SortedBy (flp b kl) qs out → Q (.ref R) s') :
    wpAny (model prog w) A (call (.ref 244) [.ref P, .ref Kl, .bool b]) Q E s := by
  have k0 : Keeps g₀ (hideAll s.heap []) := Kp.hide (by simp)
  have Gg := G.keeps k0
  have kh : Keeps s.heap (hideAll s.heap []) := fun b ob e => hideAll_get _ e (by simp)
  have Kg := Ks.keeps kh
  have hP' := kh _ _ hP
  have hK' := kh _ _ hK
  refine call_fn_c (N := []) (binds := [(Str.ofString "pieces", .ref P), (Str.ofString "keys", .ref Kl), (Str.ofString "turned", .bool b)]) (lb := []) G.lim Kp G.f244 (by walk_at "l") (by simp) hg rfl (.of_eq rfl) rfl (fun _ => rfl) rfl (fun _ => rfl) (by simp) ?_
  intro L s₁ M hM S
  obtain ⟨o5, o4, o3, o2, o1, rfl, h5, h4, h3, h2, h1⟩ := five_cells (c1 := L + 5) (c2 := L + 4) (c3 := L + 3) (c4 := L + 2) (c5 := L + 1) (d1 := .cell none) (d2 := .cell none) (d3 := .cell (some (.bool b))) (d4 := .cell (some (.ref Kl))) (d5 := .cell (some (.ref P))) hM
  clear hM
  simp only [List.cons_append, List.nil_append, List.map_cons, List.map_nil] at S
  have hh' : ∀ env, (A.deeper env).handled = none := fun _ => hh
  refine x_cons (wpAny_Assign_Name (e_lst (spliced_none (Made.go S (by simp) ?_))))
  intro Sp _ S _ _
  refine s_cell S 2 rfl h4 ?_
  intro o4' _ h4' S
  dsimp only [List.set_cons_succ, List.set_cons_zero] at S
  refine x_cons ?_
  have nd0 := S.nd
  obtain ⟨G1, kg1, kg2, kg3, S⟩ := S.rebase (N' := [(Sp, seqObj "list" #[] 0), (L + 5, o5)]) (.cons_cons _ (.cons_cons _ (List.nil_sublist _)))
  have nd : ∀ a b : Nat, a ≠ b → L + a ≠ L + b := fun a b h => by walk_at "l"
  have nSp : ∀ p ∈ [(L + 5, o5), (L + 4, o4'), (L + 3, o3), (L + 2, o2), (L + 1, o1)], p.1 ≠ Sp := fun p hp q => by
    rw [List.map_cons, List.nodup_cons] at nd0
    have hmm := List.mem_map_of_mem (f := fun x : Addr × Obj => x.1) hp
    rw [q] at hmm
    exact nd0.1 hmm
  have c4 : G1.get? (L + 4) = some o4' := kg2 (L + 4, o4') (by repeat first | exact .head _ | apply List.Mem.tail) (by simp; exact fun q => nSp (L + 4, o4') (by simp) q)
  have c3 : G1.get? (L + 3) = some o3 := kg2 (L + 3, o3) (by repeat first | exact .head _ | apply List.Mem.tail) (by simp; exact fun q => nSp (L + 3, o3) (by simp) q)
  have c2 : G1.get? (L + 2) = some o2 := kg2 (L + 2, o2) (by repeat first | exact .head _ | apply List.Mem.tail) (by simp; exact fun q => nSp (L + 2, o2) (by simp) q)
  have c1 : G1.get? (L + 1) = some o1 := kg2 (L + 1, o1) (by repeat first | exact .head _ | apply List.Mem.tail) (by simp; exact fun q => nSp (L + 1, o1) (by simp) q)
  have GG := Gg.keeps kg1
  have KK := Kg.keeps kg1
  have hP1 := kg1 _ _ hP'
  have hK1 := kg1 _ _ hK'
  have hA : (A.deeper (callEnvC (fnAt 42 Value.none mLaw 243) L 244)).units + 20 < cLine := du hu (by decide)
  refine w_forE (fun s' => Ex4 fun (vs : List Value) (e : Nat) (oi : Obj) (l' : List (Str × Value)) => An2 (IntsAre vs ((spotsOf (flp b kl) qs.length).map fun i : Nat => (i : Int))) (St G1 L l' [(Sp, seqObj "list" vs.toArray e), (L + 5, oi)] s.os s')) ?_ ?_
  · refine Call_ (e_blt S GG.gs GG.bs GG.rng0 GG.rng1 ?_)
    refine callWith_type1 ?_
    refine args_cons ?_
    refine Call_ (e_blt S GG.gs GG.bs GG.len0 GG.len1 ?_)
    refine callWith_method1 ?_
    refine args_cons ?_
    refine e_cellH (S.kept _ _ c2) h2 ?_
    repeat (walk_at "1")
    refine c_len S (S.kept _ _ hK1) (by walk_at "l") ?_
    intro t1 s3 S
    repeat (walk_at "1")
    refine c_range1 S ?_
    intro rg a1 a2 a3 s4 S
    refine i_rng S (S.at (.head _)) (by walk_at "l") ?_
    intro it s5 S
    have S := S.less (N' := [(it, riObj 0 ks.length 1), (Sp, seqObj "list" #[] 0), (L + 5, o5)]) (.cons_cons _ (.cons _ (.refl _)))
    refine ⟨fun m s' => Ex6 fun (i : Nat) (vs : List Value) (e : Nat) (oi : Obj) (vi : Option Value) (l' : List (Str × Value)) => An5 (m = ks.length - i) (i ≤ ks.length) (IntsAre vs ((List.range i).map fun j => ((ahead (flp b kl) qs.length j : Nat) : Int))) (oi.data = .cell vi) (St G1 L l' [(it, riObj (i : Int) ((ks.length - i : Nat) : Int) 1), (Sp, seqObj "list" vs.toArray e), (L + 5, oi)] s.os s'), _, ⟨0, [], 0, o5, none, [], rfl, Nat.zero_le _, .nil, h5, S⟩, ?_⟩
    intro m s6 hI₁ Q₁ X₁ hQ₁ hX₁
    obtain ⟨i, vs, es, oi, vi, l', rfl, hi, hvs, hoi, S⟩ := hI₁
    by_cases hin : i = ks.length
    · subst hin
      rw [Nat.sub_self] at S
      refine n_ri_end (hh' _) S 0 rfl ?_
      intro s7 S
      refine wpAny_execs_nil ⟨rfl, hX₁ _ ⟨vs, es, oi, l', ?_, S⟩⟩
      rw [hlen] at hvs
      unfold spotsOf
      rw [List.map_map]
      exact hvs
    · have hik : i < ks.length := by walk_at "l"
      obtain ⟨lf, hlf⟩ : ∃ lf, ks.length - i = lf + 1 := ⟨ks.length - i - 1, sub_ex ‹_› ‹_›⟩
      rw [hlf] at S
      refine n_ri (left := lf) S 0 (by push_cast; rfl) ?_
      intro ti s7 S
      refine go_plain (S.at (.head _)) rfl rfl ?_
      refine wpAny_assign_Name (s_cell S 2 rfl hoi ?_)
      intro oi' s8 hoi' S
      dsimp only [List.set_cons_succ, List.set_cons_zero] at S
      have S := S.weak (l' := []) rfl
      obtain ⟨G2, kh1, kh2, kh3, S⟩ := S.rebase (N' := [(it, riObj ((i : Int) + 1) (lf : Int) 1), (Sp, seqObj "list" vs.toArray es)]) (.cons_cons _ (.cons_cons _ (List.nil_sublist _)))
      have c5 : G2.get? (L + 5) = some oi' := kh2 (L + 5, oi') (.tail _ (.tail _ (.head _))) ((‹St G1 L [] _ s.os s8›).outI 2 rfl (.refl _))
      have n5 : G1.get? (L + 5) = none := ((‹St G1 L [] _ s.os s8›).nw (L + 5, oi') (by repeat first | exact .head _ | apply List.Mem.tail)).2.2
      have c2' := kh1 _ _ c2
      have c3' := kh1 _ _ c3
      have c4' := kh1 _ _ c4
      have hK2 := kh1 _ _ hK1
      have GG2 := GG.keeps kh1
      have KK2 := KK.keeps kh1
      refine x_cons ?_
      refine w_comp_as (cl := [(Str.ofString "turned", L + 3), (Str.ofString "keys", L + 2), (Str.ofString "i", L + 5)]) ?_
      refine Call_ (e_blt S GG2.gs GG2.bs GG2.rng0 GG2.rng1 ?_)
      refine callWith_type1 ?_
      refine args_cons ?_
      refine Call_ (e_blt S GG2.gs GG2.bs GG2.len0 GG2.len1 ?_)
      refine callWith_method1 ?_
      refine args_cons ?_
      refine e_cellH (S.kept _ _ c2') h2 ?_
      repeat (walk_at "1")
      refine c_len S (S.kept _ _ hK2) (by walk_at "l") ?_
      intro _ _ S
      repeat (walk_at "1")
      refine c_range1 S ?_
      intro rg2 _ _ _ _ S
      refine i_rng S (S.at (.head _)) (by walk_at "l") ?_
      intro it2 _ S
      have S := S.less (N' := [(it2, riObj 0 ks.length 1), (it, riObj ((i : Int) + 1) (lf : Int) 1), (Sp, seqObj "list" vs.toArray es)]) (.cons_cons _ (.cons _ (.refl _)))
      refine ⟨G2, L, [], _, s.os, rfl, loops_range (hh' _) S (fun k _ ys N => ys.length = (List.range k).countP (fun j => flp b kl j i) ∧ ys.length ≤ k ∧ N = [(it, riObj ((i : Int) + 1) (lf : Int) 1), (Sp, seqObj "list" vs.toArray es)]) (fun _ _ => ⟨rfl, Nat.le_refl _, rfl⟩) ?_ ?_⟩
      · intro k D C G3 ys e1 N s9 tk hk kG hI₁ S9 P₁ hP₁
        obtain ⟨hJ, hyk, rfl⟩ := hI₁
        refine wpAny_assign_Name (s_loc S9 ?_)
        intro s10 S10
        walk_at "put"
        show wpAny _ _ (isTrue _ _ _) _ _ _
        refine isTrue_IfExp ?_
        refine isTrue_plain (e_cellH (S10.kept _ _ (kG _ _ c3')) h3 ?_)
        refine wpAny_truthy_bool ?_
        cases b with
        | true =>
          refine if_tt ?_
          refine wpAny_isTrue_Compare1 ?_
          refine Subscript_ (e_cellH (S10.kept _ _ (kG _ _ c2')) h2 ?_)
          refine e_loc S10 rfl ?_
          refine i_list (n := k) (S10.kept _ _ (kG _ _ hK2)) rfl (by walk_at "l") (List.getElem?_eq_getElem hk) ?_
          refine Subscript_ (e_cellH (S10.kept _ _ (kG _ _ c2')) h2 ?_)
          refine e_cellH (S10.kept _ _ (kG _ _ c5)) hoi' ?_
          refine i_list (n := i) (S10.kept _ _ (kG _ _ hK2)) rfl (by walk_at "l") (List.getElem?_eq_getElem hik) ?_
          refine KK2.gt k i _ _ (List.getElem?_eq_getElem hk) (List.getElem?_eq_getElem hik) _ _ _ _ (by walk_at "l") (kG.trans S10.kept) ?_
          refine wpAny_truthy_bool ?_
          refine ite_bool (fun hp => ?_) (fun hp => ?_)
          · refine e_loc S10 rfl ?_
            refine ap_list S10 0 rfl (by walk_at "l") ?_
            intro s12 S12
            exact hP₁ _ ⟨G3, _, _, _, _, .refl _, ⟨by rw [countP_succ, if_pos (show flp true kl k i = true from hp), List.length_append, hJ]; rfl, by simp; lia, rfl⟩, S12⟩
          · exact hP₁ _ ⟨G3, _, ys, e1, _, .refl _, ⟨by rw [countP_succ, if_neg (show ¬ flp true kl k i = true from by show ¬ _ = true; intro q; rw [show flp true kl k i = _ from hp] at q; cases q), hJ]; rfl, by walk_at "l", rfl⟩, S10⟩
        | false =>
          refine if_ff ?_
          refine wpAny_isTrue_Compare1 ?_
          refine Subscript_ (e_cellH (S10.kept _ _ (kG _ _ c2')) h2 ?_)
          refine e_loc S10 rfl ?_
          refine i_list (n := k) (S10.kept _ _ (kG _ _ hK2)) rfl (by walk_at "l") (List.getElem?_eq_getElem hk) ?_
          refine Subscript_ (e_cellH (S10.kept _ _ (kG _ _ c2')) h2 ?_)
          refine e_cellH (S10.kept _ _ (kG _ _ c5)) hoi' ?_
          refine i_list (n := i) (S10.kept _ _ (kG _ _ hK2)) rfl (by walk_at "l") (List.getElem?_eq_getElem hik) ?_
          refine KK2.lt k i _ _ (List.getElem?_eq_getElem hk) (List.getElem?_eq_getElem hik) _ _ _ _ (by walk_at "l") (kG.trans S10.kept) ?_
          refine wpAny_truthy_bool ?_
          refine ite_bool (fun hp => ?_) (fun hp => ?_)
          · refine e_loc S10 rfl ?_
            refine ap_list S10 0 rfl (by walk_at "l") ?_
            intro s12 S12
            exact hP₁ _ ⟨G3, _, _, _, _, .refl _, ⟨by rw [countP_succ, if_pos (show flp false kl k i = true from hp), List.length_append, hJ]; rfl, by simp; lia, rfl⟩, S12⟩
          · exact hP₁ _ ⟨G3, _, ys, e1, _, .refl _, ⟨by rw [countP_succ, if_neg (show ¬ flp false kl k i = true from by show ¬ _ = true; intro q; rw [show flp false kl k i = _ from hp] at q; cases q), hJ]; rfl, by walk_at "l", rfl⟩, S10⟩
      · rintro D G3 ys e1 N G4 s9 ⟨hJ, hyk, rfl⟩ kg4 _ S
        walk_at "put"
        refine x_cons (wpAny_Expr_any (MethodCall_ (e_cellH (S.kept _ _ (kg4 _ _ c4')) h4' ?_)))
        refine m_list PySem.F.slot_list_append PySem.F.type_list_append (S.at (.tail _ (.tail _ (.head _)))) ?_
        refine callWith_method1 ?_
        refine args_cons ?_
        refine wpAny_BinOp ?_
        refine Call_ (e_blt S (GG2.keeps kg4).gs (GG2.keeps kg4).bs (GG2.keeps kg4).len0 (GG2.keeps kg4).len1 ?_)
        refine callWith_method1 ?_
        refine args_cons (e_loc S rfl ?_)
        repeat (walk_at "1")
        refine c_len S (S.at (.head _)) (by walk_at "l") ?_
        intro _ _ S
        refine Call_ (e_blt S (GG2.keeps kg4).gs (GG2.keeps kg4).bs (GG2.keeps kg4).len0 (GG2.keeps kg4).len1 ?_)
        refine callWith_method1 ?_
        refine args_cons ?_
        refine w_comp (cl := [(Str.ofString "keys", L + 2), (Str.ofString "i", L + 5)]) ?_
        refine Call_ (e_blt S (GG2.keeps kg4).gs (GG2.keeps kg4).bs (GG2.keeps kg4).rng0 (GG2.keeps kg4).rng1 ?_)
        refine callWith_type1 ?_
        refine args_cons (e_cellH (S.kept _ _ (kg4 _ _ c5)) hoi' ?_)
        repeat (walk_at "1")
        refine c_range1 S ?_
        intro rg3 _ _ _ _ S
        refine i_rng S (S.at (.head _)) (by walk_at "l") ?_
        intro it3 _ S
        have S := S.less (N' := [(it3, riObj 0 i 1), (D, seqObj "list" ys.toArray e1), (it, riObj ((i : Int) + 1) (lf : Int) 1), (Sp, seqObj "list" vs.toArray es)]) (.cons_cons _ (.cons _ (.refl _)))
        refine ⟨G4, L, _, _, s.os, loops_range (hh' _) S (fun k _ zs N => zs.length = (List.range k).countP (fun j => !kl j i && !kl i j) ∧ zs.length ≤ k ∧ N = [(D, seqObj "list" ys.toArray e1), (it, riObj ((i : Int) + 1) (lf : Int) 1), (Sp, seqObj "list" vs.toArray es)]) (fun _ _ => ⟨rfl, Nat.le_refl _, rfl⟩) ?_ ?_⟩
        · intro k D2 C G5 zs e2 N s11 tk hk kG5 hI₁ S11 P₁ hP₁
          obtain ⟨hJ2, hzk, rfl⟩ := hI₁
          have hkk : k < ks.length := by walk_at "l"
          have kG := kg4.trans kG5
          refine wpAny_assign_Name (s_loc S11 ?_)
          intro s10 S10
          walk_at "put"
          show wpAny _ _ (isTrue _ _ _) _ _ _
          refine wpAny_isTrue_Compare1 ?_
          refine Subscript_ (e_cellH (S10.kept _ _ (kG _ _ c2')) h2 ?_)
          refine e_loc S10 rfl ?_
          refine i_list (n := k) (S10.kept _ _ (kG _ _ hK2)) rfl (by walk_at "l") (List.getElem?_eq_getElem hkk) ?_
          refine Subscript_ (e_cellH (S10.kept _ _ (kG _ _ c2')) h2 ?_)
          refine e_cellH (S10.kept _ _ (kG _ _ c5)) hoi' ?_
          refine i_list (n := i) (S10.kept _ _ (kG _ _ hK2)) rfl (by walk_at "l") (List.getElem?_eq_getElem hik) ?_
          refine KK2.eq k i _ _ (List.getElem?_eq_getElem hkk) (List.getElem?_eq_getElem hik) _ _ _ _ (by walk_at "l") (kG.trans S10.kept) ?_
          refine wpAny_truthy_bool ?_
          refine ite_bool (fun hp => ?_) (fun hp => ?_)
          · refine e_loc S10 rfl ?_
            refine ap_list S10 0 rfl (by walk_at "l") ?_
            intro s12 S12
            exact hP₁ _ ⟨G5, _, _, _, _, .refl _, ⟨by rw [countP_succ, if_pos hp, List.length_append, hJ2]; rfl, by simp; lia, rfl⟩, S12⟩
          · exact hP₁ _ ⟨G5, _, zs, e2, _, .refl _, ⟨by rw [countP_succ, if_neg (by rw [hp]; simp), hJ2]; rfl, by walk_at "l", rfl⟩, S10⟩
        · rintro D2 G5 zs e2 N G6 s11 ⟨hJ2, hzk, rfl⟩ kg6 _ S
          repeat (walk_at "1")
          refine c_len S (S.at (.head _)) (by walk_at "l") ?_
          intro _ _ S
          repeat (walk_at "1")
          rename St _ _ _ _ _ _ => S
          have hvl : vs.length = i := by have := hvs.length; simpa using this
          refine ap_list S 3 rfl (by walk_at "l") ?_
          intro s12 S
          repeat (walk_at "1")
          have S := S.less (N' := [(it, riObj ((i : Int) + 1) (lf : Int) 1), (Sp, _)]) (.cons _ (.cons _ (.refl _)))
          have S := (S.unbase (kh1.trans (kg4.trans kg6)) [(L + 5, oi')] (by intro p hp; simp at hp; subst hp; exact ⟨kg6 _ _ (kg4 _ _ c5), n5⟩) (by simp)).perm (List.perm_append_comm (l₁ := [(L + 5, oi')]))
          refine hQ₁ _ _ ⟨ks.length - (i + 1), by walk_at "l", i + 1, ?vs1, ?e1, oi', _, ?l1, rfl, by walk_at "l", ?ints1, hoi', ?st1⟩
          case st1 =>
            rw [show ks.length - (i + 1) = lf by walk_at "l"]
            push_cast
            exact S
          case ints1 =>
            rw [List.range_succ, List.map_append]
            rw [show ((ys.length : Int) + (zs.length : Int)) = ((ahead (flp b kl) qs.length i : Nat) : Int) from by rw [ahead_split W b (by walk_at "l"), hJ, hJ2, hlen]; push_cast; rfl]
            exact ints_snoc hvs _ _
  · rintro s3 ⟨vs, es, oi, l', hvs, S⟩
    obtain ⟨G2, kh1, kh2, kh3, S⟩ := S.rebase (N' := []) (List.nil_sublist _)
    have hSp := kh2 _ (.head _) (by simp)
    have S := S.weak (l' := []) rfl
    have GG2 := GG.keeps kh1
    refine x_cons (wpAny_Return_some (w_comp (cl := [(Str.ofString "spots", L + 4), (Str.ofString "pieces", L + 1)]) ?_))
    refine Call_ (e_blt S GG2.gs GG2.bs GG2.rng0 GG2.rng1 ?_)
    refine callWith_type1 ?_
    refine args_cons ?_
    refine Call_ (e_blt S GG2.gs GG2.bs GG2.len0 GG2.len1 ?_)
    refine callWith_method1 ?_
    refine args_cons ?_
    refine e_cellH (S.kept _ _ (kh1 _ _ c1)) h1 ?_
    repeat (walk_at "1")
    refine c_len S (S.kept _ _ (kh1 _ _ hP1)) (by walk_at "l") ?_
    intro _ _ S
    repeat (walk_at "1")
    refine c_range1 S ?_
    intro rg2 _ _ _ _ S
    refine i_rng S (S.at (.head _)) (by walk_at "l") ?_
    intro it2 _ S
    have S := S.less (N' := [(it2, riObj 0 qs.length 1)]) (.cons_cons _ (.cons _ (.refl _)))
    refine ⟨G2, L, [], _, s.os, loops_range (hh' _) S (fun k _ ys N => ys = (List.range k).map (fun j => qs.getD ((spotsOf (flp b kl) qs.length).idxOf j) .none) ∧ N = []) (fun _ _ => ⟨rfl, rfl⟩) ?_ ?_⟩
    · intro k D C G3 ys e1 N s9 tk hk kG hI₁ S9 P₁ hP₁
      obtain ⟨hJ, rfl⟩ := hI₁
      have hsp := spot_at (W.flp b) hk
      refine wpAny_assign_Name (s_loc S9 ?_)
      intro s10 S10
      walk_at "put"
      show wpAny _ _ (eval _ _) _ _ _
      refine Subscript_ (e_cellH (S10.kept _ _ (kG _ _ (kh1 _ _ c1))) h1 ?_)
      refine MethodCall_ (e_cellH (S10.kept _ _ (kG _ _ (kh1 _ _ c4))) h4' ?_)
      refine m_list PySem.F.slot_list_index PySem.F.type_list_index (S10.kept _ _ (kG _ _ hSp)) ?_
      refine callWith_method1 ?_
      refine args_cons (e_loc S10 rfl ?_)
      repeat (walk_at "1")
      refine index_list_ints (ns := (spotsOf (flp b kl) qs.length).map fun i : Nat => (i : Int)) ⟨_, S10.kept _ _ (kG _ _ hSp), rfl, _, rfl⟩ hvs ?_ ?_ ?_
      · exact layable_ints_perm ((spots_perm (W.flp b)).map _) (lay_range _ hz)
      · exact List.mem_map_of_mem ((spots_perm (W.flp b)).mem_iff.mpr (List.mem_range.mpr hk))
      rw [idxOf_ints]
      have S11 := S10.tok (t := s10.toks + 1)
      refine i_list (n := (spotsOf (flp b kl) qs.length).idxOf k) (S11.kept _ _ (kG _ _ (kh1 _ _ hP1))) rfl (by walk_at "l") (List.getElem?_eq_getElem hsp.1) ?_
      refine ap_list S11 0 rfl (by rw [hJ]; simp; lia) ?_
      intro s12 S12
      refine hP₁ _ ⟨G3, _, _, _, _, .refl _, ⟨?_, rfl⟩, S12⟩
      rw [hJ, List.range_succ, List.map_append]
      simp [List.getD, hsp.1]
    · rintro R G3 ys e1 N G4 s9 ⟨rfl, rfl⟩ kg4 _ S9
      have kk := kg1.trans (kh1.trans kg4)
      refine h R _ e1 s9 (S9.left' kk) (S9.isNew' kk (p := (R, _)) (.head _) (by simp)) (S9.at (.head _)) (order_sorted (W.flp b) (by simp) fun k hk => ?_)
      have hsp := spot_at (W.flp b) hk
      simp [hk, List.getD, List.getElem?_eq_getElem hsp.1]
end

structure Gx (K : Frag) (mg mb : Str → Option Value) (g : Heap) : Prop extends Gv K mg mb g where
  c250 : CodeHd g 250 246
theorem Gx.keeps {K : Frag} {mg mb : Str → Option Value} {g h : Heap} (x : Gx K mg mb g) (k : Keeps g h) : Gx K mg mb h := ⟨x.toGv.keeps k, x.c250.keeps k⟩
section
variable {w : World} {A : Around} {E : Value → Shared → Prop} {s : Shared} {g g₀ : Heap} {L : Addr} {l : List (Str × Value)} {N : List (Addr × Obj)} {o : OsState} {mg mb : Str → Option Value} {K : Frag} {env : Env}
theorem St.rebaseAll (S : St g L l N o s) : ∃ g', An4 (Keeps g g') (∀ b ob, s.heap.get? b = some ob → b ≠ L → b ∉ N.map (·.1) → g'.get? b = some ob) (Keeps g' s.heap) (St g' L l N o s) := by
  obtain ⟨m, F, hl⟩ := S.fr
  refine ⟨hideAll s.heap (L :: N.map (·.1)), fun b ob e => hideAll_get _ (F.keep b ob e) (fun q => ?_), fun b ob e h1 h2 => hideAll_get _ e (fun q => ?_), fun b ob e => of_hideAll _ e,
    ⟨m, ⟨F.ns, fun b ob e => of_hideAll _ e, hideAll_none _ (.head _)⟩, hl⟩, fun p hp => ⟨(S.nw p hp).1, (S.nw p hp).2.1, hideAll_none _ (.tail _ (List.mem_map_of_mem hp))⟩, S.nd, S.os, S.gn⟩
  · rcases List.mem_cons.mp q with q | q
    · rw [q, F.nl] at e; cases e
    · obtain ⟨p, hp, he⟩ := List.mem_map.mp q
      rw [← he, (S.nw p hp).2.2] at e; cases e
  · rcases List.mem_cons.mp q with q | q
    · exact h1 q
    · exact h2 q
noncomputable def Tab2 (g : Heap) (pos : Pos) (qual : Str) (ps : Array Value) : Prop := TriplesOk ps.toList ∧ (codeAmong pos ps.toList = none ∨ ∃ c', codeAmong pos ps.toList = some (.ref c') ∧ g.CodeRec (.ref c') qual)
theorem mk_def {name qual : Str} {params : Arguments} {body : List Stmt} {scope : Scope} {pos : Pos} {fl : Nat} {clos : List (Str × Addr)} {ps : Array Value} {Q : Value → Shared → Prop} (G : Gx K mg mb g) (S : St g L l N o s) (i : Nat) (hi : N[i]? = some (246, tabObj ps)) (hT : Tab2 g pos qual ps)
    (hcl : closureFor scope env = pure clos) (hcode : env.code = .ref 250) (hge : env.globals = mainGlobals)
    (h : ∀ G' f c' ctv doc ps' s', Keeps g G' → G'.get? f = some (fnMade name qual params body scope clos doc ((mg "__name__").getD .none) c' ctv) → G'.CodeRec (.ref c') qual → Tab2 G' pos qual ps' → St G' L l (N.set i (246, tabObj ps')) o s' → Q (.ref f) s') :
    wpAny (model prog w) A (makeFunction name qual params (.stmts body) scope env [] [] [] pos fl) Q E s := by
  have hm := S.nw _ (List.mem_of_getElem? hi)
  obtain ⟨bm, ob, b1, b2, b3, b4, b5, b6⟩ := G.bm
  have hgs := G.gs.keeps S.kept
  have hgP : mainGlobals ≠ 246 := by decide
  have hbP : bm ≠ 246 := fun q => by rw [q, hm.2.2] at b3; cases b3
  have hbG : bm ≠ mainGlobals := fun q => by
    obtain ⟨o, es, ep, e, hd, _⟩ := G.gs
    rw [q, e] at b3; cases b3; rw [hd] at b6; cases b6
  have B : s.heap.BuiltinsAt mg 246 := ⟨bm, ob, b1, b2, hbG, hbP, S.kept _ _ b3, b4, b5, b6⟩
  have hsz : ∀ p ∈ N, p.1 < s.heap.objs.size := fun p hp => Heap.lt_size (S.nw p hp).1
  have hLs : L < s.heap.objs.size := by obtain ⟨m, F, _⟩ := S.fr; exact F.ns.lt
  have notin : ∀ (N' : List (Addr × Obj)) (b : Addr), N'.map (·.1) = N.map (·.1) → s.heap.objs.size ≤ b → b ∉ N'.map (·.1) := fun N' b e hb hmem => by
    rw [e] at hmem
    obtain ⟨p, hp, he⟩ := List.mem_map.mp hmem
    have h2 : p.1 = b := he
    exact absurd (h2 ▸ hsz p hp) (Nat.not_lt.mpr hb)
  have keys : ∀ ob', (N.set i (246, ob')).map (·.1) = N.map (·.1) := fun ob' => by
    obtain ⟨hlt, he⟩ := List.getElem?_eq_some_iff.mp hi
    rw [List.map_set]
    apply List.ext_getElem?
    intro j
    by_cases hj : i = j
    · subst hj; simp [hlt, he]
    · simp [hj]
  rcases hT.2 with hnf | ⟨c', hf, hrec⟩
  · refine makeFunction_K (mg := mg) hcl hge hgs hcode (G.c250.keeps S.kept) hm.1 hT.1 hnf hgP B fun c' ctv doc h' tk hx hge' hlt hrec htb => ?_
    have S1 := S.turnBut (s' := { s with heap := h'.push (fnMade name qual params body scope clos doc ((mg "__name__").getD .none) c' ctv), toks := tk }) i hi (fun b ob hb e => Heap.get?_push_of_some _ (hx b ob (by simpa using hb) e)) (Heap.get?_push_of_some _ htb) rfl S.gn
    obtain ⟨G', kg, kall, _, S2⟩ := S1.rebaseAll
    obtain ⟨c₂, oc, vs, t, e2, hoc, hd, hv⟩ := hrec
    cases e2
    have hcG : G'.get? c' = some oc := kall _ _ (Heap.get?_push_of_some _ hoc) (Nat.ne_of_gt (Nat.lt_of_lt_of_le hLs hge')) (notin _ _ (keys _) hge')
    have hfG := kall h'.objs.size _ (Heap.get?_push_size _ rfl) (Nat.ne_of_gt (Nat.lt_trans (Nat.lt_of_lt_of_le hLs hge') hlt)) (notin _ _ (keys _) (Nat.le_trans hge' (Nat.le_of_lt hlt)))
    exact h G' _ c' ctv doc _ _ kg hfG ⟨c', oc, vs, t, rfl, hcG, hd, hv⟩ ⟨by rw [Array.toList_append]; exact TriplesOk_snoc _ _ _ _ hT.1, .inr ⟨c', by rw [Array.toList_append]; exact codeAmong_snoc _ hT.1 hnf, ⟨c', oc, vs, t, rfl, hcG, hd, hv⟩⟩⟩ S2
  · refine makeFunction_hit (mg := mg) hcl hge hgs hcode (G.c250.keeps S.kept) hm.1 hT.1 hf B fun ctv doc h' tk hk hsz' => ?_
    have S1 := S.grown (s' := { s with heap := h'.push (fnMade name qual params body scope clos doc ((mg "__name__").getD .none) c' ctv), toks := tk }) (fun b ob e => Heap.get?_push_of_some _ (hk b ob e)) rfl rfl
    obtain ⟨G', kg, kall, _, S2⟩ := S1.rebaseAll
    have hfG := kall h'.objs.size _ (Heap.get?_push_size _ rfl) (Nat.ne_of_gt (Nat.lt_of_lt_of_le hLs hsz')) (notin _ _ rfl hsz')
    have e : N.set i (246, tabObj ps) = N := by
      obtain ⟨hlt, he⟩ := List.getElem?_eq_some_iff.mp hi
      rw [← he]; exact List.set_getElem_self hlt
    exact h G' _ c' ctv doc ps _ kg hfG (hrec.keeps kg) ⟨hT.1, .inr ⟨c', hf, hrec.keeps kg⟩⟩ (by rw [e]; exact S2)
end

noncomputable def pieceOf (g : Heap) (v : Value) : Str × Str := match v with
  | .ref T => match g.get? T with
    | some ob => match ob.data with
      | .seq items _ => match items.getD 0 .none, items.getD 1 .none with
        | .str a _, .str b _ => (a, b)
        | _, _ => default
      | _ => default
    | none => default
  | _ => default
theorem Pc.read {g : Heap} {v : Value} {p : Str × Str} (h : Pc g v p) : pieceOf g v = p := by
  obtain ⟨T, e, ta, tb, rfl, o⟩ := h
  simp [pieceOf, o]
noncomputable def keyOf (table : Str) (p : Str × Str) : Int := Txt.find table p.2
noncomputable def placeStmt : Stmt := (bodyOf (stAt 43)).getD 1 (.Pass default)
noncomputable def innerFn (st : Stmt) (qual : Str) (clos : List (Str × Addr)) (doc pm : Value) (c' : Addr) (ctv : Value) : FuncData :=
  onFn default (fun name args body scope _ => fnX name qual args body scope clos .none .none doc pm none (.ref c') ctv) st
noncomputable def placeQual : Str := Str.ofString "_law_asked.<locals>._law_place"
noncomputable abbrev placeFd (L : Addr) (doc pm : Value) (c' : Addr) (ctv : Value) : FuncData := innerFn placeStmt placeQual [(Str.ofString "table", L + 1), (Str.ofString "asked", L + 2)] doc pm c' ctv
section
variable {w : World} {A : Around} {E : Value → Shared → Prop} {s : Shared} {g g₀ : Heap} {L : Addr} {l : List (Str × Value)} {N : List (Addr × Obj)} {o : OsState} {mg mb : Str → Option Value} {K : Frag} {env : Env}
theorem place_ok {q al : Addr} {table : Str} {tt : Tok} {doc pm ctv : Value} {c' : Addr} {o1 o2 : Obj} (G : Gx K mg mb g) (hf : FnAt g q (placeFd L doc pm c' ctv)) (hal : g.get? al = none) (c1 : g.get? (L + 1) = some o1) (h1 : o1.data = .cell (some (.str table tt))) (c2 : g.get? (L + 2) = some o2) (h2 : o2.data = .cell (some (.ref al))) :
    KeyOk w g (.ref q) al (fun v => keyOf table (pieceOf g v)) (fun v => ∃ p, Pc g v p) := by
  rintro x asked e A E Q s ⟨p, hp⟩ hh hd hu kg hask hz hg h
  have k0 : Keeps g (hideAll s.heap [al]) := kg.hide (by intro a ha; simp at ha; rw [ha]; exact hal)
  refine call_fn (N := [(al, seqObj "list" asked.toArray e)]) (binds := [(Str.ofString "piece", x)]) G.lim kg hf (by walk_at "l") (by intro p hp; simp at hp; subst hp; exact hask) hg rfl (.of_eq rfl) rfl rfl (by simp) ?_
  intro L' s₁ S
  walk_at "put"
  refine x_cons (wpAny_Expr_any (MethodCall_ (e_free (c := L + 2) ⟨o2, S.kept _ _ (k0 _ _ c2), h2⟩ ?_)))
  refine m_list PySem.F.slot_list_append PySem.F.type_list_append (S.at (.head _)) ?_
  refine callWith_method1 ?_
  refine args_cons (e_loc S rfl ?_)
  repeat (walk_at "1")
  refine ap_list S 0 rfl (by walk_at "l") ?_
  intro s2 S
  dsimp only [List.set_cons_zero] at S
  refine x_cons (wpAny_Return_some (MethodCall_ (e_free (c := L + 1) ⟨o1, S.kept _ _ (k0 _ _ c1), h1⟩ ?_)))
  refine GM.find ?_
  refine callWith_method1 ?_
  refine args_cons (Subscript_ (e_loc S rfl ?_))
  repeat (walk_at "1")
  rename St _ _ _ _ _ _ => S
  obtain ⟨T, eT, ta, tb, rfl, hT⟩ := id hp
  refine i_tup (items := [_, _]) (j := 1) (S.kept _ _ (k0 _ _ hT)) rfl rfl (by simp) ?_
  repeat (walk_at "1")
  refine SC.find ?_
  have e1 : keyOf table (pieceOf g (.ref T)) = Txt.find table p.2 := by rw [hp.read]; rfl
  try dsimp only
  rw [← e1]
  exact h _ _ _ S.tok.keepsBut (S.tok.at (.head _)) S.tok.os S.tok.gn
end

noncomputable def placePos : Pos := onFn default (fun _ _ _ _ p => p) placeStmt
noncomputable def pkLt (table : Str) (ps : List (Str × Str)) : Nat → Nat → Bool := fun i j => decide (keyOf table (ps.getD i default) < keyOf table (ps.getD j default))
theorem pkLt_wa (table : Str) (ps : List (Str × Str)) : WA (pkLt table ps) := fun n =>
  ⟨fun i _ => by simp [pkLt], fun i j k _ _ _ h1 h2 => by simp [pkLt] at *; lia, fun i j k _ _ _ h => by simp [pkLt] at *; lia⟩
theorem SortedBy.congr {L L' : Nat → Nat → Bool} {vs out : List Value} (h : SortedBy L vs out) (he : ∀ i j, i < vs.length → j < vs.length → L i j = L' i j) : SortedBy L' vs out := by
  obtain ⟨σ, h1, h2, h3, h4⟩ := h
  refine ⟨σ, h1, h2, h3, fun i j hij hj => ?_⟩
  have hi := h2 i (by walk_at "l")
  have hj' := h2 j hj
  have := h4 i j hij hj
  unfold TT at *
  rwa [he _ _ hi hj', he _ _ hj' hi] at this
section
variable {w : World} {A : Around} {E : Value → Shared → Prop} {s : Shared} {g g₀ : Heap} {L : Addr} {l : List (Str × Value)} {N : List (Addr × Obj)} {o : OsState} {mg mb : Str → Option Value} {K : Frag} {env : Env} {x : Addr} {xs : List Value}
theorem two_cells {M : List (Addr × Obj)} {c1 c2 : Addr} {d1 d2 : Data} (h : M.map (fun p => (p.1, p.2.data)) = [(c1, d1), (c2, d2)]) : ∃ o1 o2 : Obj, M = [(c1, o1), (c2, o2)] ∧ o1.data = d1 ∧ o2.data = d2 := by
  obtain ⟨o1, M, rfl, h1, h⟩ := cell_cons h
  obtain ⟨o2, M, rfl, h2, h⟩ := cell_cons h
  rw [List.map_eq_nil_iff.mp h]
  exact ⟨o1, o2, rfl, h1, h2⟩
theorem if_cut {b : Bool} {m1 m2 : Sem Value} {Q : Value → Shared → Prop} {P : Value → Shared → Prop} (h1 : b = true → wpAny (model prog w) A m1 P E s) (h2 : b = false → wpAny (model prog w) A m2 P E s) (h : ∀ v s', P v s' → Q v s') :
    if b then wpAny (model prog w) A m1 Q E s else wpAny (model prog w) A m2 Q E s := by
  cases b
  · exact wpAny_mono (h2 rfl) (fun v s' hp => h v s' hp) fun _ _ x => x
  · exact wpAny_mono (h1 rfl) (fun v s' hp => h v s' hp) fun _ _ x => x
set_option maxHeartbeats 2000000
theorem asked_ok {ps : List (Str × Str)} {a n : Int} {tn tt : Tok} {table : Str} {b : Bool} {ob : Obj} {qs : Array Value} {Q : Value → Shared → Prop} (G : Gx K mg mb g₀) (Kp : Keeps g₀ s.heap) (h130 : g₀.get? 130 = none) (h246 : g₀.get? 246 = none)
    (r : Row K (hideAll s.heap [130, 246]) x xs ps a) (hob : s.heap.get? 130 = some ob) (hT : Tab ob) (hob2 : s.heap.get? 246 = some (tabObj qs)) (hT2 : Tab2 (hideAll s.heap [130, 246]) placePos placeQual qs) (hh : A.handled = none) (hd : A.depth + 50 < recursionLimit) (hu : A.units + 220 < cLine) (hg : AllBare s.gens)
    (hxs : 2 ≤ xs.length) (hn : n < 1000) (hn2 : -1000 < n)
    (h : ∀ T R al out e e' ob' qs' s', KeepsBut [130, 246] s.heap s'.heap → s'.heap.get? 130 = some ob' → Tab ob' → s'.heap.get? 246 = some (tabObj qs') → Tab2 (hideAll s'.heap [130, 246]) placePos placeQual qs' → s'.heap.get? T = some (seqObj "tuple" #[.ref R, .ref al] 0) →
      s'.heap.get? R = some (seqObj "list" (out.take n.toNat).toArray e) → s'.heap.get? al = some (seqObj "list" (if 0 < n ∨ a + sizeOf' ps ≤ n then xs else []).toArray e') → SortedBy (flp b (pkLt table ps)) xs out →
      s.heap.get? T = none → s.heap.get? R = none → s.heap.get? al = none → s'.os = s.os → AllBare s'.gens → Q (.ref T) s') :
    wpAny (model prog w) A (call (.ref 251) [.ref x, .int n tn, .str table tt, .bool b]) Q E s := by
  have Kg : Keeps g₀ (hideAll s.heap [130, 246]) := Kp.hide (by intro b hb; simp at hb; rcases hb with rfl | rfl; exact h130; exact h246)
  have Gg := G.keeps Kg
  refine call_fn_c (N := [(130, ob), (246, tabObj qs)]) (binds := [(Str.ofString "row", .ref x), (Str.ofString "wish", .int n tn), (Str.ofString "table", .str table tt), (Str.ofString "turned", .bool b)]) (lb := [(Str.ofString "row", .ref x), (Str.ofString "wish", .int n tn), (Str.ofString "turned", .bool b)]) G.lim Kp G.f251 (by walk_at "l")
    (by intro p hp; simp at hp; rcases hp with rfl | rfl; exact hob; exact hob2) hg rfl (.of_eq rfl) rfl (fun _ => rfl) rfl (fun _ => rfl) (by simp) ?_
  intro L s₁ M hM S
  obtain ⟨o2, o1, rfl, h2, h1⟩ := two_cells (c1 := L + 2) (c2 := L + 1) (d1 := .cell none) (d2 := .cell (some (.str table tt))) hM
  clear hM
  simp only [List.cons_append, List.nil_append, List.map_cons, List.map_nil] at S
  have hh' : ∀ env, (A.deeper env).handled = none := fun _ => hh
  refine x_cons (wpAny_Assign_Name (e_lst (spliced_none (Made.go S (by simp) ?_))))
  intro al _ S _ _
  refine s_cell S 1 rfl h2 ?_
  intro o2' _ h2' S
  dsimp only [List.set_cons_succ, List.set_cons_zero] at S
  refine x_cons ?_
  refine nestDef_K rfl rfl rfl ?_
  refine mk_def Gg S 4 rfl hT2 (clos := [(Str.ofString "table", L + 1), (Str.ofString "asked", L + 2)]) rfl rfl rfl ?_
  intro G1 q c' ctv doc qs' s2 kg1 hq hcr hT2' S
  dsimp only [List.set_cons_succ, List.set_cons_zero] at S
  have S0 := S
  obtain ⟨G2, kg2, kg3, _, S⟩ := S.rebase (N' := [(al, seqObj "list" #[] 0), (130, ob), (246, tabObj qs')]) (.cons_cons _ (.cons _ (.cons _ (.refl _))))
  have a130 := S0.apart 0 3 rfl rfl (by decide)
  have a246 := S0.apart 0 4 rfl rfl (by decide)
  have c1 : G2.get? (L + 1) = some o1 := kg3 (L + 1, o1) (.tail _ (.tail _ (.head _))) (S0.outI 2 rfl (.cons_cons _ (.cons _ (.refl _))))
  have c2 : G2.get? (L + 2) = some o2' := kg3 (L + 2, o2') (.tail _ (.head _)) (S0.outI 1 rfl (.cons_cons _ (.cons _ (.refl _))))
  have n130 : G1.get? 130 = none := (S0.nw (130, ob) (.tail _ (.tail _ (.tail _ (.head _))))).2.2
  have n246 : G1.get? 246 = none := (S0.nw (246, tabObj qs') (.tail _ (.tail _ (.tail _ (.tail _ (.head _)))))).2.2
  clear S0
  have kk := kg1.trans kg2
  have GG := Gg.keeps kk
  have C3 := place_ok (w := w) (table := table) GG ⟨kg2 _ _ hq, hcr.keeps kg2⟩ (S.nw _ (.head _)).2.2 c1 h1 c2 h2'
  have hpc : ∀ i, i < xs.length → Pc G2 (xs.getD i .none) (ps.getD i default) := fun i hi => (r.pcs.atD hi).keeps kk
  have hPv : ∀ v ∈ xs, ∃ p, Pc G2 v p := fun v hv => by
    obtain ⟨i, hi⟩ := List.getElem?_of_mem hv
    have := hpc i (List.getElem?_eq_some_iff.mp hi).1
    rw [show xs.getD i .none = v by simp [List.getD, hi]] at this
    exact ⟨_, this⟩
  have hkl : ∀ i j, i < xs.length → j < xs.length → kLt (fun v => keyOf table (pieceOf G2 v)) xs i j = pkLt table ps i j := fun i j hi hj => by
    unfold kLt pkLt
    simp only [(hpc i hi).read, (hpc j hj).read]
  refine s_loc S ?_
  intro s3 S
  walk_at "put"
  have hkh := S.kept.hide (ms := [130, al]) (by intro b hb; simp at hb; rcases hb with rfl | rfl; exact (S.nw _ (.tail _ (.head _))).2.2; exact (S.nw _ (.head _)).2.2)
  have rr := (r.keeps kk).keeps hkh
  refine x_cons (wpAny_Assign_Name (wpAny_IfExp (isTrue_plain (e_loc S rfl (wpAny_truthy_bool ?_)))))
  refine if_cut (P := fun v s' => Ex5 fun (rl : Addr) (out : List Value) (e1 e2 : Nat) (ob' : Obj) => An7 (v = .ref rl) (SortedBy (flp b (pkLt table ps)) xs out) (s3.heap.get? rl = none) (KeepsBut [130, al] s3.heap s'.heap) (s'.heap.get? rl = some (seqObj "list" (out.take n.toNat).toArray e1))
      (s'.heap.get? al = some (seqObj "list" (if 0 < n ∨ a + sizeOf' ps ≤ n then xs else []).toArray e2)) (An4 (s'.heap.get? 130 = some ob') (Tab ob') (s'.os = s3.os) (AllBare s'.gens))) (fun hb => ?_) (fun hb => ?_) ?_
  · subst hb
    have hkk : ∀ i j, i < xs.length → j < xs.length → flp true (kLt (fun v => keyOf table (pieceOf G2 v)) xs) i j = flp true (pkLt table ps) i j := fun i j hi hj => hkl j i hj hi
    refine Call_ (e_glob S GG.gs GG.n89 ?_)
    refine c_fn GG.f89 ?_
    refine args_cons (e_loc S rfl ?_)
    refine args_cons (e_loc S rfl ?_)
    refine args_cons (e_loc S rfl ?_)
    repeat (walk_at "1")
    refine ⟨⟨_, _, _, _, S⟩, ?_⟩
    refine call_kl (A := A.deeper _) (al := al) (asked := []) GG.toGw S.kept (S.nw _ (.tail _ (.head _))).2.2 (S.nw _ (.head _)).2.2 a130.symm rr (S.at (.tail _ (.head _))) hT (S.at (.head _)) (by simp) hh (dd hd (by decide)) (du hu (by decide)) S.gn (C3.keeps hkh) hPv (hkh _ _ (kg2 _ _ hq)) hxs hn hn2 ?_
    exact fun rl out e1 e2 ob' s4 hsb hnew kb hrl hal4 hob4 hT4 ho4 hg4 => ⟨rl, out, e1, e2, ob', rfl, hsb.congr hkk, hnew, kb, hrl, hal4, ⟨hob4, hT4, ho4, hg4⟩⟩
  · subst hb
    have hkk : ∀ i j, i < xs.length → j < xs.length → kLt (fun v => keyOf table (pieceOf G2 v)) xs i j = flp false (pkLt table ps) i j := fun i j hi hj => hkl i j hi hj
    refine Call_ (e_glob S GG.gs GG.n83 ?_)
    refine c_fn GG.f83 ?_
    refine args_cons (e_loc S rfl ?_)
    refine args_cons (e_loc S rfl ?_)
    refine args_cons (e_loc S rfl ?_)
    repeat (walk_at "1")
    refine ⟨⟨_, _, _, _, S⟩, ?_⟩
    refine call_ks (A := A.deeper _) (al := al) (asked := []) GG.toGw S.kept (S.nw _ (.tail _ (.head _))).2.2 (S.nw _ (.head _)).2.2 a130.symm rr (S.at (.tail _ (.head _))) hT (S.at (.head _)) (by simp) hh (dd hd (by decide)) (du hu (by decide)) S.gn (C3.keeps hkh) hPv (hkh _ _ (kg2 _ _ hq)) hxs hn hn2 ?_
    exact fun rl out e1 e2 ob' s4 hsb hnew kb hrl hal4 hob4 hT4 ho4 hg4 => ⟨rl, out, e1, e2, ob', rfl, hsb.congr hkk, hnew, kb, hrl, hal4, ⟨hob4, hT4, ho4, hg4⟩⟩
  · rintro _ s4 ⟨rl, out, e1, e2, ob', rfl, hsb, hnew, kb, hrl, hal4, hob4, hT4, ho4, hg4⟩
    have fr := S.fresh hnew
    have n1 : rl ≠ al := fun q => by rw [q, S.at (.head _)] at hnew; cases hnew
    have n2 : rl ≠ 130 := fun q => by rw [q, S.at (.tail _ (.head _))] at hnew; cases hnew
    have n3 : rl ≠ 246 := fun q => by rw [q, S.at (.tail _ (.tail _ (.head _)))] at hnew; cases hnew
    have S4 : St G2 L [(Str.ofString "row", .ref x), (Str.ofString "wish", .int n tn), (Str.ofString "turned", .bool b), (Str.ofString "_law_place", .ref q)] [(rl, seqObj "list" (out.take n.toNat).toArray e1), (al, seqObj "list" (if 0 < n ∨ a + sizeOf' ps ≤ n then xs else []).toArray e2), (130, ob'), (246, tabObj qs')] s.os s4 := by
      refine S.next (ms := [130, al]) kb (by intro b hb; simp at hb; rcases hb with rfl | rfl; exact (S.nw _ (.tail _ (.head _))).2; exact (S.nw _ (.head _)).2) (fun p hp => ?_) ?_ (ho4.trans S.os) hg4
      · simp at hp
        rcases hp with rfl | rfl | rfl | rfl
        · exact ⟨hrl, fr⟩
        · exact ⟨hal4, (S.nw _ (.head _)).2⟩
        · exact ⟨hob4, (S.nw _ (.tail _ (.head _))).2⟩
        · exact ⟨kb _ _ (nin2 (show (246 : Nat) ≠ 130 by decide) a246.symm) (S.at (.tail _ (.tail _ (.head _)))), (S.nw _ (.tail _ (.tail _ (.head _)))).2⟩
      · exact List.nodup_cons.mpr ⟨nin3 n1 n2 n3, S.nd⟩
    clear S
    repeat (walk_at "1")
    rename St _ _ _ _ _ _ => S
    refine e_cellH (S.kept _ _ c2) h2' ?_
    repeat (walk_at "1")
    rename St _ _ _ _ _ _ => S
    rename_i T s6 hTn hks
    refine h T rl al out e1 e2 ob' qs' _ (S.keepsBut' kk) (S.at (.tail _ (.tail _ (.tail _ (.head _))))) hT4 (S.at (.tail _ (.tail _ (.tail _ (.tail _ (.head _)))))) ?_ (S.at (.head _)) (S.at (.tail _ (.head _))) (S.at (.tail _ (.tail _ (.head _)))) hsb (S.isNew' kk (p := (T, _)) (.head _) ?_) (S.isNew' kk (p := (rl, _)) (.tail _ (.head _)) (nin2 n2 n3)) (S.isNew' kk (p := (al, _)) (.tail _ (.tail _ (.head _))) (nin2 a130 a246)) S.os S.gn
    · obtain ⟨ta, tb⟩ := hT2'
      refine ⟨ta, tb.imp id fun ⟨c2, e3, e4⟩ => ⟨c2, e3, e4.keeps ((kg2.trans S.kept).hide ?_)⟩⟩
      intro b hb
      simp at hb
      have key : G1.get? b = none := by
        rcases hb with rfl | rfl
        · exact n130
        · exact n246
      exact key
    · exact nin2 (S.apart 0 3 rfl rfl (by decide)) (S.apart 0 4 rfl rfl (by decide))
end

section
variable {w : World} {A : Around} {E : Value → Shared → Prop} {s : Shared} {g : Heap}
theorem pc_rich_eq {v v' : Value} {p q : Str × Str} (h1 : Pc g v p) (h2 : Pc g v' q) : Ans w g 2 (richCompare .Eq v v') (.bool (p == q)) := by
  obtain ⟨T1, e1, a1, b1, rfl, o1⟩ := h1
  obtain ⟨T2, e2, a2, b2, rfl, o2⟩ := h2
  intro A E Q s hu hk h
  refine wpAny_richCompare_same_or (op := .Eq) (T := "tuple") ⟨_, hk _ _ o1, rfl⟩ ⟨_, hk _ _ o2, rfl⟩ PySem.F.slot_tuple_eq ?_ (Or.inr (by walk_at "l"))
  refine wpAny_call_entry PySem.F.slot_tuple_eq ⟨_, hk _ _ o1, rfl⟩ PySem.F.entry_tuple_eq (tup_eq_tree (w := w) (n := 0) (g := g) (op := .Lt) (xs := [_, _]) (ys := [_, _]) (hk _ _ o1) (hk _ _ o2) (by show A.units + 1 + 0 < cLine; lia) hk
    (str_twos .Lt p q a1 b1 a2 b2 _ _ (a_lt_str _ _ _ _) (a_lt_str _ _ _ _)) ⟨_, rfl, by simp, ?_⟩) (PySem.F.args_tuple_eq_2 _ _)
  rw [alike_pc]; exact h
theorem keys_pieces {ps : List (Str × Str)} {qs : List Value} (h : Pcs g qs ps) : KeysAt w g qs (psLt ps) := by
  have at' : ∀ i v, qs[i]? = some v → Pc g v (ps.getD i default) := fun i v hv => by
    have := h.atD (List.getElem?_eq_some_iff.mp hv).1
    rwa [show qs.getD i .none = v by simp [List.getD, hv]] at this
  refine ⟨fun i j v u hv hu => (pc_lt (at' i v hv) (at' j u hu)).more (by walk_at "l"), fun i j v u hv hu => (pc_gt (at' i v hv) (at' j u hu)).more (by walk_at "l"), fun i j v u hv hu => ?_⟩
  have e : (ps.getD i default == ps.getD j default) = (!psLt ps i j && !psLt ps j i) := by
    unfold psLt
    by_cases hq : ps.getD i default = ps.getD j default
    · rw [hq]; simp [pLt_irr]
    · have : (ps.getD i default == ps.getD j default) = false := by simpa using hq
      rw [this]
      cases h1 : pLt (ps.getD i default) (ps.getD j default) with
      | true => rfl
      | false =>
        cases h2 : pLt (ps.getD j default) (ps.getD i default) with
        | true => rfl
        | false => exact absurd (pLt_tri h1 h2) hq
  rw [← e]
  exact (pc_rich_eq (at' i v hv) (at' j u hu)).more (by walk_at "l")
theorem keys_ints {vs : List Value} {kf : Nat → Int} (h : ∀ (i : Nat) (v : Value), vs[i]? = some v → ∃ t, v = Value.int (kf i) t) : KeysAt w g vs (fun i j => decide (kf i < kf j)) := by
  refine ⟨fun i j v u hv hu => ?_, fun i j v u hv hu => ?_, fun i j v u hv hu => ?_⟩
  · obtain ⟨t, rfl⟩ := h i v hv
    obtain ⟨t', rfl⟩ := h j u hu
    exact (a_lt_int _ _ _ _).more (by walk_at "l")
  · obtain ⟨t, rfl⟩ := h i v hv
    obtain ⟨t', rfl⟩ := h j u hu
    exact (a_gt_int _ _ _ _).more (by walk_at "l")
  · obtain ⟨t, rfl⟩ := h i v hv
    obtain ⟨t', rfl⟩ := h j u hu
    intro A E Q s _ _ hq
    refine PyProof.Rows.eq_int ?_
    have e : (kf i == kf j) = (!decide (kf i < kf j) && !decide (kf j < kf i)) := by
      by_cases h1 : kf i = kf j
      · simp [h1]
      · rcases Int.lt_or_gt_of_ne h1 with q | q <;> simp [h1, q]
    rw [e]; exact hq
noncomputable def Like (h : Heap) (vs us : List Value) : Prop := vs.length = us.length ∧ ∀ (i : Nat) v u, vs[i]? = some v → us[i]? = some u → ∃ p, Pc h v p ∧ Pc h u p
theorem all_true (l : List Nat) : (l.all fun _ => true) = true := by simp
theorem pc_eqAt {v u : Value} {p : Str × Str} (hu : A.units + 2 < cLine) (h1 : Pc s.heap v p) (h2 : Pc s.heap u p) : _root_.PySem.SeqAt.EqAt A s v u true := by
  obtain ⟨T1, e1, a1, b1, rfl, o1⟩ := h1
  obtain ⟨T2, e2, a2, b2, rfl, o2⟩ := h2
  by_cases h : T1 = T2
  · subst h; exact _root_.PySem.SeqAt.EqAt.same _
  · refine _root_.PySem.SeqAt.EqAt.of_refs h ?_
    have := _root_.PySem.SeqAt.RcAt.tuples (A := A) (s := s) (l := T1) (b := T2) (items := #[.str p.1 a1, .str p.2 b1]) (items2 := #[.str p.1 a2, .str p.2 b2]) (e := fun _ => true) ⟨_, o1, rfl, _, rfl⟩ ⟨_, o2, rfl, _, rfl⟩ (by walk_at "l") (fun j h1 h2 prog w E Q hq => by
      match j, h1 with
      | 0, _ => exact eqBool_str (by simpa using hq)
      | 1, _ => exact eqBool_str (by simpa using hq)
      | j + 2, h => simp at h; lia)
    rw [all_true] at this
    exact this
theorem ne_like {a b : Addr} {vs us : List Value} {e e' : Nat} {Q : Value → Shared → Prop} (hu : A.units + 10 < cLine) (ha : s.heap.get? a = some (seqObj "list" vs.toArray e)) (hb : s.heap.get? b = some (seqObj "list" us.toArray e')) (hl : Like s.heap vs us) (h : Q (.bool false) s) :
    wpAny (model prog w) A (compareOp .NotEq (.ref a) (.ref b)) Q E s := by
  have hne := _root_.PySem.SeqAt.RcNeAt.lists (A := A) (s := s) (l := a) (b := b) (items := vs.toArray) (items2 := us.toArray) (e := fun _ => true) ⟨_, ha, rfl, _, rfl⟩ ⟨_, hb, rfl, _, rfl⟩ (by simpa using hl.1) (by walk_at "l") (fun j h1 h2 => by
    simp at h1 h2
    obtain ⟨p, p1, p2⟩ := hl.2 j _ _ (List.getElem?_eq_getElem h1) (List.getElem?_eq_getElem h2)
    have := pc_eqAt (A := A.in1) (s := s) (by show A.units + 1 + 2 < _; lia) p1 p2
    simpa using this)
  rw [all_true] at hne
  exact hne prog w E Q h
theorem eq_like {a b : Addr} {vs us : List Value} {e e' : Nat} {Q : Value → Shared → Prop} (hu : A.units + 10 < cLine) (ha : s.heap.get? a = some (seqObj "list" vs.toArray e)) (hb : s.heap.get? b = some (seqObj "list" us.toArray e')) (hl : Like s.heap vs us) (h : Q (.bool true) s) :
    wpAny (model prog w) A (compareOp .Eq (.ref a) (.ref b)) Q E s := by
  refine _root_.PySem.SeqAt.eq_listAt (items := vs.toArray) (items2 := us.toArray) (e := fun _ => true) ⟨_, ha, rfl, _, rfl⟩ ⟨_, hb, rfl, _, rfl⟩ (by simpa using hl.1) (by walk_at "l") (fun j h1 h2 => ?_) (by rw [all_true]; exact h)
  simp at h1 h2
  obtain ⟨p, p1, p2⟩ := hl.2 j _ _ (List.getElem?_eq_getElem h1) (List.getElem?_eq_getElem h2)
  have := pc_eqAt (A := A.in1) (s := s) (by show A.units + 1 + 2 < _; lia) p1 p2
  simpa using this
theorem Like.keeps {h h' : Heap} {vs us : List Value} (x : Like h vs us) (k : Keeps h h') : Like h' vs us := ⟨x.1, fun i v u h1 h2 => by obtain ⟨p, a, b⟩ := x.2 i v u h1 h2; exact ⟨p, a.keeps k, b.keeps k⟩⟩
theorem Like.of {h : Heap} {vs us : List Value} {ps : List (Str × Str)} (h1 : Pcs h vs ps) (h2 : Pcs h us ps) : Like h vs us :=
  ⟨h1.1.trans h2.1.symm, fun i v u hv hu => by
    have hi : i < ps.length := by rw [← h1.1]; exact (List.getElem?_eq_some_iff.mp hv).1
    exact ⟨_, h1.2 i v _ hv (List.getElem?_eq_getElem hi), h2.2 i u _ hu (List.getElem?_eq_getElem hi)⟩⟩
theorem Like.take {h : Heap} {vs us : List Value} (x : Like h vs us) (n : Nat) : Like h (vs.take n) (us.take n) :=
  ⟨by simp [x.1], fun i v u hv hu => by
    by_cases hi : i < n
    · rw [List.getElem?_take_of_lt hi] at hv hu
      exact x.2 i v u hv hu
    · have h1 := (List.getElem?_eq_some_iff.mp hv).1
      simp at h1; lia⟩
theorem Like.sorted {h : Heap} {vs us out out' : List Value} {ps : List (Str × Str)} {L : Nat → Nat → Bool} (W : WA L) (h1 : Pcs h vs ps) (h2 : Pcs h us ps) (s1 : SortedBy L vs out) (s2 : SortedBy L us out') : Like h out out' := by
  have hl : vs.length = us.length := h1.1.trans h2.1.symm
  obtain ⟨τ, p, q, rfl⟩ := s1.places (W _)
  obtain ⟨τ', p', q', rfl⟩ := s2.places (W _)
  have e : τ = τ' := ord_uniq (W vs.length) τ τ' (fun x hx => List.mem_range.mp (p.mem_iff.mp hx)) (p.trans (hl ▸ p'.symm)) q q'
  subst e
  refine ⟨by simp, fun i v u hv hu => ?_⟩
  rw [List.getElem?_map] at hv hu
  cases ht : τ[i]? with
  | none => rw [ht] at hv; cases hv
  | some k =>
    rw [ht] at hv hu
    simp only [Option.map_some, Option.some.injEq] at hv hu
    subst hv hu
    have hk := List.mem_range.mp (p.mem_iff.mp (List.mem_of_getElem? ht))
    exact ⟨_, h1.atD hk, h2.atD (by walk_at "l")⟩
end

section
variable {w : World} {A : Around} {E : Value → Shared → Prop} {s : Shared} {g g₀ : Heap} {L : Addr} {l : List (Str × Value)} {N : List (Addr × Obj)} {o : OsState} {mg mb : Str → Option Value} {K : Frag} {env : Env} {x : Addr} {xs : List Value}
theorem Tab2.base {G : Heap} {pos : Pos} {qual : Str} {qs : Array Value} (S : St g L l N o s) (hT : Tab2 (hideAll s.heap [130, 246]) pos qual qs) (hN : ∀ p ∈ N, p.1 = 130 ∨ p.1 = 246 ∨ ∃ a k, p.2 = liObj a k)
    (hG : ∀ b ob, s.heap.get? b = some ob → b ≠ L → b ∉ N.map (·.1) → G.get? b = some ob) : Tab2 G pos qual qs := by
  refine ⟨hT.1, hT.2.imp id fun ⟨c', h1, h2⟩ => ⟨c', h1, ?_⟩⟩
  obtain ⟨c₂, oc, vs, t, e2, hoc, hd, hv⟩ := h2
  cases e2
  have hh := of_hideAll _ hoc
  refine ⟨c', oc, vs, t, rfl, hG _ _ hh (fun q => ?_) (fun hm => ?_), hd, hv⟩
  · obtain ⟨m, F, _⟩ := S.fr
    obtain ⟨oL, es, ep, e1, e3, _⟩ := F.ns
    rw [q, e1] at hh; cases hh; rw [e3] at hd; cases hd
  · obtain ⟨p, hp, he⟩ := List.mem_map.mp hm
    have he : p.1 = c' := he
    have hp1 := S.at (a := p.1) (ob := p.2) hp
    rcases hN p hp with q | q | ⟨a, k, q⟩
    · rw [← he, q, hideAll_none _ (by simp)] at hoc; cases hoc
    · rw [← he, q, hideAll_none _ (by simp)] at hoc; cases hoc
    · rw [he, hh, q] at hp1
      cases hp1
      cases hd
      simp [rawInt] at hv
theorem Tab2.keeps {g h : Heap} {pos : Pos} {qual : Str} {qs : Array Value} (x : Tab2 g pos qual qs) (k : Keeps g h) : Tab2 h pos qual qs := ⟨x.1, x.2.imp id fun ⟨c', h1, h2⟩ => ⟨c', h1, h2.keeps k⟩⟩
theorem c_max2 {a b : Int} {t u : Tok} {Q : Value → Shared → Prop} (hh : A.handled = none) (S : St g L l N o s) (h : ∀ t s', St g L l N o s' → Q (.int (max a b) t) s') : wpAny (model prog w) A (call (.builtin "max") [.int a t, .int b u]) Q E s := by
  refine max_two_ints hh fun h' tk hk => ?_
  have S' := S.grown (s' := { s with heap := h', toks := tk }) hk rfl rfl
  by_cases hc : b > a
  · rw [if_pos hc]; have := h u _ S'; rwa [Int.max_eq_right (by walk_at "l")] at this
  · rw [if_neg hc]; have := h t _ S'; rwa [Int.max_eq_left (by walk_at "l")] at this
set_option maxHeartbeats 2000000
theorem right_ok {ps : List (Str × Str)} {a z : Int} {tz tt : Tok} {table : Str} {ob : Obj} {cs : Array Value} {P Wl : Addr} {qs wvs : List Value} {eP eW : Nat} {ws : List Int} {Q : Value → Shared → Prop} (G : Gx K mg mb g₀) (Kp : Keeps g₀ s.heap) (h130 : g₀.get? 130 = none) (h246 : g₀.get? 246 = none)
    (r : Row K (hideAll s.heap [130, 246]) x xs ps a) (hob : s.heap.get? 130 = some ob) (hT : Tab ob) (hob2 : s.heap.get? 246 = some (tabObj cs)) (hT2 : Tab2 (hideAll s.heap [130, 246]) placePos placeQual cs) (hh : A.handled = none) (hd : A.depth + 60 < recursionLimit) (hu : A.units + 250 < cLine) (hg : AllBare s.gens)
    (hP : (hideAll s.heap [130, 246]).get? P = some (seqObj "list" qs.toArray eP)) (hq : Pcs (hideAll s.heap [130, 246]) qs ps) (hW : (hideAll s.heap [130, 246]).get? Wl = some (seqObj "list" wvs.toArray eW)) (hI : IntsAre wvs ws) (hws : ∀ n ∈ ws, -1000 < n ∧ n < 1000) (hwl : ws.length ≤ 10)
    (hz : z = a + sizeOf' ps) (hxs : 2 ≤ xs.length)
    (h : ∀ ob' cs' s', KeepsBut [130, 246] s.heap s'.heap → s'.heap.get? 130 = some ob' → Tab ob' → s'.heap.get? 246 = some (tabObj cs') → Tab2 (hideAll s'.heap [130, 246]) placePos placeQual cs' → s'.os = s.os → AllBare s'.gens → Q (.bool true) s') :
    wpAny (model prog w) A (call (.ref 256) [.ref x, .ref P, .int z tz, .ref Wl, .str table tt]) Q E s := by
  have Kg : Keeps g₀ (hideAll s.heap [130, 246]) := Kp.hide (by intro b hb; simp at hb; rcases hb with rfl | rfl; exact h130; exact h246)
  have Gg := G.keeps Kg
  have hfew := r.few
  have hql : qs.length = xs.length := hq.1.trans r.pcs.1.symm
  refine call_fn_c (N := [(130, ob), (246, tabObj cs)]) (binds := [(Str.ofString "row", .ref x), (Str.ofString "pieces", .ref P), (Str.ofString "size", .int z tz), (Str.ofString "wishes", .ref Wl), (Str.ofString "table", .str table tt)]) (lb := [(Str.ofString "row", .ref x), (Str.ofString "pieces", .ref P), (Str.ofString "size", .int z tz), (Str.ofString "wishes", .ref Wl)]) G.lim Kp G.f256 (by walk_at "l")
    (by intro p hp; simp at hp; rcases hp with rfl | rfl; exact hob; exact hob2) hg rfl (.of_eq rfl) rfl (fun _ => rfl) rfl (fun _ => rfl) (by simp) ?_
  intro L s₁ M hM S
  obtain ⟨o1, rfl, h1⟩ := one_cell (c := L + 1) (d := .cell (some (.str table tt))) hM
  clear hM
  simp only [List.cons_append, List.nil_append, List.map_cons, List.map_nil] at S
  have hh' : ∀ env, (A.deeper env).handled = none := fun _ => hh
  have S0 := S
  obtain ⟨G1, kg1, kg2, _, S⟩ := S.rebase (N' := [(130, ob), (246, tabObj cs)]) (.cons _ (.refl _))
  have c1 : G1.get? (L + 1) = some o1 := kg2 (L + 1, o1) (.head _) (S0.out0 (.refl _))
  clear S0
  have G1g := Gg.keeps kg1
  have hP1 := kg1 _ _ hP
  have hq1 := hq.keeps kg1
  refine x_cons ?_
  refine w_comp_as (cl := [(Str.ofString "table", L + 1)]) ?_
  refine e_loc S rfl ?_
  refine i_lst S (S.kept _ _ hP1) ?_
  intro it s2 S
  refine ⟨G1, L, _, _, s.os, rfl, loops_list (hh' _) S ⟨_, _, hP1, rfl⟩ (fun k _ ys N => (∀ (i : Nat) (v : Value), ys[i]? = some v → ∃ t, v = Value.int (keyOf table (ps.getD i default)) t) ∧ ys.length = k ∧ N = [(130, ob), (246, tabObj cs)]) (fun _ _ => ⟨by intro i v hv; simp at hv, rfl, rfl⟩) ?_ ?_⟩
  · intro k D C G3 ys e1 N s9 v hv kG hI₁ S9 P₁ hP₁
    obtain ⟨hJ, hyk, rfl⟩ := hI₁
    have hkq := (List.getElem?_eq_some_iff.mp hv).1
    have hpc := (hq1.atD hkq).keeps kG
    rw [show qs.getD k .none = v by simp [List.getD, hv]] at hpc
    obtain ⟨T, eT, ta, tb, rfl, hTo⟩ := hpc
    refine wpAny_assign_Name (s_loc S9 ?_)
    intro s10 S10
    walk_at "put"
    show wpAny _ _ (eval _ _) _ _ _
    refine MethodCall_ (e_cellH (S10.kept _ _ (kG _ _ c1)) h1 ?_)
    refine GM.find ?_
    refine callWith_method1 ?_
    refine args_cons (Subscript_ (e_loc S10 rfl ?_))
    repeat (walk_at "1")
    rename St _ _ _ _ _ _ => S11
    refine i_tup (items := [_, _]) (j := 1) (S11.kept _ _ hTo) rfl rfl (by simp) ?_
    repeat (walk_at "1")
    refine SC.find ?_
    refine ap_list S11.tok 0 rfl (by walk_at "l") ?_
    intro s12 S12
    refine hP₁ _ ⟨G3, _, _, _, _, .refl _, ⟨fun i u hu => ?_, by simp [hyk], rfl⟩, S12⟩
    by_cases hi : i < k
    · rw [List.getElem?_append_left (by walk_at "l")] at hu
      exact hJ i u hu
    · have hi2 : i = k := by have := (List.getElem?_eq_some_iff.mp hu).1; simp at this; lia
      subst hi2
      rw [List.getElem?_append_right (by walk_at "l")] at hu
      simp [hyk] at hu
      exact ⟨_, hu.symm⟩
  · rintro Kl G3 ks e1 N G4 s9 ⟨hJ, hkl, rfl⟩ kg4 _ S
    walk_at "put"
    have S := S.less (N' := [(Kl, seqObj "list" ks.toArray e1), (130, ob), (246, tabObj cs)]) (.cons_cons _ (.cons _ (.refl _)))
    refine x_cons ?_
    have locs : True := trivial
    refine w_forE (fun s' => Ex3 fun (G' : Heap) (ob : Obj) (cs : Array Value) => An4 (Keeps (hideAll s.heap [130, 246]) G') (Tab ob) (Tab2 G' placePos placeQual cs) (St G' L [(Str.ofString "row", .ref x), (Str.ofString "pieces", .ref P), (Str.ofString "size", .int z tz), (Str.ofString "wishes", .ref Wl), (Str.ofString "keys", .ref Kl)] [(130, ob), (246, tabObj cs)] s.os s')) ?_ ?_
    · refine e_lst (spliced_more (wpAny_Constant_bool (spliced_more (wpAny_Constant_bool (spliced_none (Made.go S (by simp) ?_))))))
      intro D _ S _ _
      have S05 := S
      obtain ⟨G5, kg5, kg6, _, S⟩ := S.rebase (N' := [(130, ob), (246, tabObj cs)]) (.cons _ (.cons _ (.refl _)))
      have hD := kg6 _ (.head _) (S05.out0 (.cons _ (.refl _)))
      have hKl := kg6 _ (.tail _ (.head _)) (S05.outI 1 rfl (.cons _ (.refl _)))
      clear S05
      have k5 : Keeps (hideAll s.heap [130, 246]) G5 := kg1.trans (kg4.trans kg5)
      have c1' := kg5 _ _ (kg4 _ _ c1)
      refine i_lst (xs := [.bool false, .bool true]) S (S.kept _ _ hD) ?_
      intro it s3 S
      refine ⟨fun m s' => Ex4 fun (j : Nat) (G' : Heap) (ob : Obj) (cs : Array Value) => An6 (m = 2 - j) (j ≤ 2) (Keeps G5 G') (Tab ob) (Tab2 G' placePos placeQual cs) (St G' L [(Str.ofString "row", .ref x), (Str.ofString "pieces", .ref P), (Str.ofString "size", .int z tz), (Str.ofString "wishes", .ref Wl), (Str.ofString "keys", .ref Kl)] [(it, liObj D j), (130, ob), (246, tabObj cs)] s.os s'), _, ⟨0, G5, ob, cs, rfl, by walk_at "l", .refl _, hT, hT2.keeps k5, S⟩, ?_⟩
      clear S
      intro m s4 hI₁ Q₁ X₁ hQ₁ hX₁
      obtain ⟨j, G6, ob6, cs6, rfl, hj, kG6, hT6, hT26, S⟩ := hI₁
      by_cases hj2 : j = 2
      · subst hj2
        refine n_li_end (hh' _) S 0 rfl ⟨_, _, S.kept _ _ (kG6 _ _ hD), rfl⟩ (by simp) ?_
        intro s5 S
        exact wpAny_execs_nil ⟨rfl, hX₁ _ ⟨G6, ob6, cs6, k5.trans kG6, hT6, hT26, S.less (.cons _ (.refl _))⟩⟩
      · obtain ⟨b, hb⟩ : ∃ b : Bool, [Value.bool false, Value.bool true][j]? = some (.bool b) := by
          match j, hj2 with
          | 0, _ => exact ⟨_, rfl⟩
          | 1, _ => exact ⟨_, rfl⟩
          | j + 2, h => lia
        refine n_li S 0 rfl ⟨_, _, S.kept _ _ (kG6 _ _ hD), rfl⟩ hb ?_
        intro s5 S
        refine go_plain (S.at (.head _)) rfl rfl ?_
        refine wpAny_assign_Name (s_loc S ?_)
        intro s6 S
        walk_at "put"
        dsimp only [List.set_cons_zero] at S
        have GG := Gg.keeps (k5.trans kG6)
        refine x_cons (wpAny_Assign_Name (Call_ (e_glob S GG.gs GG.n244 ?_)))
        refine c_fn GG.f244 ?_
        refine args_cons (e_loc S rfl ?_)
        refine args_cons (e_loc S rfl ?_)
        refine args_cons (e_loc S rfl ?_)
        repeat (walk_at "1")
        refine ⟨⟨_, _, _, _, S⟩, ?_⟩
        refine order_ok (A := A.deeper _) (kl := pkLt table ps) GG.toGv S.kept hh (dd hd (by decide)) (du hu (by decide)) S.gn (S.kept _ _ (kG6 _ _ (kg5 _ _ (kg4 _ _ hP1)))) (S.kept _ _ (kG6 _ _ hKl)) hkl (by walk_at "l") (pkLt_wa table ps) (keys_ints hJ) ?_
        intro R out eR s7 hl7 hR7 hRo hsb
        have fR := S.fresh hR7
        have nR : ∀ p ∈ [(it, liObj D (j + 1)), (130, ob6), (246, tabObj cs6)], p.1 ≠ R := fun p hp q => by
          have := S.at (a := p.1) (ob := p.2) hp
          rw [q, hR7] at this; cases this
        have S := S.on hl7
        obtain ⟨G7, kg7, kall7, _, S⟩ := S.rebaseAll
        have hR : G7.get? R = some (seqObj "list" out.toArray eR) := kall7 _ _ hRo fR.1 (fun hm => by
          obtain ⟨p, hp, he⟩ := List.mem_map.mp hm
          exact nR p hp he)
        have k7 : Keeps G5 G7 := kG6.trans kg7
        repeat (walk_at "1")
        rename St _ _ _ _ _ _ => S
        refine w_forE (fun s' => Ex3 fun (G' : Heap) (ob : Obj) (cs : Array Value) => An4 (Keeps G7 G') (Tab ob) (Tab2 G' placePos placeQual cs) (St G' L [(Str.ofString "row", .ref x), (Str.ofString "pieces", .ref P), (Str.ofString "size", .int z tz), (Str.ofString "wishes", .ref Wl), (Str.ofString "keys", .ref Kl)] [(it, liObj D (j + 1)), (130, ob), (246, tabObj cs)] s.os s')) ?_ ?_
        · repeat (walk_at "1")
          have hW7 := k7 _ _ (k5 _ _ hW)
          refine i_lst S (S.kept _ _ hW7) ?_
          intro it2 s8 S
          refine ⟨fun m s' => Ex4 fun (k : Nat) (G' : Heap) (ob : Obj) (cs : Array Value) => An6 (m = wvs.length - k) (k ≤ wvs.length) (Keeps G7 G') (Tab ob) (Tab2 G' placePos placeQual cs) (St G' L [(Str.ofString "row", .ref x), (Str.ofString "pieces", .ref P), (Str.ofString "size", .int z tz), (Str.ofString "wishes", .ref Wl), (Str.ofString "keys", .ref Kl), (Str.ofString "turned", .bool b), (Str.ofString "order", .ref R)] [(it2, liObj Wl k), (it, liObj D (j + 1)), (130, ob), (246, tabObj cs)] s.os s'), _, ⟨0, G7, ob6, cs6, rfl, by walk_at "l", .refl _, hT6, hT26.keeps kg7, S⟩, ?_⟩
          clear S
          intro m s9 hI₁ Q₂ X₂ hQ₂ hX₂
          obtain ⟨k, G8, ob8, cs8, rfl, hk, kG8, hT8, hT28, S⟩ := hI₁
          by_cases hkw : k = wvs.length
          · subst hkw
            refine n_li_end (hh' _) S 0 rfl ⟨_, _, S.kept _ _ (kG8 _ _ hW7), rfl⟩ (Nat.le_refl _) ?_
            intro s10 S
            exact wpAny_execs_nil ⟨rfl, hX₂ _ ⟨G8, ob8, cs8, kG8, hT8, hT28, (S.less (.cons _ (.refl _))).weak rfl⟩⟩
          · have hkl2 : k < wvs.length := by walk_at "l"
            obtain ⟨n, tn, hn1, hn2⟩ := intsAre_getElem hI k _ (List.getElem?_eq_getElem hkl2)
            have hnb := hws n (List.mem_of_getElem? hn1)
            refine n_li S 0 rfl ⟨_, _, S.kept _ _ (kG8 _ _ hW7), rfl⟩ (List.getElem?_eq_getElem hkl2) ?_
            intro s10 S
            refine go_plain (S.at (.head _)) rfl rfl ?_
            rw [hn2]
            refine wpAny_assign_Name (s_loc S ?_)
            intro s11 S
            walk_at "put"
            dsimp only [List.set_cons_zero] at S
            have kB : Keeps (hideAll s.heap [130, 246]) G8 := k5.trans (k7.trans kG8)
            have GG8 := Gg.keeps kB
            refine x_cons (Assign_Tuple (Call_ (e_glob S GG8.gs GG8.n251 ?_)))
            refine c_fn GG8.f251 ?_
            refine args_cons (e_loc S rfl ?_)
            refine args_cons (e_loc S rfl ?_)
            refine args_cons (e_cellH (S.kept _ _ (kG8 _ _ (k7 _ _ c1'))) h1 ?_)
            refine args_cons (e_loc S rfl ?_)
            repeat (walk_at "1")
            refine ⟨⟨_, _, _, _, S⟩, ?_⟩
            have hkh := S.kept.hide (ms := [130, 246]) (by intro b hb; simp at hb; rcases hb with rfl | rfl; exact (S.nw _ (.tail _ (.tail _ (.head _)))).2.2; exact (S.nw _ (.tail _ (.tail _ (.tail _ (.head _))))).2.2)
            refine asked_ok (A := A.deeper _) GG8 S.kept (S.nw _ (.tail _ (.tail _ (.head _)))).2.2 (S.nw _ (.tail _ (.tail _ (.tail _ (.head _))))).2.2 ((r.keeps kB).keeps hkh) (S.at (.tail _ (.tail _ (.head _)))) hT8 (S.at (.tail _ (.tail _ (.tail _ (.head _))))) (hT28.keeps hkh) hh (dd hd (by decide)) (du hu (by decide)) S.gn hxs hnb.2 hnb.1 ?_
            intro T R2 al out2 e2 e3 ob9 cs9 s12 kb h130' hT9 h246' hT29 hTo hR2 hal hsb2 nT nR2 nal ho12 hg12
            have S12 := S.next (s' := s12) (N' := [(it2, liObj Wl (k + 1)), (it, liObj D (j + 1)), (130, ob9), (246, tabObj cs9)]) (ms := [130, 246]) kb (by intro b hb; simp at hb; rcases hb with rfl | rfl; exact (S.nw _ (.tail _ (.tail _ (.head _)))).2; exact (S.nw _ (.tail _ (.tail _ (.tail _ (.head _))))).2)
              (fun p hp => by
                simp at hp
                rcases hp with rfl | rfl | rfl | rfl
                · exact ⟨kb _ _ (nin2 (S.apart 0 2 rfl rfl (by decide)) (S.apart 0 3 rfl rfl (by decide))) (S.at (.head _)), (S.nw _ (.head _)).2⟩
                · exact ⟨kb _ _ (nin2 (S.apart 1 2 rfl rfl (by decide)) (S.apart 1 3 rfl rfl (by decide))) (S.at (.tail _ (.head _))), (S.nw _ (.tail _ (.head _))).2⟩
                · exact ⟨h130', (S.nw _ (.tail _ (.tail _ (.head _)))).2⟩
                · exact ⟨h246', (S.nw _ (.tail _ (.tail _ (.tail _ (.head _))))).2⟩) S.nd (ho12.trans S.os) hg12
            have notin : ∀ y, s11.heap.get? y = none → y ≠ L ∧ y ∉ [(it2, liObj Wl (k + 1)), (it, liObj D (j + 1)), (130, ob9), (246, tabObj cs9)].map (·.1) := fun y hy => by
              refine ⟨(S.fresh hy).1, fun hm => ?_⟩
              have hm' : y ∈ [(it2, liObj Wl (k + 1)), (it, liObj D (j + 1)), (130, ob8), (246, tabObj cs8)].map (·.1) := hm
              obtain ⟨p, hp, he⟩ := List.mem_map.mp hm'
              have := S.at (a := p.1) (ob := p.2) hp
              rw [he, hy] at this; cases this
            obtain ⟨G9, kg9, kall9, _, S13⟩ := S12.rebaseAll
            have hT39 := hT29.base S12 (by intro p hp; simp at hp; rcases hp with rfl | rfl | rfl | rfl; exact .inr (.inr ⟨_, _, rfl⟩); exact .inr (.inr ⟨_, _, rfl⟩); exact .inl rfl; exact .inr (.inl rfl)) kall9
            have gT := kall9 _ _ hTo (notin T nT).1 (notin T nT).2
            have gR2 := kall9 _ _ hR2 (notin R2 nR2).1 (notin R2 nR2).2
            have gal := kall9 _ _ hal (notin al nal).1 (notin al nal).2
            clear S S12
            have S := S13
            clear S13
            have kR : Keeps G7 G9 := kG8.trans kg9
            have kBB : Keeps (hideAll s.heap [130, 246]) G9 := kB.trans kg9
            have GG9 := Gg.keeps kBB
            refine as_tup (items := [_, _]) (hh' _) S (S.kept _ _ gT) ?_
            intro s13 S
            refine assignInOrder_cons (wpAny_assign_Name (s_loc S ?_))
            intro s14 S
            refine assignInOrder_cons (wpAny_assign_Name (s_loc S ?_))
            intro s15 S
            refine assignInOrder_nil ?_
            walk_at "put"
            refine x_cons (wpAny_If (wpAny_isTrue_Compare1 (e_loc S rfl (Subscript_ (e_loc S rfl (e_slice_up ?_))))))
            refine Call_ (e_blt S GG9.gs GG9.bs GG9.max0 GG9.max1 ?_)
            refine callWith_method1 ?_
            refine args_cons (e_loc S rfl ?_)
            repeat (walk_at "1")
            rename St _ _ _ _ _ _ => S
            refine c_max2 (hh' _) S ?_
            intro _ _ S
            refine ⟨_, _, _, _, _, S, ?_⟩
            intro sl s16 S
            have hol : out.length = qs.length := by obtain ⟨σ, q1, _⟩ := hsb; exact q1
            refine tail_up S (S.kept _ _ (kR _ _ hR)) (S.at (.head _)) (by walk_at "l") (by walk_at "l") ?_
            intro O2 s17 S
            have hpx : Pcs s17.heap xs ps := (r.pcs.keeps kBB).keeps S.kept
            have hpq : Pcs s17.heap qs ps := (hq.keeps kBB).keeps S.kept
            have lk := (Like.sorted ((pkLt_wa table ps).flp b) hpx hpq hsb2 hsb).take n.toNat
            refine ne_like (by show _ < _; exact du (m := 10) hu (by decide)) (S.kept _ _ gR2) (by rw [show (max n 0).toNat = n.toNat by walk_at "l"] at S; exact S.at (.head _)) lk ?_
            repeat (walk_at "w")
            rename St _ _ _ _ _ _ => S
            have hsz0 := sizeOf_nonneg ps
            have hf0 := r.first
            have hlp : Like G9 xs qs := Like.of (r.pcs.keeps kBB) (hq.keeps kBB)
            have hPG := kR _ _ (k7 _ _ (kg5 _ _ (kg4 _ _ hP1)))
            have hA10 : (A.deeper (callEnvC (fnAt 44 Value.none mLaw 255) L 256)).units + 10 < cLine := du (m := 10) hu (by decide)
            refine ite_dec (fun hp => ?_) (fun hp => ?_)
            · refine if_tt ?_
              rw [if_pos (.inl hp)] at gal
              refine e_loc S rfl ?_
              refine ne_like hA10 (S.kept _ _ gal) (S.kept _ _ hPG) (hlp.keeps S.kept) ?_
              repeat (walk_at "w")
              exact hQ₂ _ _ ⟨wvs.length - (k + 1), by walk_at "l", k + 1, G9, ob9, cs9, rfl, by walk_at "l", kR, hT9, hT39, (S.less (.cons _ (.cons _ (.refl _)))).weak rfl⟩
            · repeat (walk_at "w")
              rename St _ _ _ _ _ _ => S
              refine ite_dec (fun hp2 => ?_) (fun hp2 => ?_)
              · rw [if_pos (.inr (by walk_at "l"))] at gal
                repeat (walk_at "w")
                refine ne_like hA10 (S.kept _ _ gal) (S.kept _ _ hPG) (hlp.keeps S.kept) ?_
                repeat (walk_at "w")
                exact hQ₂ _ _ ⟨wvs.length - (k + 1), by walk_at "l", k + 1, G9, ob9, cs9, rfl, by walk_at "l", kR, hT9, hT39, (S.less (.cons _ (.cons _ (.refl _)))).weak rfl⟩
              · rw [if_neg (by walk_at "l")] at gal
                repeat (walk_at "w")
                rename St _ _ _ _ _ _ => S
                refine ne_like hA10 (S.kept _ _ gal) (S.at (.head _)) ⟨rfl, by intro i v u hv; simp at hv⟩ ?_
                repeat (walk_at "w")
                exact hQ₂ _ _ ⟨wvs.length - (k + 1), by walk_at "l", k + 1, G9, ob9, cs9, rfl, by walk_at "l", kR, hT9, hT39, (S.less (.cons _ (.cons _ (.cons _ (.refl _))))).weak rfl⟩
        · rintro s8 ⟨G', ob', cs', kG, hT', hT2', S⟩
          repeat (walk_at "1")
          exact hQ₁ _ _ ⟨2 - (j + 1), by walk_at "l", j + 1, G', ob', cs', rfl, by walk_at "l", k7.trans kG, hT', hT2', S⟩
    · rintro s3 ⟨G', ob', cs', kG, hT', hT2', S⟩
      obtain ⟨nx, dx, od, ta, hx1, hx2⟩ := (r.keeps kG).at'
      have GG := Gg.keeps kG
      refine x_cons (wpAny_Return_some ?_)
      refine BoolOp_and ?_
      refine wpAny_Compare1 (w_comp (cl := []) (e_loc S rfl ?_))
      refine i_acc GG.toCl S (hx1.keeps S.kept) ?_
      intro it s4 S
      refine ⟨G', L, _, _, s.os, loops_list (hh' _) S hx1.seq (fun k _ ys N => ys = xs.take k ∧ N = [(130, ob'), (246, tabObj cs')]) (fun _ _ => ⟨rfl, rfl⟩) ?_ ?_⟩
      · intro k D C G3 ys e2 N s9 v hv kG3 hI₁ S9 P₁ hP₁
        obtain ⟨rfl, rfl⟩ := hI₁
        refine wpAny_assign_Name (s_loc S9 ?_)
        intro s10 S10
        walk_at "put"
        show wpAny _ _ (eval _ _) _ _ _
        refine e_loc S10 rfl ?_
        refine ap_list S10 0 rfl (by simp; lia) ?_
        intro s12 S12
        exact hP₁ _ ⟨G3, _, _, _, _, .refl _, ⟨by rw [List.take_add_one, hv]; rfl, rfl⟩, S12⟩
      · rintro D G3 ys e2 N G5 s9 ⟨rfl, rfl⟩ kg5 _ S
        rw [List.take_length] at S
        have hlp : Like G5 xs qs := Like.of ((r.pcs.keeps kG).keeps kg5) ((hq.keeps kG).keeps kg5)
        refine e_loc S rfl ?_
        refine eq_like (du (m := 10) hu (by decide)) (S.at (.head _)) (S.kept _ _ (kg5 _ _ (kG _ _ hP))) (hlp.keeps S.kept) ?_
        refine wpAny_truthy_bool ?_
        refine if_tt ?_
        refine BoolOp_one (wpAny_Compare1 ?_)
        refine Call_ (e_blt S (GG.keeps kg5).gs (GG.keeps kg5).bs (GG.keeps kg5).len0 (GG.keeps kg5).len1 ?_)
        refine callWith_method1 ?_
        refine args_cons (e_loc S rfl ?_)
        repeat (walk_at "1")
        refine c_lenrow (A := A.deeper _) (GG.keeps kg5).toGw ((r.keeps kG).keeps kg5) S 2 rfl hT' hh (dd hd (by decide)) ?_
        intro tl s10 ob2 hTb S
        refine e_loc S rfl ?_
        refine PyProof.Rows.eq_int ?_
        have ez : (a + sizeOf' ps == z) = true := by simp [hz]
        rw [ez]
        dsimp only [List.set_cons_succ, List.set_cons_zero] at S
        refine h ob2 cs' _ (S.keepsBut' (kG.trans kg5)) (S.at (.tail _ (.tail _ (.head _)))) hTb (S.at (.tail _ (.tail _ (.tail _ (.head _))))) ?_ S.os S.gn
        refine (hT2'.keeps kg5).keeps (S.kept.hide ?_)
        intro b hb
        simp at hb
        rcases hb with rfl | rfl
        · exact (S.nw _ (.tail _ (.tail _ (.head _)))).2.2
        · exact (S.nw _ (.tail _ (.tail _ (.tail _ (.head _))))).2.2
end

section
variable {w : World} {A : Around} {E : Value → Shared → Prop} {s : Shared} {g : Heap} {L : Addr} {l : List (Str × Value)} {N : List (Addr × Obj)} {o : OsState} {env : Env}
theorem b_addl {a b : Addr} {vs us : List Value} {e e' : Nat} {Q : Value → Shared → Prop} (S : St g L l N o s) (ha : s.heap.get? a = some (seqObj "list" vs.toArray e)) (hb : s.heap.get? b = some (seqObj "list" us.toArray e')) (hz : vs.length + us.length ≤ 1000)
    (h : ∀ r s', St g L l ((r, seqObj "list" (vs ++ us).toArray 0) :: N) o s' → Q (.ref r) s') : wpAny (model prog w) A (binaryOp .Add (.ref a) (.ref b)) Q E s := by
  refine P.add_list ha hb ?_ (by rw [sizeLine_eq]; simp; lia)
  have S1 := S.new (seqObj "list" (vs ++ us).toArray 0) rfl
  rw [show (vs ++ us).toArray = vs.toArray ++ us.toArray by simp] at S1
  have := h s.heap.objs.size { s with heap := s.heap.push (seqObj "list" (vs.toArray ++ us.toArray) 0) }
  rw [show (vs ++ us).toArray = vs.toArray ++ us.toArray by simp] at this
  exact this S1
theorem c_suml {a : Addr} {vs : List Value} {ns : List Int} {e : Nat} {Q : Value → Shared → Prop} (hh : A.handled = none) (S : St g L l N o s) (ha : s.heap.get? a = some (seqObj "list" vs.toArray e)) (hi : IntsAre vs ns)
    (h : ∀ t s', St g L l N o s' → Q (.int ns.sum t) s') : wpAny (model prog w) A (call (.builtin "sum") [.ref a]) Q E s := by
  obtain ⟨m, F, hl⟩ := S.fr
  obtain ⟨xs, hx⟩ := hi.allInts.items
  have hls : s.heap.IsList a (intItems xs) := by rw [← hx]; exact ⟨_, ha, rfl, _, rfl⟩
  refine sum_intListG hh hls fun h' tk t' hk => ?_
  have S' := S.grown (s' := { s with heap := h', toks := tk }) hk rfl rfl
  have := h t' _ S'
  have e1 : ns.sum = preSum (numAt xs) xs.size := by
    have h2 := hi.numsOf
    have h3 := nums_intItems xs
    rw [← hx] at h3
    have h4 : numsOf vs.toArray.toList = ns := h2
    rw [h4] at h3
    rw [h3, PySem.preSum_eq, List.take_of_length_le (by simp)]
  rw [e1] at this
  exact this
end

noncomputable abbrev lawEnv (L : Addr) : Env := callEnv (fnAt 45 .none mLaw 260) L 261
noncomputable def lawBody : List Stmt := bodyOf (stAt 45)
noncomputable def lawStmt (i : Nat) : Stmt := lawBody.getD i (.Pass default)
noncomputable def numsOf' (nz : List Int) : List Int := if nz = [] then [9, 8, 1, 2, 15, 4, 0] else nz.take 7
theorem numsOf_len (nz : List Int) : 1 ≤ (numsOf' nz).length ∧ (numsOf' nz).length ≤ 7 := by
  unfold numsOf'
  split
  · exact ⟨by decide, by decide⟩
  · rename_i h
    have : 0 < nz.length := List.length_pos_iff.mpr h
    simp; lia
theorem ints_take {vs : List Value} {ns : List Int} (h : IntsAre vs ns) : ∀ k, IntsAre (vs.take k) (ns.take k) := by
  induction h with
  | nil => intro k; simp; exact .nil
  | cons n t _ ih =>
    intro k
    cases k with
    | zero => exact .nil
    | succ k => exact .cons n t (ih k)
theorem ints_drop {vs : List Value} {ns : List Int} (h : IntsAre vs ns) : ∀ k, IntsAre (vs.drop k) (ns.drop k) := by
  induction h with
  | nil => intro k; simp; exact .nil
  | cons n t h' ih =>
    intro k
    cases k with
    | zero => exact .cons n t h'
    | succ k => exact ih k
section
variable {w : World} {A : Around} {E : Value → Shared → Prop} {s : Shared} {g g₀ : Heap} {L : Addr} {l : List (Str × Value)} {N : List (Addr × Obj)} {o : OsState} {mg mb : Str → Option Value} {K : Frag} {env : Env} {ob : Obj} {cs : Array Value}
set_option maxHeartbeats 1000000
theorem isList_keeps {h h' : Heap} {a : Addr} {items : Array Value} (x : h.IsList a items) (k : Keeps h h') : h'.IsList a items := by obtain ⟨o, e, r⟩ := x; exact ⟨o, k _ _ e, r⟩
theorem tr_listL {a : Addr} {vs : List Value} {Q : Bool → Shared → Prop} (S : St g L l N o s) (hl : s.heap.IsList a vs.toArray) (hz : vs.length < 1000) (h : ∀ s', St g L l N o s' → Q (decide (vs ≠ [])) s') : wpAny (model prog w) A (truthy (.ref a)) Q E s := by
  refine wpAny_truthy_list (items := vs.toArray) hl (by simp; lia) ?_
  have e : (!vs.toArray.isEmpty) = decide (vs ≠ []) := by cases vs <;> simp
  rw [e]
  exact h _ S.tok
theorem tail_upL {value : Expr} {up : Expr} {p : Pos} {a sl : Addr} {vs : List Value} {k : Int} {t : Tok} {Q : Value → Shared → Prop} (S : St g L l N o s) (hl : s.heap.IsList a vs.toArray) (hs : s.heap.get? sl = some (slObj .none (.int k t) .none))
    (hk : 0 ≤ k) (hz : vs.length ≤ 1000) (h : ∀ r s', St g L l ((r, seqObj "list" (vs.take k.toNat).toArray 0) :: N) o s' → Q (.ref r) s') :
    wpAny (model prog w) A (subscriptTail value (.Slice none (some up) none p) (.ref a) (.ref sl)) Q E s := by
  have hout : slicePick vs.toArray none (some k) none = (vs.take k.toNat).toArray := by
    obtain ⟨m, rfl⟩ := Int.eq_ofNat_of_zero_le hk
    exact (slicePick_upto' _ _).trans (by simp)
  unfold subscriptTail
  refine wpAny_bind ?_
  rw [getitemInPython_of_ne hl.typeIs.not_modules]
  refine wpAny_bind (wpAny_specialOf hl.typeIs list_getitem_lookup ?_)
  have fin : wpAny (model prog w) A (operate [.ref sl, .ref a] (getItem (.ref a) (.ref sl))) (fun r s₃ => wpAny (model prog w) A (letTemporaryGo value (.ref a) r >>= fun _ => pure r) Q E s₃) E s := by
    refine wpAny_operating (wpAny_getItem_list_slice hl ⟨_, hs, rfl, rfl⟩ .none (.int k t) .none (by simp) ?_ (by rw [sizeLine_eq]; simp; lia))
    refine wpAny_bind (wpAny_letTemporaryGo (wpAny_pure ?_))
    rw [hout]
    exact h _ _ (S.new (seqObj "list" (vs.take k.toNat).toArray 0) rfl)
  first
    | exact wpAny_pure (wpAny_bind fin)
    | exact wpAny_bind (wpAny_pure (wpAny_bind fin))
    | exact wpAny_bind fin
theorem St.rebaseN {N₁ N₂ : List (Addr × Obj)} (S : St g L l (N₁ ++ N₂) o s) : ∃ g', An4 (Keeps g g') (∀ p ∈ N₁, g'.get? p.1 = some p.2) (Keeps g' s.heap) (St g' L l N₂ o s) := by
  have nd := S.nd
  obtain ⟨g', h1, h2, h3, h4⟩ := S.rebase (N' := N₂) (List.sublist_append_right _ _)
  refine ⟨g', h1, fun p hp => h2 p (List.mem_append_left _ hp) fun hm => ?_, h3, h4⟩
  rw [List.map_append] at nd
  exact (List.nodup_append.mp nd).2.2 p.1 (List.mem_map_of_mem hp) p.1 hm rfl
theorem Pcs.snoc {h : Heap} {ys : List Value} {ps : List (Str × Str)} {v : Value} {p : Str × Str} (x : Pcs h ys ps) (y : Pc h v p) : Pcs h (ys ++ [v]) (ps ++ [p]) := by
  refine ⟨by simp [x.1], fun i u q hu hq => ?_⟩
  by_cases hi : i < ys.length
  · rw [List.getElem?_append_left hi] at hu
    rw [List.getElem?_append_left (by rw [← x.1]; exact hi)] at hq
    exact x.2 i u q hu hq
  · have hi2 : i = ys.length := by have := (List.getElem?_eq_some_iff.mp hu).1; simp at this; lia
    subst hi2
    rw [List.getElem?_append_right (by walk_at "l")] at hu
    rw [List.getElem?_append_right (by rw [x.1]; lia)] at hq
    simp at hu
    simp [x.1] at hq
    subst hu hq
    exact y
theorem Pcs.append {h : Heap} {xs ys : List Value} {ps qs : List (Str × Str)} (x : Pcs h xs ps) (y : Pcs h ys qs) : Pcs h (xs ++ ys) (ps ++ qs) := by
  refine ⟨by simp [x.1, y.1], fun i u q hu hq => ?_⟩
  by_cases hi : i < xs.length
  · rw [List.getElem?_append_left hi] at hu
    rw [List.getElem?_append_left (by rw [← x.1]; exact hi)] at hq
    exact x.2 i u q hu hq
  · rw [List.getElem?_append_right (by walk_at "l")] at hu
    rw [List.getElem?_append_right (by rw [← x.1]; lia), ← x.1] at hq
    exact y.2 _ u q hu hq
theorem Over.pcs {G G' : Heap} {ys : List Value} {ps : List (Str × Str)} (x : Over L G G') (y : Pcs G ys ps) : Pcs G' ys ps := by
  obtain ⟨⟨ob, es, ep, e1, e2⟩, k⟩ := x
  refine ⟨y.1, fun i v p hv hp => ?_⟩
  obtain ⟨T, eT, ta, tb, h1, h2⟩ := y.2 i v p hv hp
  refine ⟨T, eT, ta, tb, h1, k _ _ h2 fun q => ?_⟩
  rw [q, e1] at h2
  cases h2
  cases e2
theorem fst_notin {a b : Addr} {u v : Obj} {c : Addr} (h : c ∉ [(a, u), (b, v)].map (·.1)) : c ∉ [a, b] := h
theorem law_0 {sc : Addr} {vs : List Value} {nz : List Int} {Q : Flow → Shared → Prop} (S : St g L [(Str.ofString "script", .ref sc)] [(130, ob), (246, tabObj cs)] o s) (hsc : g.IsList sc vs.toArray) (hI : IntsAre vs nz) (hz : vs.length ≤ 63)
    (h : ∀ Nl nvs s', IntsAre nvs (numsOf' nz) → St g L [(Str.ofString "script", .ref sc), (Str.ofString "numbers", .ref Nl)] [(Nl, seqObj "list" nvs.toArray 0), (130, ob), (246, tabObj cs)] o s' → Q .next s') :
    wpAny (model prog w) A (exec (lawStmt 0) (lawEnv L)) Q E s := by
  refine wpAny_Assign_Name (Subscript_ (BoolOp_or (e_loc S rfl (tr_listL S (isList_keeps hsc S.kept) (by walk_at "l") ?_))))
  intro s1 S
  by_cases hv : vs = []
  · rw [if_neg (by simp [hv])]
    refine BoolOp_one ?_
    repeat (walk_at "1")
    rename St _ _ _ _ _ _ => S
    rename_i D s2 _ _
    refine e_slice_up ?_
    repeat (walk_at "1")
    rename St _ _ _ _ _ _ => S
    refine ⟨_, _, _, _, _, S, ?_⟩
    intro sl s3 S
    refine tail_up S (S.at (.tail _ (.head _))) (S.at (.head _)) (by decide) (by simp) ?_
    intro Nl s4 S
    refine s_loc S ?_
    intro s5 S
    walk_at "put"
    refine h Nl _ s5 ?_ (S.less (.cons_cons _ (.cons _ (.cons _ (.refl _)))))
    have : nz = [] := by have := hI.length; rw [hv] at this; simpa using this.symm
    rw [show numsOf' nz = [9, 8, 1, 2, 15, 4, 0] by simp [numsOf', this]]
    exact .cons _ _ (.cons _ _ (.cons _ _ (.cons _ _ (.cons _ _ (.cons _ _ (.cons _ _ .nil))))))
  · rw [if_pos (by simp [hv])]
    refine e_slice_up ?_
    repeat (walk_at "1")
    rename St _ _ _ _ _ _ => S
    refine ⟨_, _, _, _, _, S, ?_⟩
    intro sl s3 S
    refine tail_upL S (isList_keeps hsc S.kept) (S.at (.head _)) (by decide) (by walk_at "l") ?_
    intro Nl s4 S
    refine s_loc S ?_
    intro s5 S
    walk_at "put"
    refine h Nl _ s5 ?_ (S.less (.cons_cons _ (.cons _ (.refl _))))
    have : nz ≠ [] := fun q => hv (by have := hI.length; rw [q] at this; simpa using this)
    rw [show numsOf' nz = nz.take 7 by simp [numsOf', this]]
    exact ints_take hI 7
theorem law_1 {sc Nl : Addr} {nvs : List Value} {f : Int} {rest : List Int} {e : Nat} {Q : Flow → Shared → Prop} (S : St g L [(Str.ofString "script", .ref sc), (Str.ofString "numbers", .ref Nl)] [(130, ob), (246, tabObj cs)] o s) (hN : g.get? Nl = some (seqObj "list" nvs.toArray e)) (hI : IntsAre nvs (f :: rest))
    (h : ∀ t s', St g L [(Str.ofString "numbers", .ref Nl), (Str.ofString "first", .int f t)] [(130, ob), (246, tabObj cs)] o s' → Q .next s') :
    wpAny (model prog w) A (exec (lawStmt 1) (lawEnv L)) Q E s := by
  obtain ⟨t, vs, rfl⟩ : ∃ t vs, nvs = .int f t :: vs := by cases hI with | cons n t _ => exact ⟨t, _, rfl⟩
  refine wpAny_Assign_Name (Subscript_ (e_loc S rfl (e_int S ?_)))
  intro _ _ S
  refine i_list (n := 0) (S.kept _ _ hN) rfl (by decide) rfl ?_
  refine s_loc S ?_
  intro s2 S
  walk_at "put"
  exact h t s2 (S.weak rfl)
end

section
variable {w : World} {A : Around} {E : Value → Shared → Prop} {s : Shared} {g g₀ : Heap} {L : Addr} {l : List (Str × Value)} {N : List (Addr × Obj)} {o : OsState} {mg mb : Str → Option Value} {K : Frag} {env : Env} {ob : Obj} {cs : Array Value}
set_option maxHeartbeats 1000000
noncomputable def tableAt : Nat → Str
  | 0 => Str.ofString "-?STrstwx"
  | 1 => Str.ofString "xrw-"
  | _ => Str.ofString "wT-r"
noncomputable def tabNo (f : Int) : Int := (f.fdiv 20).fmod 3
noncomputable def tableOf (f : Int) : Str := tableAt (tabNo f).toNat
noncomputable def fewOf (f : Int) : Int := (f.fdiv 4).fmod 5
theorem fewOf_lt (f : Int) : 0 ≤ fewOf f ∧ fewOf f < 5 := by unfold fewOf; rw [Int.fmod_eq_emod_of_nonneg _ (by decide)]; lia
theorem tabNo_lt (f : Int) : 0 ≤ tabNo f ∧ tabNo f < 3 := by unfold tabNo; rw [Int.fmod_eq_emod_of_nonneg _ (by decide)]; lia
theorem tab_at (n : Nat) (hn : n < 3) (t1 t2 t3 : Tok) : ∃ u, [Value.str (Str.ofString "-?STrstwx") t1, Value.str (Str.ofString "xrw-") t2, Value.str (Str.ofString "wT-r") t3][n]? = some (.str (tableAt n) u) := by
  match n, hn with
  | 0, _ => exact ⟨t1, rfl⟩
  | 1, _ => exact ⟨t2, rfl⟩
  | 2, _ => exact ⟨t3, rfl⟩
  | n + 3, h => lia
theorem unpack2 {T : Addr} {a b : Value} {e : Nat} {Q : List Value → Shared → Prop} (hh : A.handled = none) (S : St g L l N o s) (ho : s.heap.get? T = some (seqObj "tuple" [a, b].toArray e)) (h : ∀ s', St g L l N o s' → Q [a, b] s') :
    wpAny (model prog w) A (unpackItems (.ref T) 2 none) Q E s := by
  refine unpackItems_tuple (items := #[a, b]) hh ⟨_, ho, rfl, _, rfl⟩ fun h' he => ?_
  exact h _ (S.grown (s' := { s with heap := h' }) (fun b ob q => he b ob (Nat.ne_of_lt (Heap.lt_size q)) q) rfl rfl)
theorem law_2 {Nl : Addr} {f : Int} {tf : Tok} {Q : Flow → Shared → Prop} (hh : A.handled = none) (S : St g L [(Str.ofString "numbers", .ref Nl), (Str.ofString "first", .int f tf)] [(130, ob), (246, tabObj cs)] o s)
    (h : ∀ t u s', St g L [(Str.ofString "numbers", .ref Nl), (Str.ofString "first", .int f tf), (Str.ofString "table", .str (tableOf f) u), (Str.ofString "few", .int (fewOf f) t)] [(130, ob), (246, tabObj cs)] o s' → Q .next s') :
    wpAny (model prog w) A (exec (lawStmt 2) (lawEnv L)) Q E s := by
  refine Assign_Tuple_swapped (names := [Str.ofString "few", Str.ofString "table"]) ?_
  refine e_tup (spliced_more ?_)
  refine wpAny_BinOp (wpAny_BinOp (e_loc S rfl (e_int S ?_)))
  intro _ _ S
  refine b_fdiv S (by decide) (by decide) ?_
  intro _ _ S
  refine e_int S ?_
  intro _ _ S
  refine b_mod S (by decide) ?_
  intro tw _ S
  refine spliced_more (Subscript_ (e_lst (spliced_more (e_str S ?_))))
  intro t1 _ S
  refine spliced_more (e_str S ?_)
  intro t2 _ S
  refine spliced_more (e_str S ?_)
  intro t3 _ S
  refine spliced_none (Made.go S (by show 3 ≤ 1000; decide) ?_)
  intro D _ S _ _
  refine wpAny_BinOp (wpAny_BinOp (e_loc S rfl (e_int S ?_)))
  intro _ _ S
  refine b_fdiv S (by decide) (by decide) ?_
  intro _ _ S
  refine e_int S ?_
  intro _ _ S
  refine b_mod S (by decide) ?_
  intro _ _ S
  have hb := tabNo_lt f
  obtain ⟨u, hu⟩ := tab_at (tabNo f).toNat (by walk_at "l") t1 t2 t3
  have hn : (f.fdiv 20).fmod 3 = ((tabNo f).toNat : Int) := by show tabNo f = _; lia
  have hn2 : (tabNo f).toNat < 2 ^ 63 := by walk_at "l"
  refine i_list (n := (tabNo f).toNat) (S.at (.head _)) hn hn2 hu ?_
  rw [show tableAt (tabNo f).toNat = tableOf f from rfl, show (f.fdiv 4).fmod 5 = fewOf f from rfl]
  generalize tableOf f = tb at h ⊢
  generalize fewOf f = fw at h ⊢
  refine spliced_none (Made.go S (by show 2 ≤ 1000; decide) ?_)
  intro T s8 S _ _
  show wpAny _ _ (unpackItems (.ref T) 2 none) _ _ _
  refine unpack2 hh S (S.at (.head _)) ?_
  intro s9 S
  show wpAny _ _ (assignInOrder [bindName (lawEnv L) (Str.ofString "table"), bindName (lawEnv L) (Str.ofString "few")] [.str tb u, .int fw _]) _ _ _
  refine assignInOrder_cons (bindName_ (s_loc S ?_))
  intro s2 S
  refine assignInOrder_cons (bindName_ (s_loc S ?_))
  intro s3 S
  refine assignInOrder_nil ?_
  walk_at "put"
  exact h _ _ s3 (S.less (.cons _ (.cons _ (.refl _))))
noncomputable def headPs : List (Str × Str) := [(Str.ofString "", Str.ofString "x"), (Str.ofString "", Str.ofString ""), (Str.ofString " ", Str.ofString "r")]
theorem law_3 {Nl : Addr} {f : Int} {tf t u : Tok} {tb : Str} {fw : Int} {Q : Flow → Shared → Prop} (S : St g L [(Str.ofString "numbers", .ref Nl), (Str.ofString "first", .int f tf), (Str.ofString "table", .str tb u), (Str.ofString "few", .int fw t)] [(130, ob), (246, tabObj cs)] o s)
    (h : ∀ G H hs s', Keeps g G → G.get? H = some (seqObj "list" hs.toArray 0) → Pcs G hs headPs → St G L [(Str.ofString "numbers", .ref Nl), (Str.ofString "first", .int f tf), (Str.ofString "table", .str tb u), (Str.ofString "few", .int fw t), (Str.ofString "head", .ref H)] [(130, ob), (246, tabObj cs)] o s' → Q .next s') :
    wpAny (model prog w) A (exec (lawStmt 3) (lawEnv L)) Q E s := by
  refine wpAny_Assign_Name ?_
  refine e_lst (spliced_more ?_)
  refine e_tupSS S ?_
  intro T1 a1 b1 _ S
  refine spliced_more (e_tupSS S ?_)
  intro T2 a2 b2 _ S
  refine spliced_more (e_tupSS S ?_)
  intro T3 a3 b3 _ S
  refine spliced_none (Made.go S (by show 3 ≤ 1000; decide) ?_)
  intro D _ S _ _
  refine s_loc S ?_
  intro s5 S
  walk_at "put"
  obtain ⟨G, kg, kg2, _, S⟩ := St.rebaseN (N₁ := [_, _, _, _]) (N₂ := [_, _]) S
  refine h G D [.ref T1, .ref T2, .ref T3] s5 kg (kg2 _ (.head _)) ⟨rfl, fun i v p hv hp => ?_⟩ S
  match i, hv, hp with
  | 0, hv, hp =>
    simp only [headPs, List.getElem?_cons_zero, Option.some.injEq] at hv hp
    subst hv hp
    exact ⟨T1, 0, a1, b1, rfl, kg2 _ (.tail _ (.tail _ (.tail _ (.head _))))⟩
  | 1, hv, hp =>
    simp only [headPs, List.getElem?_cons_zero, List.getElem?_cons_succ, Option.some.injEq] at hv hp
    subst hv hp
    exact ⟨T2, 0, a2, b2, rfl, kg2 _ (.tail _ (.tail _ (.head _)))⟩
  | 2, hv, hp =>
    simp only [headPs, List.getElem?_cons_zero, List.getElem?_cons_succ, Option.some.injEq] at hv hp
    subst hv hp
    exact ⟨T3, 0, a3, b3, rfl, kg2 _ (.tail _ (.head _))⟩
  | i + 3, hv, hp => simp at hv
end

section
variable {w : World} {A : Around} {E : Value → Shared → Prop} {s : Shared} {g g₀ : Heap} {L : Addr} {l : List (Str × Value)} {N : List (Addr × Obj)} {o : OsState} {mg mb : Str → Option Value} {K : Frag} {env : Env} {ob : Obj} {cs : Array Value}
set_option maxHeartbeats 1000000
theorem filemode_write (G : Gv K mg mb g) : WriteOk w g 218 := ⟨⟨_, G.f218⟩, fun m _ _ _ _ _ h1 h2 h3 h4 h5 h6 => filemode_ok G h5 h2 h3 h4 fun u s' hl => by rw [fmode_listing h1]; exact h6 u s' hl⟩
theorem take_map_succ {α β : Type} (F : α → β) (l : List α) (k : Nat) (x : α) (h : l[k]? = some x) : (l.take (k + 1)).map F = (l.take k).map F ++ [F x] := by
  rw [List.take_add_one, h]; simp
theorem Pc.base' {G : Heap} {v : Value} {p : Str × Str} (h : Pc s.heap v p) (hn : ∀ T, v = .ref T → T ≠ L ∧ T ∉ N.map (·.1)) (kall : ∀ b ob, s.heap.get? b = some ob → b ≠ L → b ∉ N.map (·.1) → G.get? b = some ob) : Pc G v p := by
  obtain ⟨T, e, ta, tb, rfl, o⟩ := h
  exact ⟨T, e, ta, tb, rfl, kall _ _ o (hn T rfl).1 (hn T rfl).2⟩
theorem St.freshN (S : St g L l N o s) {a : Addr} (h : s.heap.get? a = none) : a ≠ L ∧ a ∉ N.map (·.1) := ⟨(S.fresh h).1, fun hm => by
  obtain ⟨p, hp, he⟩ := List.mem_map.mp hm
  have := S.at (a := p.1) (ob := p.2) hp
  rw [he, h] at this; cases this⟩
theorem law_4 {Nl H : Addr} {nvs hs : List Value} {e eh : Nat} {f : Int} {rest : List Int} {tf t u : Tok} {tb : Str} {fw : Int} {Q : Flow → Shared → Prop} (G : Gx K mg mb g) (hh : A.handled = none) (hd : A.depth + 60 < recursionLimit)
    (hN : g.get? Nl = some (seqObj "list" nvs.toArray e)) (hI : IntsAre nvs (f :: rest)) (h7 : nvs.length ≤ 7) (hH : g.get? H = some (seqObj "list" hs.toArray eh)) (hp : Pcs g hs headPs)
    (S : St g L [(Str.ofString "numbers", .ref Nl), (Str.ofString "first", .int f tf), (Str.ofString "table", .str tb u), (Str.ofString "few", .int fw t), (Str.ofString "head", .ref H)] [(130, ob), (246, tabObj cs)] o s)
    (h : ∀ G' P qs s', Keeps g G' → G'.get? P = some (seqObj "list" qs.toArray 0) → Pcs G' qs (headPs ++ rest.map madeOf) → St G' L [(Str.ofString "numbers", .ref Nl), (Str.ofString "first", .int f tf), (Str.ofString "table", .str tb u), (Str.ofString "few", .int fw t), (Str.ofString "head", .ref H), (Str.ofString "pieces", .ref P)] [(130, ob), (246, tabObj cs)] o s' → Q .next s') :
    wpAny (model prog w) A (exec (lawStmt 4) (lawEnv L)) Q E s := by
  refine wpAny_Assign_Name ?_
  refine wpAny_BinOp ?_
  refine e_loc S rfl ?_
  refine w_comp (cl := []) ?_
  refine Subscript_ ?_
  refine e_loc S rfl ?_
  refine e_slice_from ?_
  refine e_int S ?_
  intro t1 s1 S
  refine ⟨_, _, _, _, _, S, ?_⟩
  intro sl s2 S
  refine tail_from (m := 1) S (S.kept _ _ hN) (S.at (.head _)) (by walk_at "l") ?_
  intro M s3 S
  obtain ⟨G1, kg1, kg1', _, S⟩ := St.rebaseN (N₁ := [_, _]) (N₂ := [_, _]) S
  have hM := kg1' _ (.head _)
  have hI2 := ints_drop hI 1
  rw [List.drop_succ_cons, List.drop_zero] at hI2
  have hml : (nvs.drop 1).length ≤ 7 := by simp; lia
  have hrl : (nvs.drop 1).length = rest.length := hI2.length
  generalize nvs.drop 1 = mvs at hM hI2 hml hrl
  refine i_lst (xs := mvs) S (S.kept _ _ hM) ?_
  intro it s4 S
  refine ⟨G1, L, _, _, o, loops_list hh S ⟨_, _, hM, rfl⟩ (fun k G ys N => Pcs G ys ((rest.take k).map madeOf) ∧ N = [(130, ob), (246, tabObj cs)]) (fun _ _ => ⟨⟨rfl, by simp⟩, rfl⟩) ?_ ?_⟩
  · intro k D C G3 ys e1 N s9 v hv kG hI₁ S9 P₁ hP₁
    obtain ⟨hJ, rfl⟩ := hI₁
    obtain ⟨n, tn, hn1, rfl⟩ := intsAre_getElem hI2 k _ hv
    refine wpAny_assign_Name (s_loc S9 ?_)
    intro s10 S10
    walk_at "put"
    show wpAny _ _ (eval _ _) _ _ _
    have GG := G.keeps (kg1.trans kG)
    refine Call_ (e_glob S10 GG.gs GG.n232 ?_)
    refine c_fn GG.f232 ?_
    refine args_cons (e_loc S10 rfl ?_)
    refine args_cons (e_glob S10 GG.gs GG.n225 ?_)
    repeat (walk_at "1")
    refine ⟨⟨_, _, _, _, S10⟩, ?_⟩
    refine made_ok GG.toGv S10.kept hh (by walk_at "l") S10.gn (listing_write GG.toGv) ?_
    intro T s11 hl hT0 hpc
    have fT := S10.freshN hT0
    have S11 := S10.on hl
    obtain ⟨G4, kg4, kall, _, S11⟩ := S11.rebaseAll
    have hpc4 := hpc.base' (fun T' q => by cases q; exact fT) kall
    refine ap_list S11 0 rfl (by have := hJ.1; simp at this; lia) ?_
    intro s12 S12
    refine hP₁ _ ⟨G4, _, _, _, _, kg4, ⟨?_, rfl⟩, S12⟩
    rw [take_map_succ _ _ _ _ hn1]
    exact (hJ.keeps kg4).snoc hpc4
  · rintro D G3 ys e1 N G4 s9 ⟨hJ, rfl⟩ kg4 hov S
    rw [hrl, List.take_length] at hJ
    have hJ4 := hov.pcs hJ
    have h3 : hs.length = 3 := hp.1
    refine b_addl S (S.kept _ _ (kg4 _ _ (kg1 _ _ hH))) (S.at (.head _)) (by have := hJ.1; simp at this; lia) ?_
    intro P s10 S
    refine s_loc S ?_
    intro s11 S
    walk_at "put"
    obtain ⟨G5, kg5, kg5', _, S⟩ := St.rebaseN (N₁ := [_, _, _]) (N₂ := [_, _]) S
    exact h G5 P _ s11 (kg1.trans (kg4.trans kg5)) (kg5' _ (.head _)) ((hp.keeps (kg1.trans (kg4.trans kg5))).append (hJ4.keeps kg5)) S
end

section
variable {w : World} {A : Around} {E : Value → Shared → Prop} {s : Shared} {g g₀ : Heap} {L : Addr} {l : List (Str × Value)} {N : List (Addr × Obj)} {o : OsState} {mg mb : Str → Option Value} {K : Frag} {env : Env} {ob : Obj} {cs : Array Value}
set_option maxHeartbeats 1000000
theorem law_5 {Nl H P : Addr} {nvs : List Value} {e : Nat} {f : Int} {ns : List Int} {tf t u : Tok} {tb : Str} {fw : Int} {Q : Flow → Shared → Prop} (G : Gx K mg mb g) (hh : A.handled = none) (hd : A.depth + 60 < recursionLimit)
    (hN : g.get? Nl = some (seqObj "list" nvs.toArray e)) (hI : IntsAre nvs ns) (h7 : nvs.length ≤ 7)
    (S : St g L [(Str.ofString "numbers", .ref Nl), (Str.ofString "first", .int f tf), (Str.ofString "table", .str tb u), (Str.ofString "few", .int fw t), (Str.ofString "head", .ref H), (Str.ofString "pieces", .ref P)] [(130, ob), (246, tabObj cs)] o s)
    (h : ∀ s', St g L [(Str.ofString "numbers", .ref Nl), (Str.ofString "first", .int f tf), (Str.ofString "table", .str tb u), (Str.ofString "few", .int fw t), (Str.ofString "head", .ref H), (Str.ofString "pieces", .ref P)] [(130, ob), (246, tabObj cs)] o s' → Q .next s') :
    wpAny (model prog w) A (exec (lawStmt 5) (lawEnv L)) Q E s := by
  refine w_forE (fun s' => St g L [(Str.ofString "numbers", .ref Nl), (Str.ofString "first", .int f tf), (Str.ofString "table", .str tb u), (Str.ofString "few", .int fw t), (Str.ofString "head", .ref H), (Str.ofString "pieces", .ref P)] [(130, ob), (246, tabObj cs)] o s') ?_ h
  refine e_loc S rfl ?_
  refine i_lst S (S.kept _ _ hN) ?_
  intro it s2 S
  refine ⟨fun m s' => ∃ j, m = nvs.length - j ∧ j ≤ nvs.length ∧ St g L [(Str.ofString "numbers", .ref Nl), (Str.ofString "first", .int f tf), (Str.ofString "table", .str tb u), (Str.ofString "few", .int fw t), (Str.ofString "head", .ref H), (Str.ofString "pieces", .ref P)] [(it, liObj Nl j), (130, ob), (246, tabObj cs)] o s', _, ⟨0, rfl, by walk_at "l", S⟩, ?_⟩
  clear S
  intro m s3 hI₁ Q₁ X₁ hQ₁ hX₁
  obtain ⟨j, rfl, hj, S⟩ := hI₁
  by_cases hjn : j = nvs.length
  · subst hjn
    refine n_li_end hh S 0 rfl ⟨_, _, S.kept _ _ hN, rfl⟩ (Nat.le_refl _) ?_
    intro s5 S
    exact wpAny_execs_nil ⟨rfl, hX₁ _ (S.less (.cons _ (.refl _)))⟩
  · have hjl : j < nvs.length := by walk_at "l"
    obtain ⟨n, tn, hn1, hn2⟩ := intsAre_getElem hI j _ (List.getElem?_eq_getElem hjl)
    refine n_li S 0 rfl ⟨_, _, S.kept _ _ hN, rfl⟩ (List.getElem?_eq_getElem hjl) ?_
    intro s5 S
    refine go_plain (S.at (.head _)) rfl rfl ?_
    rw [hn2]
    refine wpAny_assign_Name (s_loc S ?_)
    intro s6 S
    walk_at "put"
    dsimp only [List.set_cons_zero] at S
    refine x_cons ?_
    repeat (walk_at "e")
    rename St _ _ _ _ _ _ => S
    rw [show (33261 + n.fdiv 40 * 4099).fmod 65536 = modeOf n from rfl] at S
    refine x_cons (wpAny_If (wpAny_isTrue_Compare1 ?_))
    refine Call_ (e_glob S G.gs G.n218 ?_)
    refine c_fn G.f218 ?_
    refine args_cons (e_loc S rfl ?_)
    repeat (walk_at "1")
    refine ⟨⟨_, _, _, _, S⟩, ?_⟩
    refine filemode_ok G.toGv S.kept hh (by walk_at "l") S.gn ?_
    intro u1 s7 hl1
    have S := S.on hl1
    refine Call_ (e_glob S G.gs G.n225 ?_)
    refine c_fn G.f225 ?_
    refine args_cons (e_loc S rfl ?_)
    repeat (walk_at "1")
    refine ⟨⟨_, _, _, _, S⟩, ?_⟩
    refine listing_ok G.toGv S.kept hh (by walk_at "l") S.gn (modeOf_lt n) ?_
    intro u2 s8 hl2
    have S := S.on hl2
    rw [fmode_listing (modeOf_lt n)]
    refine PyProof.Rows.ne_str ?_
    have e1 : (listing (modeOf n) != listing (modeOf n)) = false := by simp
    rw [e1]
    refine wpAny_truthy_bool ?_
    refine if_ff ?_
    repeat (walk_at "1")
    exact hQ₁ _ _ ⟨nvs.length - (j + 1), by walk_at "l", j + 1, rfl, by walk_at "l", S.weak rfl⟩
end

section
variable {w : World} {A : Around} {E : Value → Shared → Prop} {s : Shared} {g g₀ : Heap} {L : Addr} {l : List (Str × Value)} {N : List (Addr × Obj)} {o : OsState} {mg mb : Str → Option Value} {K : Frag} {env : Env} {ob : Obj} {cs : Array Value}
set_option maxHeartbeats 1000000
noncomputable def lenOf (p : Str × Str) : Int := (p.1.length : Int) + (p.2.length : Int)
theorem sizeOf_map (ps : List (Str × Str)) : (ps.map lenOf).sum = sizeOf' ps := rfl
theorem c_lenstr {a : Str} {ta : Tok} {Q : Value → Shared → Prop} (S : St g L l N o s) (hz : a.length < 1000) (h : ∀ t s', St g L l N o s' → Q (.int a.length t) s') : wpAny (model prog w) A (call (.builtin "len") [.str a ta]) Q E s :=
  PyProof.Rows.len_str (by walk_at "l") (h _ _ S.tok)
theorem St.sub {g' : Heap} (S : St g L l N o s) (k : Keeps g' g) : St g' L l N o s := by
  have no : ∀ b, g.get? b = none → g'.get? b = none := fun b hb => by
    cases e : g'.get? b with
    | none => rfl
    | some ob => rw [k _ _ e] at hb; cases hb
  obtain ⟨m, F, hl⟩ := S.fr
  exact S.base (k.trans S.kept) (no _ F.nl) fun p hp => no _ (S.nw p hp).2.2
theorem law_6 {Nl H P : Addr} {qs : List Value} {e : Nat} {f : Int} {ps : List (Str × Str)} {tf t u : Tok} {tb : Str} {fw : Int} {Q : Flow → Shared → Prop} (G : Gx K mg mb g) (hh : A.handled = none) (hd : A.depth + 60 < recursionLimit)
    (hP : g.get? P = some (seqObj "list" qs.toArray e)) (hp : Pcs g qs ps) (hz : qs.length < 64) (hs : ∀ p ∈ ps, p.1.length < 1000 ∧ p.2.length < 1000)
    (S : St g L [(Str.ofString "numbers", .ref Nl), (Str.ofString "first", .int f tf), (Str.ofString "table", .str tb u), (Str.ofString "few", .int fw t), (Str.ofString "head", .ref H), (Str.ofString "pieces", .ref P)] [(130, ob), (246, tabObj cs)] o s)
    (h : ∀ tz s', St g L [(Str.ofString "numbers", .ref Nl), (Str.ofString "first", .int f tf), (Str.ofString "table", .str tb u), (Str.ofString "few", .int fw t), (Str.ofString "head", .ref H), (Str.ofString "pieces", .ref P), (Str.ofString "size", .int (f.fmod 4 + sizeOf' ps) tz)] [(130, ob), (246, tabObj cs)] o s' → Q .next s') :
    wpAny (model prog w) A (exec (lawStmt 6) (lawEnv L)) Q E s := by
  refine wpAny_Assign_Name ?_
  refine wpAny_BinOp ?_
  refine wpAny_BinOp ?_
  refine e_loc S rfl ?_
  refine e_int S ?_
  intro _ _ S
  refine b_mod S (by decide) ?_
  intro t4 s1 S
  refine Call_ (e_blt S G.gs G.bs G.sum0 G.sum1 ?_)
  refine callWith_method1 ?_
  refine args_cons ?_
  refine w_comp (cl := []) ?_
  refine e_loc S rfl ?_
  refine i_lst S (S.kept _ _ hP) ?_
  intro it s4 S
  refine ⟨g, L, _, _, o, loops_list hh S ⟨_, _, hP, rfl⟩ (fun k G ys N => IntsAre ys ((ps.take k).map lenOf) ∧ ys.length = k ∧ N = [(130, ob), (246, tabObj cs)]) (fun _ _ => ⟨by simp; exact .nil, rfl, rfl⟩) ?_ ?_⟩
  · intro k D C G3 ys e1 N s9 v hv kG hI₁ S9 P₁ hP₁
    obtain ⟨hJ, hyk, rfl⟩ := hI₁
    have hkq := (List.getElem?_eq_some_iff.mp hv).1
    have hkp : k < ps.length := by rw [← hp.1]; exact hkq
    obtain ⟨T, eT, ta, tb, rfl, hTo⟩ := hp.2 k v _ hv (List.getElem?_eq_getElem hkp)
    have hsz := hs _ (List.getElem_mem hkp)
    have GG := G.keeps kG
    refine as_tup (items := [_, _]) hh S9 (S9.kept _ _ (kG _ _ hTo)) ?_
    intro s6 S
    refine assignInOrder_cons (wpAny_assign_Name (s_loc S ?_))
    intro s7 S
    refine assignInOrder_cons (wpAny_assign_Name (s_loc S ?_))
    intro s8 S
    refine assignInOrder_nil ?_
    walk_at "put"
    show wpAny _ _ (eval _ _) _ _ _
    refine wpAny_BinOp ?_
    refine Call_ (e_blt S GG.gs GG.bs GG.len0 GG.len1 ?_)
    refine callWith_method1 ?_
    refine args_cons (e_loc S rfl ?_)
    repeat (walk_at "1")
    refine c_lenstr S (by walk_at "l") ?_
    intro _ _ S
    refine Call_ (e_blt S GG.gs GG.bs GG.len0 GG.len1 ?_)
    refine callWith_method1 ?_
    refine args_cons (e_loc S rfl ?_)
    repeat (walk_at "1")
    refine c_lenstr S (by walk_at "l") ?_
    intro _ _ S
    refine b_add S ?_
    intro t5 s10 S
    refine ap_list S 0 rfl (by walk_at "l") ?_
    intro s12 S12
    refine hP₁ _ ⟨G3, _, _, _, _, .refl _, ⟨?_, by simp [hyk], rfl⟩, S12⟩
    rw [take_map_succ _ _ _ _ (List.getElem?_eq_getElem hkp)]
    exact ints_snoc hJ _ _
  · rintro D G3 ys e1 N G4 s9 ⟨hJ, _, rfl⟩ kg4 hov S
    rw [hp.1, List.take_length] at hJ
    repeat (walk_at "1")
    refine c_suml hh S (S.at (.head _)) hJ ?_
    intro t6 s11 S
    refine b_add S ?_
    intro t7 s12 S
    refine s_loc S ?_
    intro s13 S
    walk_at "put"
    rw [sizeOf_map] at S
    exact h _ _ ((S.less (.cons _ (.cons _ (.refl _)))).sub kg4)
end

section
variable {w : World} {A : Around} {E : Value → Shared → Prop} {s : Shared} {g g₀ : Heap} {L : Addr} {l : List (Str × Value)} {N : List (Addr × Obj)} {o : OsState} {mg mb : Str → Option Value} {K : Frag} {env : Env} {ob : Obj} {cs : Array Value}
set_option maxHeartbeats 1000000
noncomputable def NoTup (ob : Obj) : Prop := ∀ items e, ob ≠ seqObj "tuple" items e
theorem tab_no (ps : Array Value) : NoTup { cls := .none, data := .fields ps } := fun items e q => absurd (congrArg Obj.cls q) (by show ¬ (Value.none = Value.type "tuple"); decide)
theorem tab_notup (hT : Tab ob) : ∀ p ∈ [((130 : Addr), ob), (246, tabObj cs)], NoTup p.2 := fun p hp => by
  simp at hp
  rcases hp with rfl | rfl
  · obtain ⟨ps, rfl, _⟩ := hT; exact tab_no ps
  · exact tab_no cs
theorem Pcs.based {G : Heap} {xs : List Value} {ps : List (Str × Str)} (h : Pcs s.heap xs ps) (S : St g L l N o s) (hN : ∀ p ∈ N, NoTup p.2) (kall : ∀ b ob, s.heap.get? b = some ob → b ≠ L → b ∉ N.map (·.1) → G.get? b = some ob) : Pcs G xs ps := by
  refine ⟨h.1, fun i v p hv hp => ?_⟩
  obtain ⟨T, eT, ta, tb, h1, h2⟩ := h.2 i v p hv hp
  refine ⟨T, eT, ta, tb, h1, kall _ _ h2 (fun q => ?_) (fun hm => ?_)⟩
  · obtain ⟨m, F, _⟩ := S.fr
    obtain ⟨oL, es, ep, e1, e2, _⟩ := F.ns
    rw [q, e1] at h2
    cases h2
    cases e2
  · obtain ⟨q, hq, he⟩ := List.mem_map.mp hm
    have := S.at (a := q.1) (ob := q.2) hq
    rw [he, h2] at this
    exact hN q hq _ _ (Option.some.inj this).symm
theorem law_7 {Nl H P : Addr} {nvs hs : List Value} {e eh : Nat} {f z : Int} {rest : List Int} {tf t u tz : Tok} {tb : Str} {fw : Int} {Q : Flow → Shared → Prop} (G : Gx K mg mb g) (hh : A.handled = none) (hd : A.depth + 60 < recursionLimit) (hT : Tab ob)
    (hN : g.get? Nl = some (seqObj "list" nvs.toArray e)) (hI : IntsAre nvs (f :: rest)) (h7 : nvs.length ≤ 7) (hH : g.get? H = some (seqObj "list" hs.toArray eh)) (hp : Pcs g hs headPs)
    (S : St g L [(Str.ofString "numbers", .ref Nl), (Str.ofString "first", .int f tf), (Str.ofString "table", .str tb u), (Str.ofString "few", .int fw t), (Str.ofString "head", .ref H), (Str.ofString "pieces", .ref P), (Str.ofString "size", .int z tz)] [(130, ob), (246, tabObj cs)] o s)
    (h : ∀ G' x dx n ta td xs s', Keeps g G' → g.get? x = none → g.get? dx = none → x ≠ L → dx ≠ L → x ≠ dx → G'.get? x = some (accObj xs n dx) → G'.get? dx = some (dOb w (.int (f.fmod 4) ta) td) → Pcs G' xs (headPs ++ rest.map madeOf) →
      St G' L [(Str.ofString "first", .int f tf), (Str.ofString "table", .str tb u), (Str.ofString "few", .int fw t), (Str.ofString "pieces", .ref P), (Str.ofString "size", .int z tz), (Str.ofString "row", .ref x)] [(130, ob), (246, tabObj cs)] o s' → Q .next s') :
    wpAny (model prog w) A (exec (lawStmt 7) (lawEnv L)) Q E s := by
  refine wpAny_Assign_Name ?_
  refine Call_ (e_glob S G.gs G.n239 ?_)
  refine c_fn G.f239 ?_
  refine args_cons ?_
  refine wpAny_BinOp ?_
  refine e_loc S rfl ?_
  refine e_int S ?_
  intro _ _ S
  refine b_mod S (by decide) ?_
  intro t4 s1 S
  refine args_cons ?_
  refine wpAny_BinOp ?_
  refine e_loc S rfl ?_
  refine w_comp (cl := []) ?_
  refine Subscript_ ?_
  refine e_loc S rfl ?_
  refine e_slice_from ?_
  refine e_int S ?_
  intro t1 s1 S
  refine ⟨_, _, _, _, _, S, ?_⟩
  intro sl s2 S
  refine tail_from (m := 1) S (S.kept _ _ hN) (S.at (.head _)) (by walk_at "l") ?_
  intro M s3 S
  obtain ⟨G1, kg1, kg1', _, S⟩ := St.rebaseN (N₁ := [_, _]) (N₂ := [_, _]) S
  have hM := kg1' _ (.head _)
  have hI2 := ints_drop hI 1
  rw [List.drop_succ_cons, List.drop_zero] at hI2
  have hml : (nvs.drop 1).length ≤ 7 := by simp; lia
  have hrl : (nvs.drop 1).length = rest.length := hI2.length
  generalize nvs.drop 1 = mvs at hM hI2 hml hrl
  refine i_lst (xs := mvs) S (S.kept _ _ hM) ?_
  intro it s4 S
  refine ⟨G1, L, _, _, o, loops_list hh S ⟨_, _, hM, rfl⟩ (fun k G ys N => Pcs G ys ((rest.take k).map madeOf) ∧ N = [(130, ob), (246, tabObj cs)]) (fun _ _ => ⟨⟨rfl, by simp⟩, rfl⟩) ?_ ?_⟩
  · intro k D C G3 ys e1 N s9 v hv kG hI₁ S9 P₁ hP₁
    obtain ⟨hJ, rfl⟩ := hI₁
    obtain ⟨n, tn, hn1, rfl⟩ := intsAre_getElem hI2 k _ hv
    refine wpAny_assign_Name (s_loc S9 ?_)
    intro s10 S10
    walk_at "put"
    show wpAny _ _ (eval _ _) _ _ _
    have GG := G.keeps (kg1.trans kG)
    refine Call_ (e_glob S10 GG.gs GG.n232 ?_)
    refine c_fn GG.f232 ?_
    refine args_cons (e_loc S10 rfl ?_)
    refine args_cons (e_glob S10 GG.gs GG.n218 ?_)
    repeat (walk_at "1")
    refine ⟨⟨_, _, _, _, S10⟩, ?_⟩
    refine made_ok GG.toGv S10.kept hh (by walk_at "l") S10.gn (filemode_write GG.toGv) ?_
    intro T s11 hl hT0 hpc
    have fT := S10.freshN hT0
    have S11 := S10.on hl
    obtain ⟨G4, kg4, kall, _, S11⟩ := S11.rebaseAll
    have hpc4 := hpc.base' (fun T' q => by cases q; exact fT) kall
    refine ap_list S11 0 rfl (by have := hJ.1; simp at this; lia) ?_
    intro s12 S12
    refine hP₁ _ ⟨G4, _, _, _, _, kg4, ⟨?_, rfl⟩, S12⟩
    rw [take_map_succ _ _ _ _ hn1]
    exact (hJ.keeps kg4).snoc hpc4
  · rintro D G3 ys e1 N G4 s9 ⟨hJ, rfl⟩ kg4 hov S
    rw [hrl, List.take_length] at hJ
    have hJ4 := hov.pcs hJ
    have h3 : hs.length = 3 := hp.1
    have hyl : ys.length ≤ 7 := by have := hJ.1; simp at this; lia
    refine b_addl S (S.kept _ _ (kg4 _ _ (kg1 _ _ hH))) (S.at (.head _)) (by walk_at "l") ?_
    intro R s10 S
    obtain ⟨G5, kg5, kg5', _, S⟩ := St.rebaseN (N₁ := [_, _, _]) (N₂ := [_, _]) S
    have k5 := kg1.trans (kg4.trans kg5)
    have hR := kg5' _ (.head _)
    have hpR := (hp.keeps k5).append (hJ4.keeps kg5)
    have GG := G.keeps k5
    repeat (walk_at "1")
    refine ⟨⟨_, _, _, _, S.sub k5⟩, ?_⟩
    refine filled_ok GG.toGv S.kept hh (by walk_at "l") S.gn (S.kept _ _ hR) (hpR.keeps S.kept) (by simp; lia) ?_
    intro x dx n td xs s12 hl hx0 hd0 hne hx hdx hpc
    have fx := S.freshN hx0
    have fd := S.freshN hd0
    have gx := (S.fresh hx0).2
    have gd := (S.fresh hd0).2
    have S12 := S.on hl
    obtain ⟨G6, kg6, kall, _, S⟩ := S12.rebaseAll
    have no : ∀ b, G5.get? b = none → g.get? b = none := fun b hb => by
      cases e : g.get? b with
      | none => rfl
      | some ob => rw [k5 _ _ e] at hb; cases hb
    refine s_loc S ?_
    intro s13 S
    walk_at "put"
    refine h G6 x dx n t4 td xs s13 (k5.trans kg6) (no _ gx) (no _ gd) fx.1 fd.1 hne (kall _ _ hx fx.1 fx.2) (kall _ _ hdx fd.1 fd.2) ?_ (S.weak rfl)
    exact hpc.based S12 (tab_notup hT) kall
end

section
variable {w : World} {A : Around} {E : Value → Shared → Prop} {s : Shared} {g g₀ : Heap} {L : Addr} {l : List (Str × Value)} {N : List (Addr × Obj)} {o : OsState} {mg mb : Str → Option Value} {K : Frag} {env : Env} {ob : Obj} {cs : Array Value} {x : Addr} {xs : List Value}
set_option maxHeartbeats 1000000
theorem c_right {ps : List (Str × Str)} {a z : Int} {tz tt : Tok} {table : Str} {P Wl : Addr} {qs wvs : List Value} {eP eW : Nat} {ws : List Int} {Q : Value → Shared → Prop} (G : Gx K mg mb g) (S : St g L l [(130, ob), (246, tabObj cs)] o s)
    (r : Row K g x xs ps a) (hT : Tab ob) (hT2 : Tab2 g placePos placeQual cs) (hh : A.handled = none) (hd : A.depth + 60 < recursionLimit) (hu : A.units + 250 < cLine)
    (hP : g.get? P = some (seqObj "list" qs.toArray eP)) (hq : Pcs g qs ps) (hW : g.get? Wl = some (seqObj "list" wvs.toArray eW)) (hI : IntsAre wvs ws) (hws : ∀ n ∈ ws, -1000 < n ∧ n < 1000) (hwl : ws.length ≤ 10)
    (hz : z = a + sizeOf' ps) (hxs : 2 ≤ xs.length)
    (h : ∀ G' ob' cs' s', Keeps g G' → Tab ob' → Tab2 G' placePos placeQual cs' → St G' L l [(130, ob'), (246, tabObj cs')] o s' → Q (.bool true) s') :
    wpAny (model prog w) A (call (.ref 256) [.ref x, .ref P, .int z tz, .ref Wl, .str table tt]) Q E s := by
  have n130 := S.nw _ (.head _)
  have n246 := S.nw _ (.tail _ (.head _))
  have kh : Keeps g (hideAll s.heap [130, 246]) := S.kept.hide (by intro b hb; simp at hb; rcases hb with rfl | rfl; exact n130.2.2; exact n246.2.2)
  refine right_ok G S.kept n130.2.2 n246.2.2 (r.keeps kh) n130.1 hT n246.1 (hT2.keeps kh) hh hd hu S.gn (kh _ _ hP) (hq.keeps kh) (kh _ _ hW) hI hws hwl hz hxs ?_
  intro ob' cs' s' kb h1 hT' h2 hT2' ho hg
  have S2 : St g L l [(130, ob'), (246, tabObj cs')] o s' := S.next kb (by intro b hb; simp at hb; rcases hb with rfl | rfl; exact n130.2; exact n246.2)
    (fun p hp => by
      simp at hp
      rcases hp with rfl | rfl
      · exact ⟨h1, n130.2⟩
      · exact ⟨h2, n246.2⟩) S.nd (ho.trans S.os) hg
  obtain ⟨G', kg, kall, _, S3⟩ := S2.rebaseAll
  refine h G' ob' cs' s' kg hT' ?_ S3
  exact hT2'.base S2 (by intro p hp; simp at hp; rcases hp with rfl | rfl; exact .inl rfl; exact .inr (.inl rfl)) kall
theorem law_8 {P : Addr} {qs : List Value} {e : Nat} {f a z fw : Int} {ps : List (Str × Str)} {tf t u tz : Tok} {tb : Str} {Q : Flow → Shared → Prop} (G : Gx K mg mb g) (hh : A.handled = none) (hd : A.depth + 60 < recursionLimit) (hu : A.units + 250 < cLine) (hT : Tab ob) (hT2 : Tab2 g placePos placeQual cs)
    (r : Row K g x xs ps a) (hP : g.get? P = some (seqObj "list" qs.toArray e)) (hp : Pcs g qs ps) (hxs : 2 ≤ xs.length) (hz : z = a + sizeOf' ps) (hz1 : 0 ≤ z ∧ z < 1000) (hf : 0 ≤ fw ∧ fw < 1000)
    (S : St g L [(Str.ofString "first", .int f tf), (Str.ofString "table", .str tb u), (Str.ofString "few", .int fw t), (Str.ofString "pieces", .ref P), (Str.ofString "size", .int z tz), (Str.ofString "row", .ref x)] [(130, ob), (246, tabObj cs)] o s)
    (h : ∀ G' ob' cs' s', Keeps g G' → Tab ob' → Tab2 G' placePos placeQual cs' → St G' L [(Str.ofString "first", .int f tf), (Str.ofString "table", .str tb u), (Str.ofString "few", .int fw t), (Str.ofString "pieces", .ref P), (Str.ofString "size", .int z tz), (Str.ofString "row", .ref x)] [(130, ob'), (246, tabObj cs')] o s' → Q .next s') :
    wpAny (model prog w) A (exec (lawStmt 8) (lawEnv L)) Q E s := by
  refine wpAny_If ?_
  refine isTrue_not ?_
  refine isTrue_plain ?_
  refine Call_ (e_glob S G.gs G.n256 ?_)
  refine c_fn G.f256 ?_
  refine args_cons (e_loc S rfl ?_)
  refine args_cons (e_loc S rfl ?_)
  refine args_cons (e_loc S rfl ?_)
  refine args_cons ?_
  refine e_lst (spliced_more ?_)
  refine wpAny_BinOp ?_
  refine e_loc S rfl ?_
  refine e_int S ?_
  intro _ _ S
  refine b_sub S ?_
  intro tm _ S
  refine spliced_more (e_loc S rfl ?_)
  refine spliced_more (e_loc S rfl ?_)
  refine spliced_none (Made.go S (by show 3 ≤ 1000; decide) ?_)
  intro W s2 S _ _
  refine args_cons (e_loc S rfl ?_)
  repeat (walk_at "1")
  refine ⟨⟨_, _, _, _, S⟩, ?_⟩
  obtain ⟨G1, kg1, kg1', _, S⟩ := St.rebaseN (N₁ := [_]) (N₂ := [_, _]) S
  have hW := kg1' _ (.head _)
  refine c_right (wvs := [.int (z - 1) tm, .int z tz, .int fw t]) (ws := [z - 1, z, fw]) (G.keeps kg1) S (r.keeps kg1) hT (hT2.keeps kg1) hh hd hu (kg1 _ _ hP) (hp.keeps kg1) hW (.cons _ _ (.cons _ _ (.cons _ _ .nil))) ?_ (by simp) hz hxs ?_
  · intro n hn
    simp at hn
    rcases hn with rfl | rfl | rfl <;> lia
  · intro G' ob' cs' s' kg hT' hT2' S
    refine wpAny_truthy_bool ?_
    refine if_n (by decide) ?_
    refine wpAny_execs_nil ?_
    exact h G' ob' cs' s' (kg1.trans kg) hT' hT2' S
theorem law_9 {P : Addr} {f z fw : Int} {tf t u tz : Tok} {tb : Str} {Q : Flow → Shared → Prop} (G : Gx K mg mb g) (hh : A.handled = none) (hd : A.depth + 60 < recursionLimit) (hT : Tab ob)
    (S : St g L [(Str.ofString "first", .int f tf), (Str.ofString "table", .str tb u), (Str.ofString "few", .int fw t), (Str.ofString "pieces", .ref P), (Str.ofString "size", .int z tz), (Str.ofString "row", .ref x)] [(130, ob), (246, tabObj cs)] o s)
    (h : ∀ G' y ys s', Keeps g G' → Row K G' y ys [(Str.ofString "", Str.ofString ""), (Str.ofString "", Str.ofString "")] 0 →
      St G' L [(Str.ofString "first", .int f tf), (Str.ofString "table", .str tb u), (Str.ofString "few", .int fw t), (Str.ofString "pieces", .ref P), (Str.ofString "size", .int z tz), (Str.ofString "row", .ref x), (Str.ofString "bare", .ref y)] [(130, ob), (246, tabObj cs)] o s' → Q .next s') :
    wpAny (model prog w) A (exec (lawStmt 9) (lawEnv L)) Q E s := by
  refine wpAny_Assign_Name ?_
  refine Call_ (e_glob S G.gs G.n239 ?_)
  refine c_fn G.f239 ?_
  refine args_cons ?_
  refine e_int S ?_
  intro t0 _ S
  refine args_cons ?_
  refine e_lst (spliced_more ?_)
  refine e_tupSS S ?_
  intro T1 a1 b1 _ S
  refine spliced_more ?_
  refine e_tupSS S ?_
  intro T2 a2 b2 _ S
  refine spliced_none (Made.go S (by show 2 ≤ 1000; decide) ?_)
  intro D s2 S _ _
  obtain ⟨G5, kg5, kg5', _, S⟩ := St.rebaseN (N₁ := [_, _, _]) (N₂ := [_, _]) S
  have hD := kg5' _ (.head _)
  have hpD : Pcs G5 [.ref T1, .ref T2] [(Str.ofString "", Str.ofString ""), (Str.ofString "", Str.ofString "")] :=
    Pcs.snoc (ys := [_]) (ps := [_]) (Pcs.snoc (ys := []) (ps := []) ⟨rfl, by simp⟩ ⟨T1, 0, a1, b1, rfl, kg5' _ (.tail _ (.tail _ (.head _)))⟩) ⟨T2, 0, a2, b2, rfl, kg5' _ (.tail _ (.head _))⟩
  have GG := G.keeps kg5
  repeat (walk_at "1")
  refine ⟨⟨_, _, _, _, S.sub kg5⟩, ?_⟩
  refine filled_ok GG.toGv S.kept hh (by walk_at "l") S.gn (S.kept _ _ hD) (hpD.keeps S.kept) (by show 2 < 64; decide) ?_
  intro y dx n td ys s12 hl hx0 hd0 hne hx hdx hpc
  have fx := S.freshN hx0
  have fd := S.freshN hd0
  have S12 := S.on hl
  obtain ⟨G6, kg6, kall, _, S⟩ := S12.rebaseAll
  refine s_loc S ?_
  intro s13 S
  walk_at "put"
  refine h G6 y ys s13 (kg5.trans kg6) ⟨⟨n, dx, _, t0, ⟨kall _ _ hx fx.1 fx.2, kall _ _ hdx fd.1 fd.2⟩, (GG.keeps kg6).toCl.own w _ _⟩, hpc.based S12 (tab_notup hT) kall, ?_, ?_, by decide⟩ S
  · have := hpc.1; simp at this; lia
  · intro p hp
    simp at hp
    subst hp
    exact ⟨by decide, by decide⟩
theorem law_10 {P y : Addr} {ys : List Value} {f z fw : Int} {tf t u tz : Tok} {tb : Str} {Q : Flow → Shared → Prop} (G : Gx K mg mb g) (hh : A.handled = none) (hd : A.depth + 60 < recursionLimit) (hu : A.units + 250 < cLine) (hT : Tab ob) (hT2 : Tab2 g placePos placeQual cs)
    (r : Row K g y ys [(Str.ofString "", Str.ofString ""), (Str.ofString "", Str.ofString "")] 0) (hf : 0 ≤ fw ∧ fw < 1000)
    (S : St g L [(Str.ofString "first", .int f tf), (Str.ofString "table", .str tb u), (Str.ofString "few", .int fw t), (Str.ofString "pieces", .ref P), (Str.ofString "size", .int z tz), (Str.ofString "row", .ref x), (Str.ofString "bare", .ref y)] [(130, ob), (246, tabObj cs)] o s)
    (h : ∀ G' ob' cs' s', Keeps g G' → Tab ob' → Tab2 G' placePos placeQual cs' → St G' L [(Str.ofString "first", .int f tf), (Str.ofString "table", .str tb u), (Str.ofString "few", .int fw t), (Str.ofString "pieces", .ref P), (Str.ofString "size", .int z tz), (Str.ofString "row", .ref x)] [(130, ob'), (246, tabObj cs')] o s' → Q .next s') :
    wpAny (model prog w) A (exec (lawStmt 10) (lawEnv L)) Q E s := by
  refine wpAny_If ?_
  refine isTrue_not ?_
  refine isTrue_plain ?_
  refine Call_ (e_glob S G.gs G.n256 ?_)
  refine c_fn G.f256 ?_
  refine args_cons (e_loc S rfl ?_)
  refine args_cons ?_
  refine e_lst (spliced_more ?_)
  refine e_tupSS S ?_
  intro T1 a1 b1 _ S
  refine spliced_more ?_
  refine e_tupSS S ?_
  intro T2 a2 b2 _ S
  refine spliced_none (Made.go S (by show 2 ≤ 1000; decide) ?_)
  intro D s2 S _ _
  refine args_cons ?_
  refine e_int S ?_
  intro tzz _ S
  refine args_cons ?_
  refine e_lst (spliced_more ?_)
  refine UnaryOp_ ?_
  refine e_int S ?_
  intro _ _ S
  refine u_neg S ?_
  intro tm _ S
  refine spliced_more ?_
  refine e_int S ?_
  intro tn _ S
  refine spliced_more (e_loc S rfl ?_)
  refine spliced_none (Made.go S (by show 3 ≤ 1000; decide) ?_)
  intro W s2 S _ _
  refine args_cons (e_loc S rfl ?_)
  repeat (walk_at "1")
  refine ⟨⟨_, _, _, _, S⟩, ?_⟩
  obtain ⟨G1, kg1, kg1', _, S⟩ := St.rebaseN (N₁ := [_, _, _, _]) (N₂ := [_, _]) S
  have hW := kg1' _ (.head _)
  have hD := kg1' _ (.tail _ (.head _))
  have hpD : Pcs G1 [.ref T1, .ref T2] [(Str.ofString "", Str.ofString ""), (Str.ofString "", Str.ofString "")] :=
    Pcs.snoc (ys := [_]) (ps := [_]) (Pcs.snoc (ys := []) (ps := []) ⟨rfl, by simp⟩ ⟨T1, 0, a1, b1, rfl, kg1' _ (.tail _ (.tail _ (.tail _ (.head _))))⟩) ⟨T2, 0, a2, b2, rfl, kg1' _ (.tail _ (.tail _ (.head _)))⟩
  refine c_right (qs := [.ref T1, .ref T2]) (wvs := [.int (-1) tm, .int 0 tn, .int fw t]) (ws := [-1, 0, fw]) (G.keeps kg1) S (r.keeps kg1) hT (hT2.keeps kg1) hh hd hu hD hpD hW (.cons _ _ (.cons _ _ (.cons _ _ .nil))) ?_ (by simp) ?_ ?_ ?_
  · intro n hn
    simp at hn
    rcases hn with rfl | rfl | rfl <;> lia
  · decide
  · have := r.pcs.1
    simp at this; lia
  · intro G' ob' cs' s' kg hT' hT2' S
    refine wpAny_truthy_bool ?_
    refine if_n (by decide) ?_
    refine wpAny_execs_nil ?_
    exact h G' ob' cs' s' (kg1.trans kg) hT' hT2' (S.weak rfl)
end

section
variable {w : World} {A : Around} {E : Value → Shared → Prop} {s : Shared} {g g₀ : Heap} {L : Addr} {l : List (Str × Value)} {N : List (Addr × Obj)} {o : OsState} {mg mb : Str → Option Value} {K : Frag} {env : Env} {ob : Obj} {cs : Array Value} {x : Addr} {xs : List Value}
set_option maxHeartbeats 1000000
theorem c_order {ps : List (Str × Str)} {P : Addr} {qs : List Value} {eP : Nat} {b : Bool} {Q : Value → Shared → Prop} (G : Gx K mg mb g) (S : St g L l N o s)
    (hh : A.handled = none) (hd : A.depth + 60 < recursionLimit) (hu : A.units + 250 < cLine) (hP : g.get? P = some (seqObj "list" qs.toArray eP)) (hq : Pcs g qs ps) (hz : qs.length < 64)
    (h : ∀ G' R out e s', Keeps g G' → G'.get? R = some (seqObj "list" out.toArray e) → SortedBy (flp b (psLt ps)) qs out → St G' L l N o s' → Q (.ref R) s') :
    wpAny (model prog w) A (call (.ref 244) [.ref P, .ref P, .bool b]) Q E s := by
  refine order_ok (kl := psLt ps) G.toGv S.kept hh (by walk_at "l") (by walk_at "l") S.gn (S.kept _ _ hP) (S.kept _ _ hP) rfl hz (psLt_wa ps) (keys_pieces (hq.keeps S.kept)) ?_
  intro R out e s' hl hR0 hR hsb
  have fR := S.freshN hR0
  obtain ⟨G', kg, kall, _, S2⟩ := (S.on hl).rebaseAll
  exact h G' R out e s' kg (kall _ _ hR fR.1 fR.2) hsb S2
theorem c_small {ps : List (Str × Str)} {a n : Int} {tn : Tok} {Q : Value → Shared → Prop} (G : Gx K mg mb g) (S : St g L l [(130, ob), (246, tabObj cs)] o s)
    (r : Row K g x xs ps a) (hT : Tab ob) (hh : A.handled = none) (hd : A.depth + 60 < recursionLimit) (hu : A.units + 250 < cLine) (hxs : 2 ≤ xs.length) (hn : n < 1000) (hn2 : -1000 < n)
    (h : ∀ G' rl out e ob' s', Keeps g G' → Tab ob' → G'.get? rl = some (seqObj "list" (out.take n.toNat).toArray e) → SortedBy (psLt ps) xs out → St G' L l [(130, ob'), (246, tabObj cs)] o s' → Q (.ref rl) s') :
    wpAny (model prog w) A (call (.ref 83) [.int n tn, .ref x]) Q E s := by
  have n130 := S.nw _ (.head _)
  have n246 := S.nw _ (.tail _ (.head _))
  have kh : Keeps g (hideAll s.heap [130]) := S.kept.hide (by intro b hb; simp at hb; rw [hb]; exact n130.2.2)
  refine call_ns G.toGw S.kept n130.2.2 (r.keeps kh) n130.1 hT hh (by walk_at "l") (by walk_at "l") S.gn hxs hn hn2 ?_
  intro rl out e ob' s' hsb h0 kb hrl h1 hT' ho hg
  have fR := S.freshN h0
  have S2 : St g L l [(130, ob'), (246, tabObj cs)] o s' := S.next kb (by intro b hb; simp at hb; rw [hb]; exact n130.2)
    (fun p hp => by
      simp at hp
      rcases hp with rfl | rfl
      · exact ⟨h1, n130.2⟩
      · exact ⟨kb _ _ (by simp) n246.1, n246.2⟩) S.nd (ho.trans S.os) hg
  obtain ⟨G', kg, kall, _, S3⟩ := S2.rebaseAll
  exact h G' rl out e ob' s' kg hT' (kall _ _ hrl fR.1 fR.2) hsb S3
theorem c_great {ps : List (Str × Str)} {a n : Int} {tn : Tok} {Q : Value → Shared → Prop} (G : Gx K mg mb g) (S : St g L l [(130, ob), (246, tabObj cs)] o s)
    (r : Row K g x xs ps a) (hT : Tab ob) (hh : A.handled = none) (hd : A.depth + 60 < recursionLimit) (hu : A.units + 250 < cLine) (hxs : 2 ≤ xs.length) (hn : n < 1000) (hn2 : -1000 < n)
    (h : ∀ G' rl out e ob' s', Keeps g G' → Tab ob' → G'.get? rl = some (seqObj "list" (out.take n.toNat).toArray e) → SortedBy (flp true (psLt ps)) xs out → St G' L l [(130, ob'), (246, tabObj cs)] o s' → Q (.ref rl) s') :
    wpAny (model prog w) A (call (.ref 89) [.int n tn, .ref x]) Q E s := by
  have n130 := S.nw _ (.head _)
  have n246 := S.nw _ (.tail _ (.head _))
  have kh : Keeps g (hideAll s.heap [130]) := S.kept.hide (by intro b hb; simp at hb; rw [hb]; exact n130.2.2)
  refine call_nl G.toGw S.kept n130.2.2 (r.keeps kh) n130.1 hT hh (by walk_at "l") (by walk_at "l") S.gn hxs hn hn2 ?_
  intro rl out e ob' s' hsb h0 kb hrl h1 hT' ho hg
  have fR := S.freshN h0
  have S2 : St g L l [(130, ob'), (246, tabObj cs)] o s' := S.next kb (by intro b hb; simp at hb; rw [hb]; exact n130.2)
    (fun p hp => by
      simp at hp
      rcases hp with rfl | rfl
      · exact ⟨h1, n130.2⟩
      · exact ⟨kb _ _ (by simp) n246.1, n246.2⟩) S.nd (ho.trans S.os) hg
  obtain ⟨G', kg, kall, _, S3⟩ := S2.rebaseAll
  exact h G' rl out e ob' s' kg hT' (kall _ _ hrl fR.1 fR.2) hsb S3
theorem law_11 {P : Addr} {qs : List Value} {e : Nat} {f z fw : Int} {ps : List (Str × Str)} {tf t u tz : Tok} {tb : Str} {Q : Flow → Shared → Prop} (G : Gx K mg mb g) (hh : A.handled = none) (hd : A.depth + 60 < recursionLimit) (hu : A.units + 250 < cLine)
    (hP : g.get? P = some (seqObj "list" qs.toArray e)) (hp : Pcs g qs ps) (hz : qs.length < 64)
    (S : St g L [(Str.ofString "first", .int f tf), (Str.ofString "table", .str tb u), (Str.ofString "few", .int fw t), (Str.ofString "pieces", .ref P), (Str.ofString "size", .int z tz), (Str.ofString "row", .ref x)] N o s)
    (h : ∀ G' R out e s', Keeps g G' → G'.get? R = some (seqObj "list" out.toArray e) → SortedBy (psLt ps) qs out →
      St G' L [(Str.ofString "first", .int f tf), (Str.ofString "few", .int fw t), (Str.ofString "pieces", .ref P), (Str.ofString "size", .int z tz), (Str.ofString "row", .ref x), (Str.ofString "least", .ref R)] N o s' → Q .next s') :
    wpAny (model prog w) A (exec (lawStmt 11) (lawEnv L)) Q E s := by
  refine wpAny_Assign_Name ?_
  refine Call_ (e_glob S G.gs G.n244 ?_)
  refine c_fn G.f244 ?_
  refine args_cons (e_loc S rfl ?_)
  refine args_cons (e_loc S rfl ?_)
  refine args_cons ?_
  refine wpAny_Constant_bool ?_
  repeat (walk_at "1")
  refine ⟨⟨_, _, _, _, S⟩, ?_⟩
  refine c_order G S hh hd hu hP hp hz ?_
  intro G' R out eR s' kg hR hsb S
  refine s_loc S ?_
  intro s2 S
  walk_at "put"
  exact h G' R out eR s2 kg hR hsb (S.weak rfl)
theorem law_12 {P R₁ : Addr} {qs : List Value} {e : Nat} {f z fw : Int} {ps : List (Str × Str)} {tf t tz : Tok} {Q : Flow → Shared → Prop} (G : Gx K mg mb g) (hh : A.handled = none) (hd : A.depth + 60 < recursionLimit) (hu : A.units + 250 < cLine)
    (hP : g.get? P = some (seqObj "list" qs.toArray e)) (hp : Pcs g qs ps) (hz : qs.length < 64)
    (S : St g L [(Str.ofString "first", .int f tf), (Str.ofString "few", .int fw t), (Str.ofString "pieces", .ref P), (Str.ofString "size", .int z tz), (Str.ofString "row", .ref x), (Str.ofString "least", .ref R₁)] N o s)
    (h : ∀ G' R out e s', Keeps g G' → G'.get? R = some (seqObj "list" out.toArray e) → SortedBy (flp true (psLt ps)) qs out →
      St G' L [(Str.ofString "first", .int f tf), (Str.ofString "few", .int fw t), (Str.ofString "pieces", .ref P), (Str.ofString "size", .int z tz), (Str.ofString "row", .ref x), (Str.ofString "least", .ref R₁), (Str.ofString "greatest", .ref R)] N o s' → Q .next s') :
    wpAny (model prog w) A (exec (lawStmt 12) (lawEnv L)) Q E s := by
  refine wpAny_Assign_Name ?_
  refine Call_ (e_glob S G.gs G.n244 ?_)
  refine c_fn G.f244 ?_
  refine args_cons (e_loc S rfl ?_)
  refine args_cons (e_loc S rfl ?_)
  refine args_cons ?_
  refine wpAny_Constant_bool ?_
  repeat (walk_at "1")
  refine ⟨⟨_, _, _, _, S⟩, ?_⟩
  refine c_order G S hh hd hu hP hp hz ?_
  intro G' R out eR s' kg hR hsb S
  refine s_loc S ?_
  intro s2 S
  walk_at "put"
  exact h G' R out eR s2 kg hR hsb S
end

section
variable {w : World} {A : Around} {E : Value → Shared → Prop} {s : Shared} {g g₀ : Heap} {L : Addr} {l : List (Str × Value)} {N : List (Addr × Obj)} {o : OsState} {mg mb : Str → Option Value} {K : Frag} {env : Env} {ob : Obj} {cs : Array Value} {x : Addr} {xs : List Value}
set_option maxHeartbeats 1000000
theorem law_13 {P R₁ R₂ : Addr} {qs o1 o2 : List Value} {e1 e2 : Nat} {f a z fw : Int} {ps : List (Str × Str)} {tf t tz : Tok} {Q : Flow → Shared → Prop} (G : Gx K mg mb g) (hh : A.handled = none) (hd : A.depth + 60 < recursionLimit) (hu : A.units + 250 < cLine) (hT : Tab ob)
    (r : Row K g x xs ps a) (hp : Pcs g qs ps) (hxs : 2 ≤ xs.length) (hz1 : 1 ≤ z ∧ z < 1000) (hf : 0 ≤ fw ∧ fw < 1000)
    (hR₁ : g.get? R₁ = some (seqObj "list" o1.toArray e1)) (hs₁ : SortedBy (psLt ps) qs o1) (hR₂ : g.get? R₂ = some (seqObj "list" o2.toArray e2)) (hs₂ : SortedBy (flp true (psLt ps)) qs o2) (hl1 : o1.length ≤ 100) (hl2 : o2.length ≤ 100)
    (S : St g L [(Str.ofString "first", .int f tf), (Str.ofString "few", .int fw t), (Str.ofString "pieces", .ref P), (Str.ofString "size", .int z tz), (Str.ofString "row", .ref x), (Str.ofString "least", .ref R₁), (Str.ofString "greatest", .ref R₂)] [(130, ob), (246, tabObj cs)] o s)
    (h : ∀ G' ob' s', Keeps g G' → Tab ob' → St G' L [(Str.ofString "first", .int f tf), (Str.ofString "few", .int fw t), (Str.ofString "pieces", .ref P), (Str.ofString "size", .int z tz), (Str.ofString "row", .ref x), (Str.ofString "least", .ref R₁), (Str.ofString "greatest", .ref R₂)] [(130, ob'), (246, tabObj cs)] o s' → Q .next s') :
    wpAny (model prog w) A (exec (lawStmt 13) (lawEnv L)) Q E s := by
  have kI := Keeps.refl g
  refine wpAny_If ?_
  refine isTrue_or ?_
  refine wpAny_isTrue_Compare1 ?_
  refine Call_ (e_glob S G.gs G.n83 ?_)
  refine c_fn G.f83 ?_
  refine args_cons ?_
  refine wpAny_BinOp ?_
  refine e_loc S rfl ?_
  refine e_int S ?_
  intro _ _ S
  refine b_sub S ?_
  intro _ _ S
  refine args_cons (e_loc S rfl ?_)
  repeat (walk_at "1")
  refine ⟨⟨_, _, _, _, S⟩, ?_⟩
  refine c_small G S (r.keeps kI) hT hh hd hu hxs (by walk_at "l") (by walk_at "l") ?_
  intro g131 rl out e ob1 s' kg1 hT1 hrl hsb S
  have k1 := Keeps.trans kI kg1
  have G1 := G.keeps kg1
  refine Subscript_ ?_
  refine e_loc S rfl ?_
  refine e_slice_up ?_
  refine wpAny_BinOp ?_
  refine e_loc S rfl ?_
  refine e_int S ?_
  intro _ _ S
  refine b_sub S ?_
  intro _ _ S
  refine ⟨_, _, _, _, _, S, ?_⟩
  intro sl _ S
  refine tail_up S (S.kept _ _ (k1 _ _ hR₁)) (S.at (.head _)) (by walk_at "l") (by walk_at "l") ?_
  intro O2 s17 S
  refine ne_like (by walk_at "l") (S.kept _ _ hrl) (S.at (.head _)) ((Like.sorted (psLt_wa ps) ((r.pcs.keeps k1).keeps S.kept) ((hp.keeps k1).keeps S.kept) hsb hs₁).take _) ?_
  refine wpAny_truthy_bool ?_
  refine if_ff ?_
  have S := S.less (N' := [(130, ob1), (246, tabObj cs)]) (.cons _ (.cons _ (.refl _)))
  clear hrl hsb
  refine isTrue_or ?_
  refine wpAny_isTrue_Compare1 ?_
  refine Call_ (e_glob S G1.gs G1.n83 ?_)
  refine c_fn G1.f83 ?_
  refine args_cons (e_loc S rfl ?_)
  refine args_cons (e_loc S rfl ?_)
  repeat (walk_at "1")
  refine ⟨⟨_, _, _, _, S⟩, ?_⟩
  refine c_small G1 S (r.keeps k1) hT1 hh hd hu hxs (by walk_at "l") (by walk_at "l") ?_
  intro g130 rl out e ob0 s' kg0 hT0 hrl hsb S
  have k0 := Keeps.trans k1 kg0
  have G0 := G1.keeps kg0
  refine Subscript_ ?_
  refine e_loc S rfl ?_
  refine e_slice_up ?_
  refine e_loc S rfl ?_
  refine ⟨_, _, _, _, _, S, ?_⟩
  intro sl _ S
  refine tail_up S (S.kept _ _ (k0 _ _ hR₁)) (S.at (.head _)) (by walk_at "l") (by walk_at "l") ?_
  intro O2 s17 S
  refine ne_like (by walk_at "l") (S.kept _ _ hrl) (S.at (.head _)) ((Like.sorted (psLt_wa ps) ((r.pcs.keeps k0).keeps S.kept) ((hp.keeps k0).keeps S.kept) hsb hs₁).take _) ?_
  refine wpAny_truthy_bool ?_
  refine if_ff ?_
  have S := S.less (N' := [(130, ob0), (246, tabObj cs)]) (.cons _ (.cons _ (.refl _)))
  clear hrl hsb
  refine isTrue_or_nil ?_
  refine if_ff ?_
  refine wpAny_execs_nil ?_
  exact h _ _ _ k0 hT0 S
theorem law_14 {P R₁ R₂ : Addr} {qs o1 o2 : List Value} {e1 e2 : Nat} {f a z fw : Int} {ps : List (Str × Str)} {tf t tz : Tok} {Q : Flow → Shared → Prop} (G : Gx K mg mb g) (hh : A.handled = none) (hd : A.depth + 60 < recursionLimit) (hu : A.units + 250 < cLine) (hT : Tab ob)
    (r : Row K g x xs ps a) (hp : Pcs g qs ps) (hxs : 2 ≤ xs.length) (hz1 : 1 ≤ z ∧ z < 1000) (hf : 0 ≤ fw ∧ fw < 1000)
    (hR₁ : g.get? R₁ = some (seqObj "list" o1.toArray e1)) (hs₁ : SortedBy (psLt ps) qs o1) (hR₂ : g.get? R₂ = some (seqObj "list" o2.toArray e2)) (hs₂ : SortedBy (flp true (psLt ps)) qs o2) (hl1 : o1.length ≤ 100) (hl2 : o2.length ≤ 100)
    (S : St g L [(Str.ofString "first", .int f tf), (Str.ofString "few", .int fw t), (Str.ofString "pieces", .ref P), (Str.ofString "size", .int z tz), (Str.ofString "row", .ref x), (Str.ofString "least", .ref R₁), (Str.ofString "greatest", .ref R₂)] [(130, ob), (246, tabObj cs)] o s)
    (h : ∀ G' ob' s', Keeps g G' → Tab ob' → St G' L [(Str.ofString "first", .int f tf), (Str.ofString "few", .int fw t), (Str.ofString "pieces", .ref P), (Str.ofString "size", .int z tz), (Str.ofString "row", .ref x), (Str.ofString "least", .ref R₁), (Str.ofString "greatest", .ref R₂)] [(130, ob'), (246, tabObj cs)] o s' → Q .next s') :
    wpAny (model prog w) A (exec (lawStmt 14) (lawEnv L)) Q E s := by
  have kI := Keeps.refl g
  refine wpAny_If ?_
  refine isTrue_or ?_
  refine wpAny_isTrue_Compare1 ?_
  refine Call_ (e_glob S G.gs G.n89 ?_)
  refine c_fn G.f89 ?_
  refine args_cons ?_
  refine wpAny_BinOp ?_
  refine e_loc S rfl ?_
  refine e_int S ?_
  intro _ _ S
  refine b_sub S ?_
  intro _ _ S
  refine args_cons (e_loc S rfl ?_)
  repeat (walk_at "1")
  refine ⟨⟨_, _, _, _, S⟩, ?_⟩
  refine c_great G S (r.keeps kI) hT hh hd hu hxs (by walk_at "l") (by walk_at "l") ?_
  intro g141 rl out e ob1 s' kg1 hT1 hrl hsb S
  have k1 := Keeps.trans kI kg1
  have G1 := G.keeps kg1
  refine Subscript_ ?_
  refine e_loc S rfl ?_
  refine e_slice_up ?_
  refine wpAny_BinOp ?_
  refine e_loc S rfl ?_
  refine e_int S ?_
  intro _ _ S
  refine b_sub S ?_
  intro _ _ S
  refine ⟨_, _, _, _, _, S, ?_⟩
  intro sl _ S
  refine tail_up S (S.kept _ _ (k1 _ _ hR₂)) (S.at (.head _)) (by walk_at "l") (by walk_at "l") ?_
  intro O2 s17 S
  refine ne_like (by walk_at "l") (S.kept _ _ hrl) (S.at (.head _)) ((Like.sorted ((psLt_wa ps).flp true) ((r.pcs.keeps k1).keeps S.kept) ((hp.keeps k1).keeps S.kept) hsb hs₂).take _) ?_
  refine wpAny_truthy_bool ?_
  refine if_ff ?_
  have S := S.less (N' := [(130, ob1), (246, tabObj cs)]) (.cons _ (.cons _ (.refl _)))
  clear hrl hsb
  refine isTrue_or ?_
  refine wpAny_isTrue_Compare1 ?_
  refine Call_ (e_glob S G1.gs G1.n89 ?_)
  refine c_fn G1.f89 ?_
  refine args_cons (e_loc S rfl ?_)
  refine args_cons (e_loc S rfl ?_)
  repeat (walk_at "1")
  refine ⟨⟨_, _, _, _, S⟩, ?_⟩
  refine c_great G1 S (r.keeps k1) hT1 hh hd hu hxs (by walk_at "l") (by walk_at "l") ?_
  intro g140 rl out e ob0 s' kg0 hT0 hrl hsb S
  have k0 := Keeps.trans k1 kg0
  have G0 := G1.keeps kg0
  refine Subscript_ ?_
  refine e_loc S rfl ?_
  refine e_slice_up ?_
  refine e_loc S rfl ?_
  refine ⟨_, _, _, _, _, S, ?_⟩
  intro sl _ S
  refine tail_up S (S.kept _ _ (k0 _ _ hR₂)) (S.at (.head _)) (by walk_at "l") (by walk_at "l") ?_
  intro O2 s17 S
  refine ne_like (by walk_at "l") (S.kept _ _ hrl) (S.at (.head _)) ((Like.sorted ((psLt_wa ps).flp true) ((r.pcs.keeps k0).keeps S.kept) ((hp.keeps k0).keeps S.kept) hsb hs₂).take _) ?_
  refine wpAny_truthy_bool ?_
  refine if_ff ?_
  have S := S.less (N' := [(130, ob0), (246, tabObj cs)]) (.cons _ (.cons _ (.refl _)))
  clear hrl hsb
  refine isTrue_or_nil ?_
  refine if_ff ?_
  refine wpAny_execs_nil ?_
  exact h _ _ _ k0 hT0 S
end

section
variable {w : World} {A : Around} {E : Value → Shared → Prop} {s : Shared} {g g₀ : Heap} {L : Addr} {l : List (Str × Value)} {N : List (Addr × Obj)} {o : OsState} {mg mb : Str → Option Value} {K : Frag} {env : Env} {ob : Obj} {cs : Array Value} {x : Addr} {xs : List Value}
set_option maxHeartbeats 1000000
theorem law_15 {P R₁ R₂ : Addr} {qs : List Value} {e : Nat} {f a z fw : Int} {ps : List (Str × Str)} {tf t tz : Tok} {Q : Flow → Shared → Prop} (G : Gx K mg mb g) (hh : A.handled = none) (hd : A.depth + 60 < recursionLimit) (hu : A.units + 250 < cLine) (hT : Tab ob)
    (r : Row K g x xs ps a) (hP : g.get? P = some (seqObj "list" qs.toArray e)) (hp : Pcs g qs ps) (hz : z = a + sizeOf' ps)
    (S : St g L [(Str.ofString "first", .int f tf), (Str.ofString "few", .int fw t), (Str.ofString "pieces", .ref P), (Str.ofString "size", .int z tz), (Str.ofString "row", .ref x), (Str.ofString "least", .ref R₁), (Str.ofString "greatest", .ref R₂)] [(130, ob), (246, tabObj cs)] o s)
    (h : ∀ ob' s', Tab ob' → St g L [(Str.ofString "first", .int f tf), (Str.ofString "few", .int fw t), (Str.ofString "row", .ref x), (Str.ofString "least", .ref R₁), (Str.ofString "greatest", .ref R₂)] [(130, ob'), (246, tabObj cs)] o s' → Q .next s') :
    wpAny (model prog w) A (exec (lawStmt 15) (lawEnv L)) Q E s := by
  obtain ⟨nx, dx, od, ta, hx1, hx2⟩ := r.at'
  refine wpAny_If ?_
  refine isTrue_or ?_
  refine wpAny_isTrue_Compare1 ?_
  refine w_comp (cl := []) ?_
  refine e_loc S rfl ?_
  refine i_acc G.toCl S (hx1.keeps S.kept) ?_
  intro it s4 S
  refine ⟨g, L, _, _, o, loops_list hh S hx1.seq (fun k G ys N => ys = xs.take k ∧ N = [(130, ob), (246, tabObj cs)]) (fun _ _ => ⟨rfl, rfl⟩) ?_ ?_⟩
  · intro k D C G3 ys e2 N s9 v hv kG3 hI₁ S9 P₁ hP₁
    obtain ⟨rfl, rfl⟩ := hI₁
    refine wpAny_assign_Name (s_loc S9 ?_)
    intro s10 S10
    walk_at "put"
    show wpAny _ _ (eval _ _) _ _ _
    refine e_loc S10 rfl ?_
    refine ap_list S10 0 rfl (by have := r.few; simp; lia) ?_
    intro s12 S12
    exact hP₁ _ ⟨G3, _, _, _, _, .refl _, ⟨by rw [List.take_add_one, hv]; rfl, rfl⟩, S12⟩
  · rintro D G3 ys e2 N G5 s9 ⟨rfl, rfl⟩ kg5 _ S
    rw [List.take_length] at S
    have hlp : Like G5 xs qs := Like.of (r.pcs.keeps kg5) (hp.keeps kg5)
    have GG := G.keeps kg5
    refine e_loc S rfl ?_
    refine ne_like (by walk_at "l") (S.at (.head _)) (S.kept _ _ (kg5 _ _ hP)) (hlp.keeps S.kept) ?_
    refine wpAny_truthy_bool ?_
    refine if_ff ?_
    refine isTrue_or ?_
    refine wpAny_isTrue_Compare1 ?_
    refine Call_ (e_blt S GG.gs GG.bs GG.len0 GG.len1 ?_)
    refine callWith_method1 ?_
    refine args_cons (e_loc S rfl ?_)
    repeat (walk_at "1")
    refine c_lenrow GG.toGw (r.keeps kg5) S 2 rfl hT hh (by walk_at "l") ?_
    intro tl s10 ob2 hTb S
    refine e_loc S rfl ?_
    refine PyProof.Rows.ne_int ?_
    have ez : (a + sizeOf' ps != z) = false := by simp [hz]
    rw [ez]
    refine wpAny_truthy_bool ?_
    refine if_ff ?_
    refine isTrue_or_nil ?_
    refine if_ff ?_
    refine wpAny_execs_nil ?_
    dsimp only [List.set_cons_succ, List.set_cons_zero] at S
    exact h ob2 _ hTb (((S.less (.cons _ (.cons _ (.refl _)))).weak rfl).sub kg5)
theorem law_16 {R₁ R₂ : Addr} {o1 o2 : List Value} {e1 e2 : Nat} {f fw : Int} {tf t : Tok} {Q : Flow → Shared → Prop}
    (hf : 0 ≤ fw) (hR₁ : g.get? R₁ = some (seqObj "list" o1.toArray e1)) (hR₂ : g.get? R₂ = some (seqObj "list" o2.toArray e2)) (hl1 : o1.length ≤ 100) (hl2 : o2.length ≤ 100)
    (S : St g L [(Str.ofString "first", .int f tf), (Str.ofString "few", .int fw t), (Str.ofString "row", .ref x), (Str.ofString "least", .ref R₁), (Str.ofString "greatest", .ref R₂)] [(130, ob), (246, tabObj cs)] o s)
    (h : ∀ G' R s', Keeps g G' → G'.get? R = some (seqObj "list" ((if f.fmod 2 == 0 then o1 else o2).take fw.toNat).toArray 0) →
      St G' L [(Str.ofString "first", .int f tf), (Str.ofString "few", .int fw t), (Str.ofString "row", .ref x), (Str.ofString "told", .ref R)] [(130, ob), (246, tabObj cs)] o s' → Q .next s') :
    wpAny (model prog w) A (exec (lawStmt 16) (lawEnv L)) Q E s := by
  refine wpAny_Assign_Name ?_
  refine wpAny_IfExp ?_
  refine wpAny_isTrue_Compare1 ?_
  refine wpAny_BinOp ?_
  refine e_loc S rfl ?_
  refine e_int S ?_
  intro _ _ S
  refine b_mod S (by decide) ?_
  intro _ _ S
  refine e_int S ?_
  intro _ _ S
  refine PyProof.Rows.eq_int ?_
  refine wpAny_truthy_bool ?_
  cases hb : (f.fmod 2 == 0) with
  | true =>
    rw [hb, if_pos rfl] at h
    refine if_tt ?_
    refine Subscript_ ?_
    refine e_loc S rfl ?_
    refine e_slice_up ?_
    refine e_loc S rfl ?_
    refine ⟨_, _, _, _, _, S, ?_⟩
    intro sl _ S
    refine tail_up S (S.kept _ _ hR₁) (S.at (.head _)) hf (by walk_at "l") ?_
    intro R s17 S
    refine s_loc S ?_
    intro s18 S
    walk_at "put"
    obtain ⟨G', kg, kg', _, S⟩ := St.rebaseN (N₁ := [_, _]) (N₂ := [_, _]) S
    exact h G' R _ kg (kg' _ (.head _)) (S.weak rfl)
  | false =>
    rw [hb, if_neg Bool.false_ne_true] at h
    refine if_ff ?_
    refine Subscript_ ?_
    refine e_loc S rfl ?_
    refine e_slice_up ?_
    refine e_loc S rfl ?_
    refine ⟨_, _, _, _, _, S, ?_⟩
    intro sl _ S
    refine tail_up S (S.kept _ _ hR₂) (S.at (.head _)) hf (by walk_at "l") ?_
    intro R s17 S
    refine s_loc S ?_
    intro s18 S
    walk_at "put"
    obtain ⟨G', kg, kg', _, S⟩ := St.rebaseN (N₁ := [_, _]) (N₂ := [_, _]) S
    exact h G' R _ kg (kg' _ (.head _)) (S.weak rfl)
end

section
variable {w : World} {A : Around} {E : Value → Shared → Prop} {s : Shared} {g g₀ : Heap} {L : Addr} {l : List (Str × Value)} {N : List (Addr × Obj)} {o : OsState} {mg mb : Str → Option Value} {K : Frag} {env : Env} {ob : Obj} {cs : Array Value} {x dx : Addr} {xs : List Value}
set_option maxHeartbeats 1000000
noncomputable abbrev lastLt (f : Int) (ps : List (Str × Str)) : Nat → Nat → Bool := if f.fmod 2 == 0 then psLt ps else flp true (psLt ps)
theorem acc_notup (xs : List Value) (n : Nat) (dx : Addr) : NoTup (accObj xs n dx) := fun items e q => absurd (congrArg Obj.cls q) (by show ¬ (Value.ref 167 = Value.type "tuple"); decide)
theorem dOb_notup (v : Value) (t : Tok) : NoTup (dOb w v t) := fun items e q => absurd (congrArg Obj.cls q) (by show ¬ (Value.type "dict" = Value.type "tuple"); decide)
theorem hide2_get {b : Addr} {u ox od : Obj} (hb : g.get? b = some u) (hx : g.get? x = some ox) (hd : g.get? dx = some od) (h1 : u ≠ ox) (h2 : u ≠ od) : (hideAll g [x, dx]).get? b = some u :=
  hideAll_get _ hb (by
    simp
    exact ⟨fun q => h1 (by rw [q, hx] at hb; exact (Option.some.inj hb).symm), fun q => h2 (by rw [q, hd] at hb; exact (Option.some.inj hb).symm)⟩)
theorem Pcs.hide2 {ys : List Value} {ps : List (Str × Str)} {ox od : Obj} (h : Pcs g ys ps) (hx : g.get? x = some ox) (hd : g.get? dx = some od) (h1 : NoTup ox) (h2 : NoTup od) : Pcs (hideAll g [x, dx]) ys ps :=
  ⟨h.1, fun i v p hv hp => by obtain ⟨T, e, ta, tb, e1, e2⟩ := h.2 i v p hv hp; exact ⟨T, e, ta, tb, e1, hide2_get e2 hx hd (fun q => h1 _ _ q.symm) (fun q => h2 _ _ q.symm)⟩⟩
theorem law_17 {R : Addr} {f a fw : Int} {n : Nat} {u : Value} {td : Tok} {ps : List (Str × Str)} {tf t : Tok} {Q : Flow → Shared → Prop} (G₀ : Gx K mg mb g₀) (Kp : Keeps g₀ g) (hx0 : g₀.get? x = none) (hd0 : g₀.get? dx = none) (hh : A.handled = none) (hd : A.depth + 60 < recursionLimit) (hu : A.units + 250 < cLine) (hT : Tab ob)
    (r : Row K g x xs ps a) (hxs : 2 ≤ xs.length) (hf : 0 ≤ fw ∧ fw < 1000) (hx : g.get? x = some (accObj xs n dx)) (hdx : g.get? dx = some (dOb w u td)) (hne : x ≠ dx)
    (S : St g L [(Str.ofString "first", .int f tf), (Str.ofString "few", .int fw t), (Str.ofString "row", .ref x), (Str.ofString "told", .ref R)] [(130, ob), (246, tabObj cs)] o s)
    (h : ∀ G' out ob' n' ta td' s', Keeps (hideAll g [x, dx]) G' → SortedBy (lastLt f ps) xs out → Tab ob' → G'.get? x = some (accObj (out.take fw.toNat) n' dx) → G'.get? dx = some (dOb w (.int 0 ta) td') →
      St G' L [(Str.ofString "first", .int f tf), (Str.ofString "few", .int fw t), (Str.ofString "row", .ref x), (Str.ofString "told", .ref R)] [(130, ob'), (246, tabObj cs)] o s' → Q .next s') :
    wpAny (model prog w) A (exec (lawStmt 17) (lawEnv L)) Q E s := by
  have G := G₀.keeps Kp
  refine wpAny_Expr_any ?_
  refine MethodCall_ ?_
  refine e_loc S rfl ?_
  refine m_acc (G.toCl.keeps S.kept) ⟨S.kept _ _ hx, S.kept _ _ hdx⟩ G.rst G.rst' (.inl rfl) (dOb_reset _ _ _) ?_
  refine c_fnM G.f150 ?_
  refine args_cons ?_
  have fin : ∀ G1 rl out e ob1 s', Keeps g G1 → Tab ob1 → G1.get? rl = some (seqObj "list" (out.take fw.toNat).toArray e) → SortedBy (lastLt f ps) xs out →
      St G1 L [(Str.ofString "first", .int f tf), (Str.ofString "few", .int fw t), (Str.ofString "row", .ref x), (Str.ofString "told", .ref R)] [(130, ob1), (246, tabObj cs)] o s' →
      wpAny (model prog w) A (call (.ref 150) [.ref x, .ref rl]) (fun _ => Q .next) E s' := by
    intro G1 rl out e ob1 s' kg hT1 hrl hsb S
    have hol : out.length = xs.length := by obtain ⟨σ, q1, _⟩ := hsb; exact q1
    have hfew := r.few
    refine reset_ok G₀.toGw ((Kp.trans kg).trans S.kept) hx0 hd0 hne (by walk_at "l") S.gn (S.kept _ _ (kg _ _ hx)) (S.kept _ _ (kg _ _ hdx)) (S.kept _ _ hrl) (by walk_at "l") (by simp; exact Nat.le_trans (Nat.min_le_right _ _) (len_small ‹_› ‹_›)) ?_
    intro t1 t2 n' s2 kb h1 h2 ho hg
    have kH : Keeps (hideAll g [x, dx]) G1 := fun b ob e => kg _ _ (of_hideAll _ e)
    have S1 := S.sub kH
    have xL : x ≠ L := fun q => by
      obtain ⟨m, F, _⟩ := S.fr
      have := kg _ _ hx; rw [q, F.nl] at this; cases this
    have dL : dx ≠ L := fun q => by
      obtain ⟨m, F, _⟩ := S.fr
      have := kg _ _ hdx; rw [q, F.nl] at this; cases this
    have ne : ∀ p ∈ [((130 : Addr), ob1), (246, tabObj cs)], p.1 ∉ [x, dx] := fun p hp hm => by
      have := (S.nw p hp).2.2
      simp at hm
      rcases hm with q | q
      · rw [q, kg _ _ hx] at this; cases this
      · rw [q, kg _ _ hdx] at this; cases this
    have S2 : St (hideAll g [x, dx]) L [(Str.ofString "first", .int f tf), (Str.ofString "few", .int fw t), (Str.ofString "row", .ref x), (Str.ofString "told", .ref R)] [(130, ob1), (246, tabObj cs)] o s2 :=
      S1.next kb (by intro b hb; simp at hb; rcases hb with rfl | rfl; exact ⟨xL, hideAll_none _ (.head _)⟩; exact ⟨dL, hideAll_none _ (.tail _ (.head _))⟩)
        (fun p hp => ⟨kb _ _ (ne p hp) (S.at hp), (S1.nw p hp).2⟩) S.nd (ho.trans S.os) hg
    obtain ⟨G', kg', kall, _, S3⟩ := S2.rebaseAll
    have nin : ∀ b ∈ [x, dx], b ∉ [((130 : Addr), ob1), (246, tabObj cs)].map (·.1) := fun b hb hm => by
      obtain ⟨p, hp, he⟩ := List.mem_map.mp hm
      exact ne p hp (he ▸ hb)
    exact h G' out ob1 n' t2 t1 s2 kg' hsb hT1 (kall _ _ h1 xL (nin _ (.head _))) (kall _ _ h2 dL (nin _ (.tail _ (.head _)))) S3
  refine wpAny_IfExp ?_
  refine wpAny_isTrue_Compare1 ?_
  refine wpAny_BinOp ?_
  refine e_loc S rfl ?_
  refine e_int S ?_
  intro _ _ S
  refine b_mod S (by decide) ?_
  intro _ _ S
  refine e_int S ?_
  intro _ _ S
  refine PyProof.Rows.eq_int ?_
  refine wpAny_truthy_bool ?_
  unfold lastLt at fin
  cases hb : (f.fmod 2 == 0) with
  | true =>
    rw [hb, if_pos rfl] at fin
    refine if_tt ?_
    refine Call_ (e_glob S G.gs G.n83 ?_)
    refine c_fn G.f83 ?_
    refine args_cons (e_loc S rfl ?_)
    refine args_cons (e_loc S rfl ?_)
    repeat (walk_at "1")
    refine ⟨⟨_, _, _, _, S⟩, ?_⟩
    refine c_small G S r hT hh hd hu hxs (by walk_at "l") (by walk_at "l") ?_
    intro G1 rl out e ob1 s' kg hT1 hrl hsb S
    repeat (walk_at "1")
    exact ⟨⟨_, _, _, _, S.sub kg⟩, fin G1 rl out e ob1 s' kg hT1 hrl hsb S⟩
  | false =>
    rw [hb, if_neg Bool.false_ne_true] at fin
    refine if_ff ?_
    refine Call_ (e_glob S G.gs G.n89 ?_)
    refine c_fn G.f89 ?_
    refine args_cons (e_loc S rfl ?_)
    refine args_cons (e_loc S rfl ?_)
    repeat (walk_at "1")
    refine ⟨⟨_, _, _, _, S⟩, ?_⟩
    refine c_great G S r hT hh hd hu hxs (by walk_at "l") (by walk_at "l") ?_
    intro G1 rl out e ob1 s' kg hT1 hrl hsb S
    repeat (walk_at "1")
    exact ⟨⟨_, _, _, _, S.sub kg⟩, fin G1 rl out e ob1 s' kg hT1 hrl hsb S⟩
end

section
variable {w : World} {A : Around} {E : Value → Shared → Prop} {s : Shared} {g g₀ : Heap} {L : Addr} {l : List (Str × Value)} {N : List (Addr × Obj)} {o : OsState} {mg mb : Str → Option Value} {K : Frag} {env : Env} {ob : Obj} {cs : Array Value} {x dx : Addr} {xs : List Value}
set_option maxHeartbeats 1000000
theorem sorted_pcs {h : Heap} {vs us out out' : List Value} {ps : List (Str × Str)} {Lt : Nat → Nat → Bool} (W : WA Lt) (h1 : Pcs h vs ps) (h2 : Pcs h us ps) (s1 : SortedBy Lt vs out) (s2 : SortedBy Lt us out') : ∃ ps', Pcs h out ps' ∧ Pcs h out' ps' ∧ ∀ p ∈ ps', p ∈ ps := by
  have hl : vs.length = us.length := h1.1.trans h2.1.symm
  obtain ⟨τ, p, q, rfl⟩ := s1.places (W _)
  obtain ⟨τ', p', q', rfl⟩ := s2.places (W _)
  have e : τ = τ' := ord_uniq (W vs.length) τ τ' (fun x hx => List.mem_range.mp (p.mem_iff.mp hx)) (p.trans (hl ▸ p'.symm)) q q'
  subst e
  have at' : ∀ {zs : List Value}, Pcs h zs ps → zs.length = vs.length → Pcs h (τ.map (zs.getD · .none)) (τ.map (ps.getD · default)) := fun {zs} hz hzl => by
    refine ⟨by simp, fun i v p1 hv hp => ?_⟩
    rw [List.getElem?_map] at hv hp
    cases ht : τ[i]? with
    | none => rw [ht] at hv; cases hv
    | some k =>
      rw [ht] at hv hp
      simp only [Option.map_some, Option.some.injEq] at hv hp
      subst hv hp
      exact hz.atD (by rw [hzl]; exact List.mem_range.mp (p.mem_iff.mp (List.mem_of_getElem? ht)))
  refine ⟨τ.map (ps.getD · default), at' h1 rfl, at' h2 hl.symm, fun p1 hp1 => ?_⟩
  obtain ⟨k, hk, rfl⟩ := List.mem_map.mp hp1
  have hk2 : k < ps.length := by rw [← h1.1]; exact List.mem_range.mp (p.mem_iff.mp hk)
  have e : ps.getD k default = ps[k] := by simp [List.getD, List.getElem?_eq_getElem hk2]
  show ps.getD k default ∈ ps
  rw [e]
  exact List.getElem_mem hk2
theorem Pcs.take {h : Heap} {ys : List Value} {ps : List (Str × Str)} (x : Pcs h ys ps) (n : Nat) : Pcs h (ys.take n) (ps.take n) :=
  ⟨by simp [x.1], fun i v p hv hp => by
    by_cases hi : i < n
    · rw [List.getElem?_take_of_lt hi] at hv hp
      exact x.2 i v p hv hp
    · have h1 := (List.getElem?_eq_some_iff.mp hv).1
      simp at h1; lia⟩
theorem law_18 {R : Addr} {us : List Value} {e : Nat} {f fw : Int} {ps : List (Str × Str)} {tf t : Tok} {Q : Flow → Shared → Prop} (G : Gx K mg mb g) (hh : A.handled = none) (hd : A.depth + 60 < recursionLimit) (hu : A.units + 250 < cLine) (hT : Tab ob)
    (r : Row K g x xs ps 0) (hR : g.get? R = some (seqObj "list" us.toArray e)) (hp : Pcs g us ps)
    (S : St g L [(Str.ofString "first", .int f tf), (Str.ofString "few", .int fw t), (Str.ofString "row", .ref x), (Str.ofString "told", .ref R)] [(130, ob), (246, tabObj cs)] o s)
    (h : ∀ ob' s', Tab ob' → St g L [] [(130, ob'), (246, tabObj cs)] o s' → Q (.ret (.bool true)) s') :
    wpAny (model prog w) A (exec (lawStmt 18) (lawEnv L)) Q E s := by
  obtain ⟨nx, dx, od, ta, hx1, hx2⟩ := r.at'
  have hfew := r.few
  have hul : us.length = xs.length := hp.1.trans r.pcs.1.symm
  refine wpAny_Return_some ?_
  refine BoolOp_and ?_
  refine wpAny_Compare1 ?_
  refine w_comp (cl := []) ?_
  refine e_loc S rfl ?_
  refine i_acc G.toCl S (hx1.keeps S.kept) ?_
  intro it s4 S
  refine ⟨g, L, _, _, o, loops_list hh S hx1.seq (fun k G ys N => ys = xs.take k ∧ N = [(130, ob), (246, tabObj cs)]) (fun _ _ => ⟨rfl, rfl⟩) ?_ ?_⟩
  · intro k D C G3 ys e2 N s9 v hv kG3 hI₁ S9 P₁ hP₁
    obtain ⟨rfl, rfl⟩ := hI₁
    refine wpAny_assign_Name (s_loc S9 ?_)
    intro s10 S10
    walk_at "put"
    show wpAny _ _ (eval _ _) _ _ _
    refine e_loc S10 rfl ?_
    refine ap_list S10 0 rfl (by simp; lia) ?_
    intro s12 S12
    exact hP₁ _ ⟨G3, _, _, _, _, .refl _, ⟨by rw [List.take_add_one, hv]; rfl, rfl⟩, S12⟩
  · rintro D G3 ys e2 N G5 s9 ⟨rfl, rfl⟩ kg5 _ S
    rw [List.take_length] at S
    have hlp : Like G5 xs us := Like.of (r.pcs.keeps kg5) (hp.keeps kg5)
    have GG := G.keeps kg5
    refine e_loc S rfl ?_
    refine eq_like (by walk_at "l") (S.at (.head _)) (S.kept _ _ (kg5 _ _ hR)) (hlp.keeps S.kept) ?_
    refine wpAny_truthy_bool ?_
    refine if_tt ?_
    refine BoolOp_one ?_
    refine wpAny_Compare1 ?_
    refine Call_ (e_blt S GG.gs GG.bs GG.len0 GG.len1 ?_)
    refine callWith_method1 ?_
    refine args_cons (e_loc S rfl ?_)
    repeat (walk_at "1")
    refine c_lenrow GG.toGw (r.keeps kg5) S 2 rfl hT hh (by walk_at "l") ?_
    intro tl s10 ob2 hTb S
    dsimp only [List.set_cons_succ, List.set_cons_zero] at S
    have S := (S.less (N' := [(130, ob2), (246, tabObj cs)]) (.cons _ (.cons _ (.refl _)))).sub kg5
    clear GG hlp
    refine Call_ (e_blt S G.gs G.bs G.sum0 G.sum1 ?_)
    refine callWith_method1 ?_
    refine args_cons ?_
    refine w_comp (cl := []) ?_
    refine e_loc S rfl ?_
    refine i_lst S (S.kept _ _ hR) ?_
    intro it s4 S
    refine ⟨g, L, _, _, o, loops_list hh S ⟨_, _, hR, rfl⟩ (fun k G ys N => IntsAre ys ((ps.take k).map lenOf) ∧ ys.length = k ∧ N = [(130, ob2), (246, tabObj cs)]) (fun _ _ => ⟨by simp; exact .nil, rfl, rfl⟩) ?_ ?_⟩
    · intro k D C G3 ys e1 N s9 v hv kG hI₁ S9 P₁ hP₁
      obtain ⟨hJ, hyk, rfl⟩ := hI₁
      have hkq := (List.getElem?_eq_some_iff.mp hv).1
      have hkp : k < ps.length := by rw [← hp.1]; exact hkq
      obtain ⟨T, eT, ta, tb, rfl, hTo⟩ := hp.2 k v _ hv (List.getElem?_eq_getElem hkp)
      have hsz := r.short _ (List.getElem_mem hkp)
      have GG := G.keeps kG
      refine as_tup (items := [_, _]) hh S9 (S9.kept _ _ (kG _ _ hTo)) ?_
      intro s6 S
      refine assignInOrder_cons (wpAny_assign_Name (s_loc S ?_))
      intro s7 S
      refine assignInOrder_cons (wpAny_assign_Name (s_loc S ?_))
      intro s8 S
      refine assignInOrder_nil ?_
      walk_at "put"
      show wpAny _ _ (eval _ _) _ _ _
      refine wpAny_BinOp ?_
      refine Call_ (e_blt S GG.gs GG.bs GG.len0 GG.len1 ?_)
      refine callWith_method1 ?_
      refine args_cons (e_loc S rfl ?_)
      repeat (walk_at "1")
      refine c_lenstr S (by walk_at "l") ?_
      intro _ _ S
      refine Call_ (e_blt S GG.gs GG.bs GG.len0 GG.len1 ?_)
      refine callWith_method1 ?_
      refine args_cons (e_loc S rfl ?_)
      repeat (walk_at "1")
      refine c_lenstr S (by walk_at "l") ?_
      intro _ _ S
      refine b_add S ?_
      intro t5 s10 S
      refine ap_list S 0 rfl (by walk_at "l") ?_
      intro s12 S12
      refine hP₁ _ ⟨G3, _, _, _, _, .refl _, ⟨?_, by simp [hyk], rfl⟩, S12⟩
      rw [take_map_succ _ _ _ _ (List.getElem?_eq_getElem hkp)]
      exact ints_snoc hJ _ _
    · rintro D G3 ys e1 N G4 s9 ⟨hJ, _, rfl⟩ kg4 hov S
      rw [hp.1, List.take_length] at hJ
      repeat (walk_at "1")
      refine c_suml hh S (S.at (.head _)) hJ ?_
      intro t6 s11 S
      refine PyProof.Rows.eq_int ?_
      have ez : (0 + sizeOf' ps == (ps.map lenOf).sum) = true := by rw [sizeOf_map]; simp
      rw [ez]
      exact h ob2 _ hTb (((S.less (.cons _ (.cons _ (.refl _)))).weak rfl).sub kg4)
end

theorem str0 : (Str.ofString "").length = 0 := by decide +kernel
theorem str1 : (Str.ofString " ").length = 1 := by decide +kernel
theorem str2 : (Str.ofString "  ").length = 2 := by decide +kernel
theorem signOf_len (n : Int) : (signOf n).length = 1 := rfl
theorem madeOf_len (n : Int) : (madeOf n).1.length ≤ 2 ∧ (madeOf n).2.length ≤ 1 := by
  unfold madeOf
  split
  · exact ⟨by rw [str0]; decide, by rw [signOf_len]; decide⟩
  · split
    · exact ⟨by rw [str0]; decide, by rw [str0]; decide⟩
    · split
      · exact ⟨by rw [str1]; decide, by rw [str0]; decide⟩
      · exact ⟨by rw [str2]; decide, by rw [signOf_len]; decide⟩
theorem headPs_len : ∀ p ∈ headPs, p.1.length ≤ 2 ∧ p.2.length ≤ 1 := by
  intro p hp
  simp only [headPs, List.mem_cons, List.not_mem_nil, or_false] at hp
  rcases hp with rfl | rfl | rfl <;> decide +kernel
theorem headPs_size : sizeOf' headPs = 3 := by decide +kernel
noncomputable abbrev psOf (rest : List Int) : List (Str × Str) := headPs ++ rest.map madeOf
theorem psOf_len (rest : List Int) : ∀ p ∈ psOf rest, p.1.length ≤ 2 ∧ p.2.length ≤ 1 := by
  intro p hp
  rcases List.mem_append.mp hp with hp | hp
  · exact headPs_len p hp
  · obtain ⟨n, _, rfl⟩ := List.mem_map.mp hp
    exact madeOf_len n
theorem sizeOf_few : ∀ ps : List (Str × Str), (∀ p ∈ ps, p.1.length ≤ 2 ∧ p.2.length ≤ 1) → sizeOf' ps ≤ 3 * ps.length
  | [], _ => by simp [sizeOf']
  | p :: ps, h => by
    have := sizeOf_few ps fun q hq => h q (.tail _ hq)
    have hp := h p (.head _)
    simp only [sizeOf', List.map_cons, List.sum_cons, List.length_cons] at *; lia
theorem psOf_size (rest : List Int) (hr : rest.length ≤ 6) : 3 ≤ sizeOf' (psOf rest) ∧ sizeOf' (psOf rest) ≤ 27 := by
  have h1 := sizeOf_few _ (psOf_len rest)
  have h2 : (psOf rest).length = 3 + rest.length := by show (headPs ++ rest.map madeOf).length = _; rw [List.length_append, List.length_map]; rfl
  have h3 : sizeOf' (psOf rest) = sizeOf' headPs + sizeOf' (rest.map madeOf) := by unfold sizeOf'; rw [List.map_append, List.sum_append]
  have h4 := sizeOf_nonneg (rest.map madeOf)
  have h5 := headPs_size
  lia
section
variable {w : World} {A : Around} {E : Value → Shared → Prop} {s : Shared} {g g₀ : Heap} {L : Addr} {l : List (Str × Value)} {N : List (Addr × Obj)} {o : OsState} {mg mb : Str → Option Value} {K : Frag} {env : Env} {ob : Obj} {cs : Array Value} {x dx : Addr} {xs : List Value}
set_option maxHeartbeats 2000000
theorem lastLt_wa (f : Int) (ps : List (Str × Str)) : WA (lastLt f ps) := by
  unfold lastLt
  split
  · exact psLt_wa ps
  · exact (psLt_wa ps).flp true
theorem lawBody_eq : lawBody = [lawStmt 0, lawStmt 1, lawStmt 2, lawStmt 3, lawStmt 4, lawStmt 5, lawStmt 6, lawStmt 7, lawStmt 8, lawStmt 9, lawStmt 10, lawStmt 11, lawStmt 12, lawStmt 13, lawStmt 14, lawStmt 15, lawStmt 16, lawStmt 17, lawStmt 18] := rfl
theorem law_body {sc : Addr} {vs : List Value} {nz : List Int} {Q : Flow → Shared → Prop} (G : Gx K mg mb g) (hT : Tab ob) (hT2 : Tab2 g placePos placeQual cs) (hh : A.handled = none) (hd : A.depth + 60 < recursionLimit) (hu : A.units + 250 < cLine)
    (hsc : g.IsList sc vs.toArray) (hI : IntsAre vs nz) (hz : vs.length ≤ 63) (S : St g L [(Str.ofString "script", .ref sc)] [(130, ob), (246, tabObj cs)] o s)
    (h : ∀ G' ob' cs' s', Keeps g G' → Tab ob' → St G' L [] [(130, ob'), (246, tabObj cs')] o s' → Q (.ret (.bool true)) s') :
    wpAny (model prog w) A (execs lawBody (lawEnv L)) Q E s := by
  obtain ⟨f, rest, hns⟩ : ∃ f rest, numsOf' nz = f :: rest := by
    cases e : numsOf' nz with
    | nil => have := (numsOf_len nz).1; rw [e] at this; simp at this
    | cons f rest => exact ⟨f, rest, rfl⟩
  have hrl : rest.length ≤ 6 := by have := (numsOf_len nz).2; rw [hns] at this; simp at this; lia
  have hsz := psOf_size rest hrl
  have h4 : 0 ≤ f.fmod 4 ∧ f.fmod 4 < 4 := ⟨Int.fmod_nonneg_of_pos _ (by decide), Int.fmod_lt_of_pos _ (by decide)⟩
  have hfw := fewOf_lt f
  have hpl : (psOf rest).length = 3 + rest.length := by show (headPs ++ rest.map madeOf).length = _; rw [List.length_append, List.length_map]; rfl
  have hshort : ∀ p ∈ psOf rest, p.1.length < 1000 ∧ p.2.length < 1000 := fun p hp => by have := psOf_len rest p hp; lia
  rw [lawBody_eq]
  refine x_cons ?_
  refine law_0 S hsc hI hz ?_
  intro Nl nvs s2 hN S
  rw [hns] at hN
  have h7 : nvs.length ≤ 7 := by have := hN.length; simp at this; lia
  obtain ⟨g1, k1, k1', _, S⟩ := St.rebaseN (N₁ := [_]) (N₂ := [_, _]) S
  have hNl := k1' _ (.head _)
  refine x_cons ?_
  refine law_1 S hNl hN ?_
  intro tf s3 S
  refine x_cons ?_
  refine law_2 hh S ?_
  intro t u s4 S
  generalize tableOf f = tb at S
  generalize fewOf f = fw at S hfw
  refine x_cons ?_
  refine law_3 S ?_
  intro g2 H hs s5 k2 hH hpH S
  have G2 := (G.keeps k1).keeps k2
  refine x_cons ?_
  refine law_4 G2 hh hd (k2 _ _ hNl) hN h7 hH hpH S ?_
  intro g3 P qs s6 k3 hP hp S
  have G3 := G2.keeps k3
  have hql : qs.length = 3 + rest.length := hp.1.trans hpl
  refine x_cons ?_
  refine law_5 G3 hh hd (k3 _ _ (k2 _ _ hNl)) hN h7 S ?_
  intro s7 S
  refine x_cons ?_
  refine law_6 G3 hh hd hP hp (by walk_at "l") hshort S ?_
  intro tz s8 S
  refine x_cons ?_
  refine law_7 G3 hh hd hT (k3 _ _ (k2 _ _ hNl)) hN h7 (k3 _ _ hH) (hpH.keeps k3) S ?_
  intro g4 x dx n ta td xs s9 k4 hx0 hd0 hxL hdL hne hx hdx hpx S
  have G4 := G3.keeps k4
  have hxl : xs.length = 3 + rest.length := hpx.1.trans hpl
  have r : Row K g4 x xs (psOf rest) (f.fmod 4) := ⟨⟨n, dx, _, ta, ⟨hx, hdx⟩, G4.toCl.own w _ _⟩, hpx, by walk_at "l", hshort, by walk_at "l"⟩
  have hT24 := hT2.keeps (k1.trans (k2.trans (k3.trans k4)))
  refine x_cons ?_
  refine law_8 G4 hh hd hu hT hT24 r (k4 _ _ hP) (hp.keeps k4) (by walk_at "l") rfl (by walk_at "l") (by walk_at "l") S ?_
  intro g5 ob5 cs5 s10 k5 hT5 hT25 S
  refine x_cons ?_
  refine law_9 (G4.keeps k5) hh hd hT5 S ?_
  intro g6 y ys s11 k6 ry S
  have G6 := (G4.keeps k5).keeps k6
  refine x_cons ?_
  refine law_10 G6 hh hd hu hT5 (hT25.keeps k6) ry (by walk_at "l") S ?_
  intro g7 ob7 cs7 s12 k7 hT7 _ S
  have k47 : Keeps g4 g7 := k5.trans (k6.trans k7)
  have G7 := G4.keeps k47
  have hP7 := k47 _ _ (k4 _ _ hP)
  have hp7 := (hp.keeps k4).keeps k47
  refine x_cons ?_
  refine law_11 G7 hh hd hu hP7 hp7 (by walk_at "l") S ?_
  intro g8 R1 o1 e1 s13 k8 hR1 hs1 S
  refine x_cons ?_
  refine law_12 (G7.keeps k8) hh hd hu (k8 _ _ hP7) (hp7.keeps k8) (by walk_at "l") S ?_
  intro g9 R2 o2 e2 s14 k9 hR2 hs2 S
  have k49 : Keeps g4 g9 := k47.trans (k8.trans k9)
  have G9 := G4.keeps k49
  have ho1 : o1.length = qs.length := by obtain ⟨σ, q1, _⟩ := hs1; exact q1
  have ho2 : o2.length = qs.length := by obtain ⟨σ, q1, _⟩ := hs2; exact q1
  refine x_cons ?_
  refine law_13 G9 hh hd hu hT7 (r.keeps k49) ((hp.keeps k4).keeps k49) (by walk_at "l") (by walk_at "l") (by walk_at "l") (k9 _ _ hR1) hs1 hR2 hs2 (by walk_at "l") (by walk_at "l") S ?_
  intro g10 ob10 s15 k10 hT10 S
  refine x_cons ?_
  refine law_14 (G9.keeps k10) hh hd hu hT10 ((r.keeps k49).keeps k10) (((hp.keeps k4).keeps k49).keeps k10) (by walk_at "l") (by walk_at "l") (by walk_at "l") (k10 _ _ (k9 _ _ hR1)) hs1 (k10 _ _ hR2) hs2 (by walk_at "l") (by walk_at "l") S ?_
  intro g11 ob11 s16 k11 hT11 S
  have k411 : Keeps g4 g11 := k49.trans (k10.trans k11)
  have G11 := G4.keeps k411
  refine x_cons ?_
  refine law_15 G11 hh hd hu hT11 (r.keeps k411) (k411 _ _ (k4 _ _ hP)) ((hp.keeps k4).keeps k411) rfl S ?_
  intro ob12 s17 hT12 S
  have hR1' := k11 _ _ (k10 _ _ (k9 _ _ hR1))
  have hR2' := k11 _ _ (k10 _ _ hR2)
  refine x_cons ?_
  refine law_16 hfw.1 hR1' hR2' (by walk_at "l") (by walk_at "l") S ?_
  intro g12 R s18 k12 hR S
  have k412 : Keeps g4 g12 := k411.trans k12
  have hx12 := k412 _ _ hx
  have hd12 := k412 _ _ hdx
  refine x_cons ?_
  refine law_17 G3 (k4.trans k412) hx0 hd0 hh hd hu hT12 (r.keeps k412) (by walk_at "l") (by walk_at "l") hx12 hd12 hne S ?_
  intro g13 out ob13 n' ta' td' s19 k13 hso hT13 hx' hdx' S
  have k3h : Keeps g3 (hideAll g12 [x, dx]) := (k4.trans k412).hide (by intro b hb; simp at hb; rcases hb with rfl | rfl; exact hx0; exact hd0)
  have G13 := (G3.keeps k3h).keeps k13
  have hst : SortedBy (lastLt f (psOf rest)) qs (if f.fmod 2 == 0 then o1 else o2) := by
    unfold lastLt
    cases f.fmod 2 == 0
    · exact hs2
    · exact hs1
  obtain ⟨ps', hp1, hp2, hmem⟩ := sorted_pcs (lastLt_wa f _) (hpx.keeps k412) ((hp.keeps k4).keeps k412) hso hst
  have q1 := ((hp1.hide2 hx12 hd12 (acc_notup _ _ _) (dOb_notup _ _)).keeps k13).take fw.toNat
  have q2 := ((hp2.hide2 hx12 hd12 (acc_notup _ _ _) (dOb_notup _ _)).keeps k13).take fw.toNat
  have hol : out.length = xs.length := by obtain ⟨σ, q1, _⟩ := hso; exact q1
  have r13 : Row K g13 x (out.take fw.toNat) (ps'.take fw.toNat) 0 := ⟨⟨n', dx, _, ta', ⟨hx', hdx'⟩, G13.toCl.own w _ _⟩, q1, by simp; exact Nat.lt_of_le_of_lt (Nat.min_le_right _ _) (by lia), fun p hp => hshort p (hmem p (List.mem_of_mem_take hp)), by walk_at "l"⟩
  have hRl : ∀ (vs : List Value) e, seqObj "list" vs.toArray e ≠ accObj xs n dx := fun vs e q => absurd (congrArg Obj.cls q) (by show ¬ (Value.type "list" = Value.ref 167); decide)
  have hRd : ∀ (vs : List Value) e v t, seqObj "list" vs.toArray e ≠ dOb w v t := fun vs e v t q => absurd (congrArg Obj.cls q) (by show ¬ (Value.type "list" = Value.type "dict"); decide)
  have hR13 := k13 _ _ (hide2_get hR hx12 hd12 (hRl _ _) (hRd _ _ _ _))
  refine x_cons ?_
  refine law_18 G13 hh hd hu hT13 r13 hR13 q2 S ?_
  intro ob14 s20 hT14 S
  exact h g13 ob14 cs7 s20 (k1.trans (k2.trans (k3.trans (k3h.trans k13)))) hT14 S
theorem law_ok {sc : Addr} {vs : List Value} {nz : List Int} {Q : Value → Shared → Prop} (G : Gx K mg mb g₀) (Kp : Keeps g₀ s.heap) (h130 : g₀.get? 130 = none) (h246 : g₀.get? 246 = none) (hob : s.heap.get? 130 = some ob) (hT : Tab ob) (hob2 : s.heap.get? 246 = some (tabObj cs)) (hT2 : Tab2 (hideAll s.heap [130, 246]) placePos placeQual cs)
    (hh : A.handled = none) (hd : A.depth + 70 < recursionLimit) (hu : A.units + 300 < cLine) (hg : AllBare s.gens) (hsc : s.heap.IsList sc vs.toArray) (hI : IntsAre vs nz) (hz : vs.length ≤ 63)
    (h : ∀ ob' cs' s', KeepsBut [130, 246] s.heap s'.heap → s'.heap.get? 130 = some ob' → Tab ob' → s'.heap.get? 246 = some (tabObj cs') → s'.os = s.os → AllBare s'.gens → Q (.bool true) s') :
    wpAny (model prog w) A (call (.ref 261) [.ref sc]) Q E s := by
  have Kg : Keeps g₀ (hideAll s.heap [130, 246]) := Kp.hide (by intro b hb; simp at hb; rcases hb with rfl | rfl; exact h130; exact h246)
  have hsc' : (hideAll s.heap [130, 246]).IsList sc vs.toArray := by
    obtain ⟨ol, e1, e2, r⟩ := hsc
    refine ⟨ol, hideAll_get _ e1 ?_, e2, r⟩
    simp
    refine ⟨fun q => ?_, fun q => ?_⟩
    · obtain ⟨ps, rfl, _⟩ := hT
      rw [q, hob] at e1; cases e1; cases e2
    · rw [q, hob2] at e1; cases e1; cases e2
  refine call_fn (N := [(130, ob), (246, tabObj cs)]) (binds := [(Str.ofString "script", .ref sc)]) G.lim Kp G.f261 (by walk_at "l")
    (by intro p hp; simp at hp; rcases hp with rfl | rfl; exact hob; exact hob2) hg rfl (.of_eq rfl) rfl rfl (by simp) ?_
  intro L s₁ S
  walk_at "put"
  show wpAny _ _ (execs lawBody (lawEnv L)) _ _ _
  refine law_body (A := A.deeper _) (G.keeps Kg) hT hT2 hh (dd hd (by decide)) (du hu (by decide)) hsc' hI hz S ?_
  intro G' ob' cs' s' kG hT' S
  exact h ob' cs' s' (S.keepsBut' kG) (S.at (.head _)) hT' (S.at (.tail _ (.head _))) S.os S.gn
end

noncomputable def addrs : List Addr := [167, 166, 3, 0, 2, 28, 35, 42, 49, 56, 63, 70, 77, 83, 89, 106, 113, 135, 150, 178, 218, 225, 232, 239, 244, 251, 256, 261, 27, 34, 41, 48, 55, 62, 69, 76, 82, 88, 105, 112, 134, 149, 177, 217, 224, 231, 238, 243, 250, 255, 260, 4, 93, 98, 143, 78, 84, 179, 180, 181, 182, 183, 184, 185, 186, 187, 188, 189, 190, 191, 192, 193, 194, 195, 196, 197, 198, 199, 200, 201, 202, 203, 204, 205, 206, 207, 208, 209, 210, 211]
noncomputable def kOf (h : Heap) : Frag := addrs.filterMap fun a => (h.get? a).map fun o => (a, o)
theorem lookup_filterMap {h : Heap} {a : Addr} {o : Obj} : ∀ (l : List Addr), (l.filterMap fun a => (h.get? a).map fun o => (a, o)).lookup a = some o → h.get? a = some o ∧ a ∈ l
  | [], e => by cases e
  | b :: r, e => by
    rw [List.filterMap_cons] at e
    cases hb : h.get? b with
    | none => rw [hb] at e; exact ⟨(lookup_filterMap r e).1, .tail _ (lookup_filterMap r e).2⟩
    | some u =>
      rw [hb] at e
      simp only [Option.map_some, List.lookup_cons] at e
      by_cases hab : a = b
      · subst hab; simp only [beq_self_eq_true] at e; cases e; exact ⟨hb, .head _⟩
      · have q : (a == b) = false := by simpa using hab
        rw [q] at e
        exact ⟨(lookup_filterMap r e).1, .tail _ (lookup_filterMap r e).2⟩
theorem kOf_in {h h' : Heap} (k : Keeps h h') : (kOf h).In (hideAll h' [130, 246]) := fun a o e => by
  obtain ⟨h1, h2⟩ := lookup_filterMap _ e
  exact hideAll_get _ (k _ _ h1) (fun hm => by
    simp at hm
    rcases hm with rfl | rfl <;> exact absurd h2 (by decide))
noncomputable def gMap (K : Frag) (a : Addr) (x : Str) : Option Value := match K.lookup a with
  | some o => (match o.data with | .dict es _ => nsFind es x | _ => none)
  | none => none
theorem ns_of_K {K : Frag} {g : Heap} {N : Addr} (X : K.In g) (e : nsOkIn K N = true) : g.Ns N (gMap K N) := by
  have h1 := Heap.Ns.of_isNs (isNs_of_in X e)
  have h2 : g.nsMap N = gMap K N := by
    funext x
    unfold nsOkIn at e
    split at e
    · rename_i ho
      unfold Heap.nsMap gMap
      rw [X _ _ ho, ho]
    · cases e
  rwa [h2] at h1
noncomputable def codeRecIn (K : Frag) (cd : Value) (q : Str) : Bool := match cd with
  | .ref c => (match K.lookup c with
      | some o => (match o.data with
          | .fields vs => (match (vs[1]? : Option Value) with | some (.str q' _) => q' == q | _ => false)
          | _ => false)
      | none => false)
  | _ => false
theorem codeRec_of_K {K : Frag} {g : Heap} {cd : Value} {q : Str} (X : K.In g) (e : codeRecIn K cd q = true) : g.CodeRec cd q := by
  unfold codeRecIn at e
  split at e
  · rename_i c
    split at e
    · rename_i o ho
      split at e
      · rename_i vs hvs
        split at e
        · rename_i q' t hq
          have : q' = q := eq_of_beq e
          subst this
          exact ⟨c, o, vs, t, rfl, X _ _ ho, hvs, hq⟩
        · cases e
      · cases e
    · cases e
  · cases e
theorem fn_of_K {K : Frag} {g : Heap} {f : Addr} {fd : FuncData} (X : K.In g) (e : K.lookup f = some { cls := .type "function", data := .func fd }) (c : codeRecIn K fd.code fd.qualname = true) : FnAt g f fd := ⟨X _ _ e, codeRec_of_K X c⟩
theorem noLimit_of_K {K : Frag} {g : Heap} (X : K.In g) (e : nsOkIn K cStatics = true) (h : gMap K cStatics "sys.recursionlimit" = none) : g.NoLimit := ⟨_, ns_of_K X e, h⟩
noncomputable def fns : List (Addr × FuncData) := [(28, fnAt 2 .none mHeapq 27), (35, fnAt 3 .none mHeapq 34), (42, fnAt 4 .none mHeapq 41), (49, fnAt 5 .none mHeapq 48), (56, fnAt 6 .none mHeapq 55), (63, fnAt 7 .none mHeapq 62), (70, fnAt 8 .none mHeapq 69), (77, fnAt 9 .none mHeapq 76), (83, fnAt 10 (.ref 78) mHeapq 82), (89, fnAt 11 (.ref 84) mHeapq 88), (106, mthAt 0 (.ref 98) 105 [(Str.ofString "__class__", 93)] (.ref 99)), (113, mthAt 1 .none 112 [] .none), (135, mthAt 4 .none 134 [] .none), (150, mthAt 6 (.ref 143) 149 [] .none), (178, fnAt 16 .none mStat 177), (218, fnAt 37 .none mStat 217), (225, fnAt 39 .none mLaw 224), (232, fnAt 40 .none mLaw 231), (239, fnAt 41 .none mLaw 238), (244, fnAt 42 .none mLaw 243), (251, fnAt 43 .none mLaw 250), (256, fnAt 44 .none mLaw 255), (261, fnAt 45 .none mLaw 260)]
noncomputable def gns : List (String × Option Value) := [("heapreplace", some (.ref 28)), ("heapify", some (.ref 35)), ("_heapreplace_max", some (.ref 42)), ("_heapify_max", some (.ref 49)), ("_siftdown", some (.ref 56)), ("_siftup", some (.ref 63)), ("_siftdown_max", some (.ref 70)), ("_siftup_max", some (.ref 77)), ("len", none), ("reversed", none), ("range", none), ("nsmallest", some (.ref 83)), ("nlargest", some (.ref 89)), ("_Accumulator", some (.ref 167)), ("sum", none), ("__builtins__", some (.ref 4)), ("iter", none), ("object", none), ("min", none), ("max", none), ("sorted", none), ("zip", none), ("super", none), ("S_IFMT", some (.ref 178)), ("filemode", some (.ref 218)), ("_law_listing", some (.ref 225)), ("_law_made", some (.ref 232)), ("_law_filled", some (.ref 239)), ("_law_order", some (.ref 244)), ("_law_asked", some (.ref 251)), ("_law_right", some (.ref 256)), ("_filemode_table", some (.ref 211)), ("enumerate", none), ("law", some (.ref 261))]
noncomputable def bns : List (String × Value) := [("len", .builtin "len"), ("reversed", .type "reversed"), ("range", .type "range"), ("sum", .builtin "sum"), ("iter", .builtin "iter"), ("object", .type "object"), ("min", .builtin "min"), ("max", .builtin "max"), ("sorted", .builtin "sorted"), ("zip", .type "zip"), ("super", .type "super"), ("enumerate", .type "enumerate")]
noncomputable def fds : List (String × Option Value) := [("__getattribute__", some (.builtin "list.__getattribute__")), ("__setattr__", some (.builtin "object.__setattr__")), ("_initial_size", none), ("__getattr__", none), ("__iter__", some (.builtin "list.__iter__")), ("__len__", some (.ref 135)), ("__init__", some (.ref 106)), ("push", some (.ref 113)), ("reset", some (.ref 150)), ("append", some (.builtin "list.append")), ("__setitem__", some (.builtin "list.__setitem__"))]
noncomputable def tys : List (Value × Value) := [(.ref 135, .type "function"), (.ref 106, .type "function"), (.ref 113, .type "function"), (.ref 150, .type "function"), (.builtin "list.append", .type "method_descriptor")]
noncomputable def obs : List (Addr × Obj) := [(4, { cls := .type "module", dict := some 0, data := .plain }), (93, { cls := .type "cell", data := .cell (some (.ref 167)) }), (98, seqObj "tuple" #[.int 0 310] 0), (143, seqObj "tuple" #[.none] 0), (78, seqObj "tuple" #[.none] 0), (84, seqObj "tuple" #[.none] 0), (179, seqObj "tuple" ([.int 40960 410, .str (Str.ofString "l") 438] : List Value).toArray 0), (180, seqObj "tuple" ([.int 49152 412, .str (Str.ofString "s") 439] : List Value).toArray 0), (181, seqObj "tuple" ([.int 32768 406, .str (Str.ofString "-") 440] : List Value).toArray 0), (182, seqObj "tuple" ([.int 24576 404, .str (Str.ofString "b") 441] : List Value).toArray 0), (183, seqObj "tuple" ([.int 16384 400, .str (Str.ofString "d") 442] : List Value).toArray 0), (184, seqObj "tuple" ([.int 8192 402, .str (Str.ofString "c") 443] : List Value).toArray 0), (185, seqObj "tuple" ([.int 4096 408, .str (Str.ofString "p") 444] : List Value).toArray 0), (186, seqObj "tuple" ([.ref 179, .ref 180, .ref 181, .ref 182, .ref 183, .ref 184, .ref 185] : List Value).toArray 0), (187, seqObj "tuple" ([.int 256 420, .str (Str.ofString "r") 445] : List Value).toArray 0), (188, seqObj "tuple" ([.ref 187] : List Value).toArray 0), (189, seqObj "tuple" ([.int 128 422, .str (Str.ofString "w") 446] : List Value).toArray 0), (190, seqObj "tuple" ([.ref 189] : List Value).toArray 0), (191, seqObj "tuple" ([.int 2112 447, .str (Str.ofString "s") 448] : List Value).toArray 0), (192, seqObj "tuple" ([.int 2048 414, .str (Str.ofString "S") 449] : List Value).toArray 0), (193, seqObj "tuple" ([.int 64 424, .str (Str.ofString "x") 450] : List Value).toArray 0), (194, seqObj "tuple" ([.ref 191, .ref 192, .ref 193] : List Value).toArray 0), (195, seqObj "tuple" ([.int 32 426, .str (Str.ofString "r") 451] : List Value).toArray 0), (196, seqObj "tuple" ([.ref 195] : List Value).toArray 0), (197, seqObj "tuple" ([.int 16 428, .str (Str.ofString "w") 452] : List Value).toArray 0), (198, seqObj "tuple" ([.ref 197] : List Value).toArray 0), (199, seqObj "tuple" ([.int 1032 453, .str (Str.ofString "s") 454] : List Value).toArray 0), (200, seqObj "tuple" ([.int 1024 416, .str (Str.ofString "S") 455] : List Value).toArray 0), (201, seqObj "tuple" ([.int 8 430, .str (Str.ofString "x") 456] : List Value).toArray 0), (202, seqObj "tuple" ([.ref 199, .ref 200, .ref 201] : List Value).toArray 0), (203, seqObj "tuple" ([.int 4 432, .str (Str.ofString "r") 457] : List Value).toArray 0), (204, seqObj "tuple" ([.ref 203] : List Value).toArray 0), (205, seqObj "tuple" ([.int 2 434, .str (Str.ofString "w") 458] : List Value).toArray 0), (206, seqObj "tuple" ([.ref 205] : List Value).toArray 0), (207, seqObj "tuple" ([.int 513 459, .str (Str.ofString "t") 460] : List Value).toArray 0), (208, seqObj "tuple" ([.int 512 418, .str (Str.ofString "T") 461] : List Value).toArray 0), (209, seqObj "tuple" ([.int 1 436, .str (Str.ofString "x") 462] : List Value).toArray 0), (210, seqObj "tuple" ([.ref 207, .ref 208, .ref 209] : List Value).toArray 0), (211, seqObj "tuple" ([.ref 186, .ref 188, .ref 190, .ref 194, .ref 196, .ref 198, .ref 202, .ref 204, .ref 206, .ref 210] : List Value).toArray 0)]
noncomputable def c105In (K : Frag) : Bool := match K.lookup 105 with
  | some o => (match o.data with
      | .fields vs => (match (vs[2]? : Option Value) with | some (.str f _) => prog.main.file == f | _ => false)
      | _ => false)
  | none => false
noncomputable def seenK (K : Frag) := (fns.map fun p => (K.lookup p.1, codeRecIn K p.2.code p.2.qualname), gns.map fun p => gMap K mainGlobals (Str.ofString p.1), bns.map fun p => gMap K builtinsNs (Str.ofString p.1), fds.map fun p => findIn K (.ref 167) (Str.ofString p.1),
  tys.map fun p => typeIn K p.1, obs.map fun p => K.lookup p.1, (clsIn K 167).map fun cd => (cd.mro, cd.hasDict, cd.abstract, cd.hasDel), (match K.lookup 167 with | some ⟨_, _, .cls _, sl⟩ => (sl.toList[4]?).join | _ => none),
  (mroIn K 167 (.type "list"), instIn K (.ref 167) (.type "type"), specialIn K (.ref 167) "__call__", nsIn K cStatics "thirdparty.any", gMap K cStatics "sys.recursionlimit"),
  (seqItemTypes.all (fun n => subIn K (.ref 167) (.type n) == some false), nsOkIn K mainGlobals, nsOkIn K builtinsNs, nsOkIn K cStatics, codeHdIn K 134 130, codeHdIn K 250 246, c105In K))
noncomputable def goodK : type_of% (seenK []) := (fns.map fun p => (some { cls := .type "function", data := .func p.2 }, true), gns.map (·.2), bns.map fun p => some p.2, fds.map fun p => some p.2,
  tys.map fun p => some p.2, obs.map fun p => some p.2, some ([.ref 167, .type "list", .type "object"], true, false, false), some (.builtin "list.__new__"),
  (some true, some true, some (some (.builtin "type.__call__")), some none, none), (true, true, true, true, true, true, true))
section
variable {K : Frag} {g : Heap}
theorem at_map {α β : Type} {F G : α → β} {l : List α} (e : l.map F = l.map G) (i : Nat) {p : α} (h : l[i]? = some p) : F p = G p := by
  have := congrArg (fun m : List β => m[i]?) e
  simpa [h] using this
theorem k_fn (X : K.In g) (e : seenK K = goodK) (i : Nat) {f : Addr} {fd : FuncData} (h : fns[i]? = some (f, fd)) : FnAt g f fd := by
  have h1 := at_map (l := fns) (F := fun p => (K.lookup p.1, codeRecIn K p.2.code p.2.qualname)) (G := fun p => (some { cls := .type "function", data := .func p.2 }, true)) (congrArg (fun z => z.1) e) i h
  exact ⟨X _ _ (Prod.mk.inj h1).1, codeRec_of_K X (Prod.mk.inj h1).2⟩
theorem k_g (e : seenK K = goodK) (i : Nat) {n : String} {v : Option Value} (h : gns[i]? = some (n, v)) : gMap K mainGlobals (Str.ofString n) = v := at_map (l := gns) (F := fun p => gMap K mainGlobals (Str.ofString p.1)) (G := (·.2)) (congrArg (fun z => z.2.1) e) i h
theorem k_b (e : seenK K = goodK) (i : Nat) {n : String} {v : Value} (h : bns[i]? = some (n, v)) : gMap K builtinsNs (Str.ofString n) = some v := at_map (l := bns) (F := fun p => gMap K builtinsNs (Str.ofString p.1)) (G := fun p => some p.2) (congrArg (fun z => z.2.2.1) e) i h
theorem k_f (e : seenK K = goodK) (i : Nat) {n : String} {v : Option Value} (h : fds[i]? = some (n, v)) : findIn K (.ref 167) (Str.ofString n) = some v := at_map (l := fds) (F := fun p => findIn K (.ref 167) (Str.ofString p.1)) (G := fun p => some p.2) (congrArg (fun z => z.2.2.2.1) e) i h
theorem k_t (e : seenK K = goodK) (i : Nat) {n v : Value} (h : tys[i]? = some (n, v)) : typeIn K n = some v := at_map (l := tys) (F := fun p => typeIn K p.1) (G := fun p => some p.2) (congrArg (fun z => z.2.2.2.2.1) e) i h
theorem k_o (X : K.In g) (e : seenK K = goodK) (i : Nat) {n : Addr} {v : Obj} (h : obs[i]? = some (n, v)) : g.get? n = some v := X _ _ (at_map (l := obs) (F := fun p => K.lookup p.1) (G := fun p => some p.2) (congrArg (fun z => z.2.2.2.2.2.1) e) i h)
theorem cl_top (X : K.In g) (e : seenK K = goodK) : Cl K g where
  X := X
  ga := k_f e 0 rfl
  sa := k_f e 1 rfl
  ini2 := k_f e 2 rfl
  gat := k_f e 3 rfl
  iter := k_f e 4 rfl
  len := k_f e 5 rfl
  ini := k_f e 6 rfl
  psh := k_f e 7 rfl
  rst := k_f e 8 rfl
  app := k_f e 9 rfl
  sit := k_f e 10 rfl
  len' := k_t e 0 rfl
  ini' := k_t e 1 rfl
  psh' := k_t e 2 rfl
  rst' := k_t e 3 rfl
  app' := k_t e 4 rfl
  cd := by
    obtain ⟨cd, h1, h2⟩ := Option.map_eq_some_iff.mp (congrArg (fun z => z.2.2.2.2.2.2.1) e)
    exact ⟨cd, h1, congrArg (fun z => z.1) h2, congrArg (fun z => z.2.1) h2, congrArg (fun z => z.2.2.1) h2, congrArg (fun z => z.2.2.2) h2⟩
  mk4 := by
    have h1 : (match K.lookup 167 with | some ⟨_, _, .cls _, sl⟩ => (sl.toList[4]?).join | _ => none) = some (.builtin "list.__new__") := congrArg (fun z => z.2.2.2.2.2.2.2.1) e
    split at h1
    · rename_i ho; exact ⟨_, _, _, _, ho, h1⟩
    · cases h1
  sub := congrArg (fun z => z.2.2.2.2.2.2.2.2.1.1) e
  typ' := congrArg (fun z => z.2.2.2.2.2.2.2.2.1.2.1) e
  call' := congrArg (fun z => z.2.2.2.2.2.2.2.2.1.2.2.1) e
  seqs := congrArg (fun z => z.2.2.2.2.2.2.2.2.2.1) e
theorem gl_top (X : K.In g) (e : seenK K = goodK) : Gl (gMap K mainGlobals) (gMap K builtinsNs) g where
  lim := noLimit_of_K X (congrArg (fun z => z.2.2.2.2.2.2.2.2.2.2.2.2.1) e) (congrArg (fun z => z.2.2.2.2.2.2.2.2.1.2.2.2.2) e)
  gs := ns_of_K X (congrArg (fun z => z.2.2.2.2.2.2.2.2.2.2.1) e)
  bs := ns_of_K X (congrArg (fun z => z.2.2.2.2.2.2.2.2.2.2.2.1) e)
  f28 := k_fn X e 0 rfl
  n28 := k_g e 0 rfl
  f35 := k_fn X e 1 rfl
  n35 := k_g e 1 rfl
  f42 := k_fn X e 2 rfl
  n42 := k_g e 2 rfl
  f49 := k_fn X e 3 rfl
  n49 := k_g e 3 rfl
  f56 := k_fn X e 4 rfl
  n56 := k_g e 4 rfl
  f63 := k_fn X e 5 rfl
  n63 := k_g e 5 rfl
  f70 := k_fn X e 6 rfl
  n70 := k_g e 6 rfl
  f77 := k_fn X e 7 rfl
  n77 := k_g e 7 rfl
  len0 := k_g e 8 rfl
  len1 := k_b e 0 rfl
  rev0 := k_g e 9 rfl
  rev1 := k_b e 1 rfl
  rng0 := k_g e 10 rfl
  rng1 := k_b e 2 rfl
theorem gw_top (X : K.In g) (e : seenK K = goodK) : Gw K (gMap K mainGlobals) (gMap K builtinsNs) g where
  toGl := gl_top X e
  toCl := cl_top X e
  f106 := k_fn X e 10 rfl
  f113 := k_fn X e 11 rfl
  f135 := k_fn X e 12 rfl
  f150 := k_fn X e 13 rfl
  f83 := k_fn X e 8 rfl
  f89 := k_fn X e 9 rfl
  n83 := k_g e 11 rfl
  n89 := k_g e 12 rfl
  n167 := k_g e 13 rfl
  sum0 := k_g e 14 rfl
  sum1 := k_b e 3 rfl
  itr0 := k_g e 16 rfl
  itr1 := k_b e 4 rfl
  obj0 := k_g e 17 rfl
  obj1 := k_b e 5 rfl
  min0 := k_g e 18 rfl
  min1 := k_b e 6 rfl
  max0 := k_g e 19 rfl
  max1 := k_b e 7 rfl
  srt0 := k_g e 20 rfl
  srt1 := k_b e 8 rfl
  zip0 := k_g e 21 rfl
  zip1 := k_b e 9 rfl
  sup0 := k_g e 22 rfl
  sup1 := k_b e 10 rfl
  bm := ⟨4, _, k_g e 15 rfl, by decide, k_o X e 0 rfl, rfl, rfl, rfl⟩
  cell93 := ⟨_, k_o X e 1 rfl, rfl⟩
  c105 := by
    have h1 : c105In K = true := congrArg (fun z => z.2.2.2.2.2.2.2.2.2.2.2.2.2.2.2) e
    unfold c105In at h1
    split at h1
    · rename_i o ho
      split at h1
      · rename_i vs hv
        split at h1
        · rename_i f tf hf
          exact ⟨o, vs, f, tf, X _ _ ho, hv, hf, h1⟩
        · cases h1
      · cases h1
    · cases h1
  third := congrArg (fun z => z.2.2.2.2.2.2.2.2.1.2.2.2.1) e
  d98 := ⟨_, _, _, k_o X e 2 rfl, rfl⟩
  d143 := ⟨_, _, k_o X e 3 rfl, rfl⟩
  d78 := ⟨_, _, k_o X e 4 rfl, rfl⟩
  d84 := ⟨_, _, k_o X e 5 rfl, rfl⟩
  c134 := by
    obtain ⟨o, vs, file, tf, flags, tg, inF, text, tt, h1, h2, h3, h4, h5, h6, h7, h8, h9, _⟩ := codeHd_of_K X (show codeHdIn K 134 130 = true from congrArg (fun z => z.2.2.2.2.2.2.2.2.2.2.2.2.2.1) e)
    exact ⟨o, vs, file, tf, flags, tg, inF, text, tt, h1, h2, h4, h3, h5, h6, h7, h8, h9⟩
end
noncomputable def ByTwo {α β : Type} (R : α → β → Prop) : List α → List β → Prop
  | [], [] => True
  | a :: l, b :: m => R a b ∧ ByTwo R l m
  | _, _ => False
theorem ByTwo.length {α β : Type} {R : α → β → Prop} : ∀ {l : List α} {m : List β}, ByTwo R l m → l.length = m.length
  | [], [], _ => rfl
  | _ :: l, _ :: m, h => by simp [ByTwo.length (l := l) (m := m) h.2]
  | [], _ :: _, h => h.elim
  | _ :: _, [], h => h.elim
theorem ByTwo.at {α β : Type} {R : α → β → Prop} : ∀ {l : List α} {m : List β}, ByTwo R l m → ∀ (i : Nat) a b, l[i]? = some a → m[i]? = some b → R a b
  | [], _, _, i, a, b, h1, _ => by simp at h1
  | _ :: _, [], _, i, a, b, _, h2 => by simp at h2
  | x :: l, y :: m, h, 0, a, b, h1, h2 => by simp at h1 h2; subst h1 h2; exact h.1
  | x :: l, y :: m, h, i + 1, a, b, h1, h2 => h.2.at i a b (by simpa using h1) (by simpa using h2)
section
variable {K : Frag} {g : Heap}
theorem k_pair (X : K.In g) (e : seenK K = goodK) (i : Nat) {B : Addr} {n : Int} {c : String} {t u : Tok} (h : obs[i]? = some (B, seqObj "tuple" [Value.int n t, Value.str (Str.ofString c) u].toArray 0)) : PairAt g (n, c) (.ref B) := ⟨B, t, u, rfl, 0, k_o X e i h⟩
theorem k_row (X : K.In g) (e : seenK K = goodK) (i : Nat) {R : Addr} {row : List (Int × String)} {bs : List Value} (h : obs[i]? = some (R, seqObj "tuple" bs.toArray 0)) (hb : ByTwo (fun b p => PairAt g p b) bs row) : RowAt g row (.ref R) := ⟨R, bs, rfl, ⟨0, k_o X e i h⟩, hb.length, hb.at⟩
theorem ftab_top (X : K.In g) (e : seenK K = goodK) : FtabAt g := by
  have key : ByTwo (fun r row => RowAt g row r) [.ref 186, .ref 188, .ref 190, .ref 194, .ref 196, .ref 198, .ref 202, .ref 204, .ref 206, .ref 210] ftab :=
    ⟨k_row X e 13 rfl ⟨k_pair X e 6 rfl, k_pair X e 7 rfl, k_pair X e 8 rfl, k_pair X e 9 rfl, k_pair X e 10 rfl, k_pair X e 11 rfl, k_pair X e 12 rfl, trivial⟩, k_row X e 15 rfl ⟨k_pair X e 14 rfl, trivial⟩, k_row X e 17 rfl ⟨k_pair X e 16 rfl, trivial⟩, k_row X e 21 rfl ⟨k_pair X e 18 rfl, k_pair X e 19 rfl, k_pair X e 20 rfl, trivial⟩, k_row X e 23 rfl ⟨k_pair X e 22 rfl, trivial⟩, k_row X e 25 rfl ⟨k_pair X e 24 rfl, trivial⟩, k_row X e 29 rfl ⟨k_pair X e 26 rfl, k_pair X e 27 rfl, k_pair X e 28 rfl, trivial⟩, k_row X e 31 rfl ⟨k_pair X e 30 rfl, trivial⟩, k_row X e 33 rfl ⟨k_pair X e 32 rfl, trivial⟩, k_row X e 37 rfl ⟨k_pair X e 34 rfl, k_pair X e 35 rfl, k_pair X e 36 rfl, trivial⟩, trivial⟩
  exact ⟨_, ⟨0, k_o X e 38 rfl⟩, key.length, key.at⟩
theorem gv_top (X : K.In g) (e : seenK K = goodK) : Gv K (gMap K mainGlobals) (gMap K builtinsNs) g where
  toGw := gw_top X e
  ftab := ftab_top X e
  f178 := k_fn X e 14 rfl
  f218 := k_fn X e 15 rfl
  f225 := k_fn X e 16 rfl
  f232 := k_fn X e 17 rfl
  f239 := k_fn X e 18 rfl
  f244 := k_fn X e 19 rfl
  f251 := k_fn X e 20 rfl
  f256 := k_fn X e 21 rfl
  f261 := k_fn X e 22 rfl
  n178 := k_g e 23 rfl
  n218 := k_g e 24 rfl
  n225 := k_g e 25 rfl
  n232 := k_g e 26 rfl
  n239 := k_g e 27 rfl
  n244 := k_g e 28 rfl
  n251 := k_g e 29 rfl
  n256 := k_g e 30 rfl
  n211 := k_g e 31 rfl
  enu0 := k_g e 32 rfl
  enu1 := k_b e 11 rfl
end
noncomputable def qv : Program := { prog with main := { prog.main with body := [stAt 45] } }
noncomputable def looseL : List Str := (prog.main.body.take 45).flatMap bindsAtTop
noncomputable def seenTop (s : Shared) := (seenK (kOf s.heap), s.heap.get? 130, s.heap.get? 246)
noncomputable def goodTop (_ : World) := (goodK, (some (tabObj #[]) : Option Obj), (some (tabObj #[]) : Option Obj))
theorem left_top : LeftO prog qv looseL (fun s => recOk [] s) seenTop goodTop 4000 := fun w => by kernel_rfl
theorem said : PySem.Challenge.rw_oc0234_01.wellSaid = true := by kernel_rfl
theorem promised : PySem.Challenge.rw_oc0234_01.row.toRowW.promised := ⟨[.list [.int 3, .int 1]], by decide +kernel, by decide +kernel⟩
theorem table_at {K : Frag} {g h : Heap} (X : K.In g) (k : Keeps g h) {c P : Addr} (e : codeHdIn K c P = true) (hP : h.get? P = some (tabObj #[])) : h.TableAt c P #[] := by
  obtain ⟨o, vs, file, tf, flags, tg, inF, text, tt, h1, h2, h3, h4, _⟩ := codeHd_of_K X e
  exact ⟨⟨o, vs, k _ _ h1, h2, h3, h4⟩, hP⟩
theorem ns_uniq {h : Heap} {a : Addr} {m m' : Str → Option Value} (x : h.Ns a m) (y : h.Ns a m') (n : Str) : m n = m' n := by
  obtain ⟨o, es, ep, e1, e2, _, e3⟩ := x
  obtain ⟨o', es', ep', f1, f2, _, f3⟩ := y
  rw [e1] at f1
  cases f1
  rw [e2] at f2
  cases f2
  rw [← e3, ← f3]
theorem oldK_end {h h' : Heap} {ob : Obj} {cs : Array Value} (kb : KeepsBut [130, 246] h h') (t1 : h.TableAt 134 130 #[]) (t2 : h.TableAt 250 246 #[]) (h1 : h'.get? 130 = some ob) (hT : Tab ob) (h2 : h'.get? 246 = some (tabObj cs)) : OldK h h' := by
  obtain ⟨ps, rfl, _⟩ := hT
  refine ⟨fun b o e => ?_, fun b o e => ?_⟩
  · by_cases hb1 : b = 130
    · subst hb1
      rw [t1.2] at e
      cases e
      exact .inr (.inl ⟨t1.isCodeTable, rfl, #[], ps, rfl, by rw [h1]; simp⟩)
    · by_cases hb2 : b = 246
      · subst hb2
        rw [t2.2] at e
        cases e
        exact .inr (.inl ⟨t2.isCodeTable, rfl, #[], cs, rfl, by rw [h2]; simp⟩)
      · exact .inl (kb b o (by simp; exact ⟨hb1, hb2⟩) e)
  · by_cases hb1 : b = 130
    · exact ⟨_, hb1 ▸ h1⟩
    · by_cases hb2 : b = 246
      · exact ⟨_, hb2 ▸ h2⟩
      · exact ⟨o, kb b o (by simp; exact ⟨hb1, hb2⟩) e⟩
theorem good_end {args : List WData} {mean : ExcName → Option Value} {cl : Str → Option Addr} {s1 s' : Shared} (hK : OldK s1.heap s'.heap) (ho : s'.os = s1.os) (hg : AllBare s'.gens) :
    GoodWG PySem.Challenge.rw_oc0234_01.row.claim cl mean args s1 (.ok (.ret (.bool true))) s' :=
  ⟨.inl ⟨.bool true, .bool true, [], rfl, fun _ => rfl, .bool true, by kernel_rfl, fun _ => ⟨List.nodup_nil, by simp⟩⟩, hK, ho, hg⟩
theorem law_walk {w : World} {s0 s1 : Shared} {mg : Str → Option Value} {args : List WData} {mean : ExcName → Option Value} {cl : Str → Option Addr} {E : Value → Shared → Prop} {fa ws : Addr} {vs : List Value} {nz : List Int} (hm : s1.heap.Ns mainGlobals mg) (hmg : mg (Str.ofString "law") = some (.ref fa)) (Y : seenTop s0 = goodTop w) (kp : Keeps s0.heap s1.heap)
    (hg : s1.gens = #[]) (hsc : s1.heap.IsList ws vs.toArray) (hI : IntsAre vs nz) (hz : vs.length ≤ 63) :
    wpAny (model prog w) callerA (call (.ref fa) [.ref ws]) (fun v s' => GoodWG PySem.Challenge.rw_oc0234_01.row.claim cl mean args s1 (.ok (.ret v)) s') E s1 := by
  have e : seenK (kOf s0.heap) = goodK := congrArg (fun z => z.1) Y
  have h130 := kp _ _ (show s0.heap.get? 130 = some (tabObj #[]) from congrArg (fun z => z.2.1) Y)
  have h246 := kp _ _ (show s0.heap.get? 246 = some (tabObj #[]) from congrArg (fun z => z.2.2) Y)
  have X := kOf_in kp
  have kh : Keeps (hideAll s1.heap [130, 246]) s1.heap := fun b o q => of_hideAll _ q
  have G := gv_top X e
  have hf : fa = 261 := by
    rw [ns_uniq hm (G.gs.keeps kh), k_g e 33 rfl] at hmg
    cases hmg; rfl
  subst hf
  have c1 : codeHdIn (kOf s0.heap) 134 130 = true := congrArg (fun z => z.1.2.2.2.2.2.2.2.2.2.2.2.2.2.1) Y
  have c2 : codeHdIn (kOf s0.heap) 250 246 = true := congrArg (fun z => z.1.2.2.2.2.2.2.2.2.2.2.2.2.2.2.1) Y
  refine law_ok ⟨G, codeHd_of_K X c2⟩ kh (hideAll_none _ (.head _)) (hideAll_none _ (.tail _ (.head _))) h130 ⟨#[], rfl, trivial⟩ h246 ⟨trivial, .inl rfl⟩ rfl (by decide +kernel) (by decide +kernel) (by rw [hg]; exact AllBare.empty) hsc hI hz ?_
  intro ob' cs' s' kb h1 hT' h2 ho hgb
  exact good_end (oldK_end kb (table_at X kh c1 h130) (table_at X kh c2 h246) h1 hT' h2) ho hgb
theorem row_holds (k1 : PySem.Challenge.rw_oc0234_01.row.wellSaid = true) : PySem.Challenge.rw_oc0234_01.row.Holds := by
  refine holds_openX (q := qv) (loose := looseL) (Xt := fun s => recOk [] s) (XP := fun _ _ => True) (Yf := seenTop) (Ya := goodTop) (N := 4000) left_top (fun _ _ => trivial) (fun _ _ _ _ _ => trivial) (by rfl) (by rfl) (by rfl) (fun s e => recFacts_of e) (by rfl) k1 (by decide +kernel) ⟨rfl, rfl, rfl, rfl, rfl, by decide +kernel⟩ promised ?_
  intro w s0 s1 mg mb G Y fa o pm cd doc dV kV ho hd hcd hD hmg hg args vals as L hpre hlay hrd hwl hlo
  have hgs := G.T.g
  have kp : Keeps s0.heap s1.heap := Laid.keeps L
  clear hd hD hcd ho G
  wrow_args hpre hlay hrd hwl hlo
  rename IntsAre _ _ => hI
  rename Heap.IsList _ _ _ => hL
  have hln := hI.length
  refine law_walk hgs hmg Y kp hg hL hI ?_
  omega

end Mine
theorem PySem.Challenge.cw_oc0234_01_holds : PySem.Challenge.rw_oc0234_01.Holds :=
  holds_law Mine.said Mine.row_holds
