import PyProof.Rows.All
import Wide.All
import OpenK.AllK
import Wide.FinOn
import Lean
import PySem.Challenge.RW_tc0039_02

open PySem PySem.W PyProof.Rows PySem.Calls PySem.Spec
set_option Elab.async false
set_option maxRecDepth 100000
set_option linter.unusedVariables false
set_option linter.unusedSectionVars false
set_option bootstrap.genMatcherCode false
set_option genSizeOf false
set_option genInjectivity false
local macro_rules
  | `(tactic| omega) => `(tactic| lia)
namespace Internal
end Internal
namespace Internal
theorem msp {α : Type u} {a b : α} (h : a ∈ [b]) : a = b := List.mem_singleton.mp h
theorem mcp {α : Type u} {a b : α} {l : List α} (h : a ∈ b :: l) : a = b ∨ a ∈ l := List.mem_cons.mp h
theorem mct {α : Type u} (b : α) {a : α} {l : List α} (h : a ∈ l) : a ∈ b :: l := List.mem_cons_of_mem _ h
theorem mch {α : Type u} {a : α} {l : List α} : a ∈ a :: l := List.mem_cons_self
theorem soi {α : Type u} {a b : α} (h : some a = some b) : a = b := Option.some.inj h
theorem bap {a b : Bool} (h : (a && b) = true) : a = true ∧ b = true := Bool.and_eq_true_iff.mp h
theorem bqp {α : Type u} [BEq α] [LawfulBEq α] {a b : α} (h : (a == b) = true) : a = b := beq_iff_eq.mp h
theorem map2 {α : Type u} {a : α} {l r : List α} (h : a ∈ l ++ r) : a ∈ l ∨ a ∈ r := List.mem_append.mp h
theorem latp {α : Type u} {p : α → Bool} {l : List α} (h : l.all p = true) : ∀ x ∈ l, p x = true := List.all_eq_true.mp h
theorem mmp {α : Type u} {β : Type v} {f : α → β} {l : List α} {b : β} (h : b ∈ l.map f) : ∃ a, a ∈ l ∧ f a = b := List.mem_map.mp h
end Internal
namespace Internal
theorem ff {P:Prop} (h:false=true):P:=Bool.noConfusion h
theorem nn {α:Type} {x:α} {P:Prop} (h:(none:Option α)=some x):P:=Option.noConfusion rfl (heq_of_eq h)
section
variable {α:Type}
noncomputable def zcd (l:List α) (k:α→List α→Bool):Bool:=match l with | x::r=>k x r | []=>false
@[elab_as_elim] theorem onCons_elim {l:List α} {k:α→List α→Bool} {P:List α→Prop} (h:zcd l k=true) (q:∀ x r,k x r=true→P (x::r)):P l:=by
 cases l with
 | nil=>exact ff h
 | cons x r=>exact q x r h
noncomputable def zcz (l:List α) (k:Bool):Bool:=match l with | []=>k | _::_=>false
@[elab_as_elim] theorem onNil_elim {l:List α} {k:Bool} {P:List α→Prop} (h:zcz l k=true) (q:k=true→P []):P l:=by
 cases l with
 | nil=>exact q h
 | cons x r=>exact ff h
noncomputable def zij (l:Option α) (k:Bool):Bool:=match l with | none=>k | some _=>false
@[elab_as_elim] theorem onNone_elim {l:Option α} {k:Bool} {P:Option α→Prop} (h:zij l k=true) (q:k=true→P none):P l:=by
 cases l with
 | none=>exact q h
 | some x=>exact ff h
noncomputable def zna (l:Option α) (k:α→Bool):Bool:=match l with | some x=>k x | none=>false
@[elab_as_elim] theorem onSome_elim {l:Option α} {k:α→Bool} {P:Option α→Prop} (h:zna l k=true) (q:∀ x,k x=true→P (some x)):P l:=by
 cases l with
 | none=>exact ff h
 | some x=>exact q x h
noncomputable def onEq {β:Type} [DecidableEq β] (a b:β) (k:Bool):Bool:=if a=b then k else false
@[elab_as_elim] theorem onEq_elim {β:Type} [DecidableEq β] {a b:β} {k:Bool} {P:β→Prop} (h:onEq a b k=true) (q:k=true→P b):P a:=by
 unfold onEq at h
 by_cases e:a=b
 ·rw [if_pos e] at h;exact e▸q h
 ·rw [if_neg e] at h;exact ff h
noncomputable def zvv (l:Const) (k:Str→Bool):Bool:=match l with | .str x=>k x | _=>false
@[elab_as_elim] theorem onCStr_elim {l:Const} {k:Str→Bool} {P:Const→Prop} (h:zvv l k=true) (q:∀ x,k x=true→P (.str x)):P l:=by
 cases l with
 | str x=>exact q x h
 | _=>exact ff h
theorem ysv {p:Prop} (h:false=true):p:=Bool.noConfusion h
end
theorem dt {c:Prop} [Decidable c] {f:c→Bool} (h:(if x:c then f x else false)=true):∃ x:c,f x=true:=by
 by_cases x:c
 ·exact ⟨x,by rw [dif_pos x] at h;exact h⟩
 ·rw [dif_neg x] at h;exact ysv h
noncomputable def zcl (e:Expr) (k:Str→Pos→Bool):Bool:=if h:e.ctorIdx=23 then Expr.Name.elim (motive_1:=fun _=>Bool) e h k else false
@[elab_as_elim] theorem onName_elim {e:Expr} {k:Str→Pos→Bool} {P:Expr→Prop} (h:zcl e k=true) (q:∀ x0 x1,k x0 x1=true→P (.Name x0 x1)):P e :=
 let ⟨x,hx⟩:=dt h
 Expr.Name.elim (motive_1:=fun e=>∀ x:e.ctorIdx=23,Expr.Name.elim (motive_1:=fun _=>Bool) e x k=true→P e) e x (fun x0 x1 _ hk=>q x0 x1 hk) x hx
noncomputable def zee (e:Expr) (k:Const→Nat→Pos→Bool):Bool:=if h:e.ctorIdx=19 then Expr.Constant.elim (motive_1:=fun _=>Bool) e h k else false
@[elab_as_elim] theorem onConstant_elim {e:Expr} {k:Const→Nat→Pos→Bool} {P:Expr→Prop} (h:zee e k=true) (q:∀ x0 x1 x2,k x0 x1 x2=true→P (.Constant x0 x1 x2)):P e :=
 let ⟨x,hx⟩:=dt h
 Expr.Constant.elim (motive_1:=fun e=>∀ x:e.ctorIdx=19,Expr.Constant.elim (motive_1:=fun _=>Bool) e x k=true→P e) e x (fun x0 x1 x2 _ hk=>q x0 x1 x2 hk) x hx
noncomputable def ztb (e:Expr) (k:Expr→Operator→Expr→Pos→Bool):Bool:=if h:e.ctorIdx=2 then Expr.BinOp.elim (motive_1:=fun _=>Bool) e h k else false
@[elab_as_elim] theorem onBinOp_elim {e:Expr} {k:Expr→Operator→Expr→Pos→Bool} {P:Expr→Prop} (h:ztb e k=true) (q:∀ x0 x1 x2 x3,k x0 x1 x2 x3=true→P (.BinOp x0 x1 x2 x3)):P e :=
 let ⟨x,hx⟩:=dt h
 Expr.BinOp.elim (motive_1:=fun e=>∀ x:e.ctorIdx=2,Expr.BinOp.elim (motive_1:=fun _=>Bool) e x k=true→P e) e x (fun x0 x1 x2 x3 _ hk=>q x0 x1 x2 x3 hk) x hx
noncomputable def zik (e:Expr) (k:UnaryOp→Expr→Pos→Bool):Bool:=if h:e.ctorIdx=3 then Expr.UnaryOp.elim (motive_1:=fun _=>Bool) e h k else false
@[elab_as_elim] theorem onUnaryOp_elim {e:Expr} {k:UnaryOp→Expr→Pos→Bool} {P:Expr→Prop} (h:zik e k=true) (q:∀ x0 x1 x2,k x0 x1 x2=true→P (.UnaryOp x0 x1 x2)):P e :=
 let ⟨x,hx⟩:=dt h
 Expr.UnaryOp.elim (motive_1:=fun e=>∀ x:e.ctorIdx=3,Expr.UnaryOp.elim (motive_1:=fun _=>Bool) e x k=true→P e) e x (fun x0 x1 x2 _ hk=>q x0 x1 x2 hk) x hx
noncomputable def zqv (e:Expr) (k:Expr→(List CmpOp)→(List Expr)→Pos→Bool):Bool:=if h:e.ctorIdx=15 then Expr.Compare.elim (motive_1:=fun _=>Bool) e h k else false
@[elab_as_elim] theorem onCompare_elim {e:Expr} {k:Expr→(List CmpOp)→(List Expr)→Pos→Bool} {P:Expr→Prop} (h:zqv e k=true) (q:∀ x0 x1 x2 x3,k x0 x1 x2 x3=true→P (.Compare x0 x1 x2 x3)):P e :=
 let ⟨x,hx⟩:=dt h
 Expr.Compare.elim (motive_1:=fun e=>∀ x:e.ctorIdx=15,Expr.Compare.elim (motive_1:=fun _=>Bool) e x k=true→P e) e x (fun x0 x1 x2 x3 _ hk=>q x0 x1 x2 x3 hk) x hx
noncomputable def zvu (e:Expr) (k:BoolOp→(List Expr)→Pos→Bool):Bool:=if h:e.ctorIdx=0 then Expr.BoolOp.elim (motive_1:=fun _=>Bool) e h k else false
@[elab_as_elim] theorem onBoolOp_elim {e:Expr} {k:BoolOp→(List Expr)→Pos→Bool} {P:Expr→Prop} (h:zvu e k=true) (q:∀ x0 x1 x2,k x0 x1 x2=true→P (.BoolOp x0 x1 x2)):P e :=
 let ⟨x,hx⟩:=dt h
 Expr.BoolOp.elim (motive_1:=fun e=>∀ x:e.ctorIdx=0,Expr.BoolOp.elim (motive_1:=fun _=>Bool) e x k=true→P e) e x (fun x0 x1 x2 _ hk=>q x0 x1 x2 hk) x hx
noncomputable def ztd (e:Expr) (k:Expr→Expr→Expr→Pos→Bool):Bool:=if h:e.ctorIdx=5 then Expr.IfExp.elim (motive_1:=fun _=>Bool) e h k else false
@[elab_as_elim] theorem onIfExp_elim {e:Expr} {k:Expr→Expr→Expr→Pos→Bool} {P:Expr→Prop} (h:ztd e k=true) (q:∀ x0 x1 x2 x3,k x0 x1 x2 x3=true→P (.IfExp x0 x1 x2 x3)):P e :=
 let ⟨x,hx⟩:=dt h
 Expr.IfExp.elim (motive_1:=fun e=>∀ x:e.ctorIdx=5,Expr.IfExp.elim (motive_1:=fun _=>Bool) e x k=true→P e) e x (fun x0 x1 x2 x3 _ hk=>q x0 x1 x2 x3 hk) x hx
noncomputable def ycl (e:Expr) (k:(List Expr)→Pos→Bool):Bool:=if h:e.ctorIdx=24 then Expr.List.elim (motive_1:=fun _=>Bool) e h k else false
@[elab_as_elim] theorem onList_elim {e:Expr} {k:(List Expr)→Pos→Bool} {P:Expr→Prop} (h:ycl e k=true) (q:∀ x0 x1,k x0 x1=true→P (.List x0 x1)):P e :=
 let ⟨x,hx⟩:=dt h
 Expr.List.elim (motive_1:=fun e=>∀ x:e.ctorIdx=24,Expr.List.elim (motive_1:=fun _=>Bool) e x k=true→P e) e x (fun x0 x1 _ hk=>q x0 x1 hk) x hx
noncomputable def zfv (e:Expr) (k:(List Expr)→Nat→Pos→Bool):Bool:=if h:e.ctorIdx=25 then Expr.Tuple.elim (motive_1:=fun _=>Bool) e h k else false
@[elab_as_elim] theorem onTuple_elim {e:Expr} {k:(List Expr)→Nat→Pos→Bool} {P:Expr→Prop} (h:zfv e k=true) (q:∀ x0 x1 x2,k x0 x1 x2=true→P (.Tuple x0 x1 x2)):P e :=
 let ⟨x,hx⟩:=dt h
 Expr.Tuple.elim (motive_1:=fun e=>∀ x:e.ctorIdx=25,Expr.Tuple.elim (motive_1:=fun _=>Bool) e x k=true→P e) e x (fun x0 x1 x2 _ hk=>q x0 x1 x2 hk) x hx
noncomputable def ykd (e:Expr) (k:(List (Option Expr))→(List Expr)→Pos→Bool):Bool:=if h:e.ctorIdx=6 then Expr.Dict.elim (motive_1:=fun _=>Bool) e h k else false
@[elab_as_elim] theorem onDict_elim {e:Expr} {k:(List (Option Expr))→(List Expr)→Pos→Bool} {P:Expr→Prop} (h:ykd e k=true) (q:∀ x0 x1 x2,k x0 x1 x2=true→P (.Dict x0 x1 x2)):P e :=
 let ⟨x,hx⟩:=dt h
 Expr.Dict.elim (motive_1:=fun e=>∀ x:e.ctorIdx=6,Expr.Dict.elim (motive_1:=fun _=>Bool) e x k=true→P e) e x (fun x0 x1 x2 _ hk=>q x0 x1 x2 hk) x hx
noncomputable def zjc (e:Expr) (k:Expr→(List Comprehension)→Scope→Pos→Bool):Bool:=if h:e.ctorIdx=8 then Expr.ListComp.elim (motive_1:=fun _=>Bool) e h k else false
@[elab_as_elim] theorem onListComp_elim {e:Expr} {k:Expr→(List Comprehension)→Scope→Pos→Bool} {P:Expr→Prop} (h:zjc e k=true) (q:∀ x0 x1 x2 x3,k x0 x1 x2 x3=true→P (.ListComp x0 x1 x2 x3)):P e :=
 let ⟨x,hx⟩:=dt h
 Expr.ListComp.elim (motive_1:=fun e=>∀ x:e.ctorIdx=8,Expr.ListComp.elim (motive_1:=fun _=>Bool) e x k=true→P e) e x (fun x0 x1 x2 x3 _ hk=>q x0 x1 x2 x3 hk) x hx
noncomputable def zmz (e:Expr) (k:Expr→Expr→(List Comprehension)→Scope→Pos→Bool):Bool:=if h:e.ctorIdx=10 then Expr.DictComp.elim (motive_1:=fun _=>Bool) e h k else false
@[elab_as_elim] theorem onDictComp_elim {e:Expr} {k:Expr→Expr→(List Comprehension)→Scope→Pos→Bool} {P:Expr→Prop} (h:zmz e k=true) (q:∀ x0 x1 x2 x3 x4,k x0 x1 x2 x3 x4=true→P (.DictComp x0 x1 x2 x3 x4)):P e :=
 let ⟨x,hx⟩:=dt h
 Expr.DictComp.elim (motive_1:=fun e=>∀ x:e.ctorIdx=10,Expr.DictComp.elim (motive_1:=fun _=>Bool) e x k=true→P e) e x (fun x0 x1 x2 x3 x4 _ hk=>q x0 x1 x2 x3 x4 hk) x hx
noncomputable def zvw (e:Expr) (k:Expr→(List Expr)→(List Keyword)→Pos→Bool):Bool:=if h:e.ctorIdx=16 then Expr.Call.elim (motive_1:=fun _=>Bool) e h k else false
@[elab_as_elim] theorem onCall_elim {e:Expr} {k:Expr→(List Expr)→(List Keyword)→Pos→Bool} {P:Expr→Prop} (h:zvw e k=true) (q:∀ x0 x1 x2 x3,k x0 x1 x2 x3=true→P (.Call x0 x1 x2 x3)):P e :=
 let ⟨x,hx⟩:=dt h
 Expr.Call.elim (motive_1:=fun e=>∀ x:e.ctorIdx=16,Expr.Call.elim (motive_1:=fun _=>Bool) e x k=true→P e) e x (fun x0 x1 x2 x3 _ hk=>q x0 x1 x2 x3 hk) x hx
noncomputable def zlq (e:Expr) (k:Expr→Str→Pos→Bool):Bool:=if h:e.ctorIdx=20 then Expr.Attribute.elim (motive_1:=fun _=>Bool) e h k else false
@[elab_as_elim] theorem onAttribute_elim {e:Expr} {k:Expr→Str→Pos→Bool} {P:Expr→Prop} (h:zlq e k=true) (q:∀ x0 x1 x2,k x0 x1 x2=true→P (.Attribute x0 x1 x2)):P e :=
 let ⟨x,hx⟩:=dt h
 Expr.Attribute.elim (motive_1:=fun e=>∀ x:e.ctorIdx=20,Expr.Attribute.elim (motive_1:=fun _=>Bool) e x k=true→P e) e x (fun x0 x1 x2 _ hk=>q x0 x1 x2 hk) x hx
noncomputable def zdn (e:Expr) (k:Expr→Expr→Pos→Bool):Bool:=if h:e.ctorIdx=21 then Expr.Subscript.elim (motive_1:=fun _=>Bool) e h k else false
@[elab_as_elim] theorem onSubscript_elim {e:Expr} {k:Expr→Expr→Pos→Bool} {P:Expr→Prop} (h:zdn e k=true) (q:∀ x0 x1 x2,k x0 x1 x2=true→P (.Subscript x0 x1 x2)):P e :=
 let ⟨x,hx⟩:=dt h
 Expr.Subscript.elim (motive_1:=fun e=>∀ x:e.ctorIdx=21,Expr.Subscript.elim (motive_1:=fun _=>Bool) e x k=true→P e) e x (fun x0 x1 x2 _ hk=>q x0 x1 x2 hk) x hx
noncomputable def ztf (e:Expr) (k:(Option Expr)→(Option Expr)→(Option Expr)→Pos→Bool):Bool:=if h:e.ctorIdx=26 then Expr.Slice.elim (motive_1:=fun _=>Bool) e h k else false
@[elab_as_elim] theorem onSlice_elim {e:Expr} {k:(Option Expr)→(Option Expr)→(Option Expr)→Pos→Bool} {P:Expr→Prop} (h:ztf e k=true) (q:∀ x0 x1 x2 x3,k x0 x1 x2 x3=true→P (.Slice x0 x1 x2 x3)):P e :=
 let ⟨x,hx⟩:=dt h
 Expr.Slice.elim (motive_1:=fun e=>∀ x:e.ctorIdx=26,Expr.Slice.elim (motive_1:=fun _=>Bool) e x k=true→P e) e x (fun x0 x1 x2 x3 _ hk=>q x0 x1 x2 x3 hk) x hx
noncomputable def ymx (e:Stmt) (k:Expr→(List Stmt)→(List Stmt)→Pos→Bool):Bool:=if h:e.ctorIdx=12 then Stmt.If.elim (motive_2:=fun _=>Bool) e h k else false
@[elab_as_elim] theorem onSIf_elim {e:Stmt} {k:Expr→(List Stmt)→(List Stmt)→Pos→Bool} {P:Stmt→Prop} (h:ymx e k=true) (q:∀ x0 x1 x2 x3,k x0 x1 x2 x3=true→P (.If x0 x1 x2 x3)):P e :=
 let ⟨x,hx⟩:=dt h
 Stmt.If.elim (motive_2:=fun e=>∀ x:e.ctorIdx=12,Stmt.If.elim (motive_2:=fun _=>Bool) e x k=true→P e) e x (fun x0 x1 x2 x3 _ hk=>q x0 x1 x2 x3 hk) x hx
noncomputable def zqz (e:Stmt) (k:(List Expr)→Expr→Pos→Bool):Bool:=if h:e.ctorIdx=5 then Stmt.Assign.elim (motive_2:=fun _=>Bool) e h k else false
@[elab_as_elim] theorem onSAssign_elim {e:Stmt} {k:(List Expr)→Expr→Pos→Bool} {P:Stmt→Prop} (h:zqz e k=true) (q:∀ x0 x1 x2,k x0 x1 x2=true→P (.Assign x0 x1 x2)):P e :=
 let ⟨x,hx⟩:=dt h
 Stmt.Assign.elim (motive_2:=fun e=>∀ x:e.ctorIdx=5,Stmt.Assign.elim (motive_2:=fun _=>Bool) e x k=true→P e) e x (fun x0 x1 x2 _ hk=>q x0 x1 x2 hk) x hx
noncomputable def zgp (e:Stmt) (k:(Option Expr)→Pos→Bool):Bool:=if h:e.ctorIdx=3 then Stmt.Return.elim (motive_2:=fun _=>Bool) e h k else false
@[elab_as_elim] theorem onSReturn_elim {e:Stmt} {k:(Option Expr)→Pos→Bool} {P:Stmt→Prop} (h:zgp e k=true) (q:∀ x0 x1,k x0 x1=true→P (.Return x0 x1)):P e :=
 let ⟨x,hx⟩:=dt h
 Stmt.Return.elim (motive_2:=fun e=>∀ x:e.ctorIdx=3,Stmt.Return.elim (motive_2:=fun _=>Bool) e x k=true→P e) e x (fun x0 x1 _ hk=>q x0 x1 hk) x hx
noncomputable def zte (e:Stmt) (k:Expr→Pos→Bool):Bool:=if h:e.ctorIdx=24 then Stmt.Expr.elim (motive_2:=fun _=>Bool) e h k else false
@[elab_as_elim] theorem onSExpr_elim {e:Stmt} {k:Expr→Pos→Bool} {P:Stmt→Prop} (h:zte e k=true) (q:∀ x0 x1,k x0 x1=true→P (.Expr x0 x1)):P e :=
 let ⟨x,hx⟩:=dt h
 Stmt.Expr.elim (motive_2:=fun e=>∀ x:e.ctorIdx=24,Stmt.Expr.elim (motive_2:=fun _=>Bool) e x k=true→P e) e x (fun x0 x1 _ hk=>q x0 x1 hk) x hx
noncomputable def zew (e:Stmt) (k:Str→Arguments→(List Stmt)→(List Expr)→(Option Expr)→(List TypeParam)→Scope→(Option Scope)→Str→Pos→Bool):Bool:=if h:e.ctorIdx=0 then Stmt.FunctionDef.elim (motive_2:=fun _=>Bool) e h k else false
@[elab_as_elim] theorem onSFunctionDef_elim {e:Stmt} {k:Str→Arguments→(List Stmt)→(List Expr)→(Option Expr)→(List TypeParam)→Scope→(Option Scope)→Str→Pos→Bool} {P:Stmt→Prop} (h:zew e k=true) (q:∀ x0 x1 x2 x3 x4 x5 x6 x7 x8 x9,k x0 x1 x2 x3 x4 x5 x6 x7 x8 x9=true→P (.FunctionDef x0 x1 x2 x3 x4 x5 x6 x7 x8 x9)):P e :=
 let ⟨x,hx⟩:=dt h
 Stmt.FunctionDef.elim (motive_2:=fun e=>∀ x:e.ctorIdx=0,Stmt.FunctionDef.elim (motive_2:=fun _=>Bool) e x k=true→P e) e x (fun x0 x1 x2 x3 x4 x5 x6 x7 x8 x9 _ hk=>q x0 x1 x2 x3 x4 x5 x6 x7 x8 x9 hk) x hx
noncomputable def ykg (e:Stmt) (k:(List Stmt)→(List ExceptHandler)→(List Stmt)→(List Stmt)→Pos→Bool):Bool:=if h:e.ctorIdx=17 then Stmt.Try.elim (motive_2:=fun _=>Bool) e h k else false
@[elab_as_elim] theorem onSTry_elim {e:Stmt} {k:(List Stmt)→(List ExceptHandler)→(List Stmt)→(List Stmt)→Pos→Bool} {P:Stmt→Prop} (h:ykg e k=true) (q:∀ x0 x1 x2 x3 x4,k x0 x1 x2 x3 x4=true→P (.Try x0 x1 x2 x3 x4)):P e :=
 let ⟨x,hx⟩:=dt h
 Stmt.Try.elim (motive_2:=fun e=>∀ x:e.ctorIdx=17,Stmt.Try.elim (motive_2:=fun _=>Bool) e x k=true→P e) e x (fun x0 x1 x2 x3 x4 _ hk=>q x0 x1 x2 x3 x4 hk) x hx
noncomputable def zjq (e:Stmt) (k:Expr→Operator→Expr→Pos→Bool):Bool:=if h:e.ctorIdx=7 then Stmt.AugAssign.elim (motive_2:=fun _=>Bool) e h k else false
@[elab_as_elim] theorem onSAugAssign_elim {e:Stmt} {k:Expr→Operator→Expr→Pos→Bool} {P:Stmt→Prop} (h:zjq e k=true) (q:∀ x0 x1 x2 x3,k x0 x1 x2 x3=true→P (.AugAssign x0 x1 x2 x3)):P e :=
 let ⟨x,hx⟩:=dt h
 Stmt.AugAssign.elim (motive_2:=fun e=>∀ x:e.ctorIdx=7,Stmt.AugAssign.elim (motive_2:=fun _=>Bool) e x k=true→P e) e x (fun x0 x1 x2 x3 _ hk=>q x0 x1 x2 x3 hk) x hx
noncomputable def ykf (e:Stmt) (k:Expr→Expr→(List Stmt)→(List Stmt)→Pos→Bool):Bool:=if h:e.ctorIdx=9 then Stmt.For.elim (motive_2:=fun _=>Bool) e h k else false
@[elab_as_elim] theorem onSFor_elim {e:Stmt} {k:Expr→Expr→(List Stmt)→(List Stmt)→Pos→Bool} {P:Stmt→Prop} (h:ykf e k=true) (q:∀ x0 x1 x2 x3 x4,k x0 x1 x2 x3 x4=true→P (.For x0 x1 x2 x3 x4)):P e :=
 let ⟨x,hx⟩:=dt h
 Stmt.For.elim (motive_2:=fun e=>∀ x:e.ctorIdx=9,Stmt.For.elim (motive_2:=fun _=>Bool) e x k=true→P e) e x (fun x0 x1 x2 x3 x4 _ hk=>q x0 x1 x2 x3 x4 hk) x hx
noncomputable def zqy (e:Stmt) (k:Expr→(Option Expr)→Pos→Bool):Bool:=if h:e.ctorIdx=19 then Stmt.Assert.elim (motive_2:=fun _=>Bool) e h k else false
@[elab_as_elim] theorem onSAssert_elim {e:Stmt} {k:Expr→(Option Expr)→Pos→Bool} {P:Stmt→Prop} (h:zqy e k=true) (q:∀ x0 x1 x2,k x0 x1 x2=true→P (.Assert x0 x1 x2)):P e :=
 let ⟨x,hx⟩:=dt h
 Stmt.Assert.elim (motive_2:=fun e=>∀ x:e.ctorIdx=19,Stmt.Assert.elim (motive_2:=fun _=>Bool) e x k=true→P e) e x (fun x0 x1 x2 _ hk=>q x0 x1 x2 hk) x hx
noncomputable def zra (e:Stmt) (k:(List Expr)→Pos→Bool):Bool:=if h:e.ctorIdx=4 then Stmt.Delete.elim (motive_2:=fun _=>Bool) e h k else false
@[elab_as_elim] theorem onSDelete_elim {e:Stmt} {k:(List Expr)→Pos→Bool} {P:Stmt→Prop} (h:zra e k=true) (q:∀ x0 x1,k x0 x1=true→P (.Delete x0 x1)):P e :=
 let ⟨x,hx⟩:=dt h
 Stmt.Delete.elim (motive_2:=fun e=>∀ x:e.ctorIdx=4,Stmt.Delete.elim (motive_2:=fun _=>Bool) e x k=true→P e) e x (fun x0 x1 _ hk=>q x0 x1 hk) x hx
end Internal
namespace Internal
noncomputable abbrev D:=PyData
mutual
noncomputable def sok:PyData→Bool
 | .none | .bool _ | .int _=>true
 | .str x=>PyData.strOk x&&decide (x.length≤16777216)
 | .list xs | .tuple xs=>decide (xs.length≤16777216)&&sokAll xs
 | .dict kvs=>zyh kvs
noncomputable def sokAll:List PyData→Bool
 | []=>true
 | x::xs=>sok x&&sokAll xs
noncomputable def zyh:List (PyData × PyData)→Bool
 | []=>true
 | (k,v)::r=>sok k&&sok v&&zyh r
end
mutual
noncomputable def zbm:PyData→Bool
 | .list xs=>zaw xs
 | .tuple _=>false
 | .dict kvs=>zoo kvs
 | _=>true
noncomputable def zaw:List PyData→Bool
 | []=>true
 | x::xs=>zbm x&&zaw xs
noncomputable def zoo:List (PyData × PyData)→Bool
 | []=>true
 | (k,v)::r=>zbm k&&zbm v&&zoo r
end
theorem sokAll_iff:∀ {xs:List PyData},sokAll xs=true↔∀ x∈xs,sok x=true
 | []=>by simp [sokAll]
 | x::xs=>by simp [sokAll,sokAll_iff]
noncomputable def yol (w:World) (a:Addr) (o:Obj) (es:Array DictEntry):Prop :=
 (a==sysModules)=false∧o.ExactDict∧(∀ e∈es.toList,∃ x t,e.key=.str x t∧e.hash=hashStr w x)∧es.toList.Pairwise fun e f=>∀ x t u,e.key=.str x t→f.key≠.str x u
noncomputable def HashAt (w:World) (h:Heap) (a:Addr):Prop:=∀ o,h.get? a=some o→o.dict=none∧∀ es n,o.data=.dict es n→yol w a o es
noncomputable def VRep (w:World) (O:List Addr) (h:Heap) (v:Value) (d:D):Prop:=∃ as,Reads h v d as∧(∀ a∈as,a∉O∧HashAt w h a)∧sok d=true
noncomputable def VReps (w:World) (O:List Addr) (h:Heap) (vs:List Value) (ds:List D):Prop:=∃ as,ReadsAll h vs ds as∧(∀ a∈as,a∉O∧HashAt w h a)∧sokAll ds=true
noncomputable def zhj (o:Obj):Prop:=o.cls≠.none∨∀ vs,o.data≠.fields vs
noncomputable def Keep (h h':Heap):Prop:=∀ b o,h.get? b=some o→zhj o→h'.get? b=some o
theorem Keep.refl (h:Heap):Keep h h:=fun _ _ e _=>e
theorem Keep.trans {h h' h'':Heap} (k:Keep h h') (k':Keep h' h''):Keep h h'':=fun b o e c=>k' b o (k b o e c) c
theorem Keep.of {h h':Heap} (k:∀ b o,h.get? b=some o→h'.get? b=some o):Keep h h':=fun b o e _=>k b o e
noncomputable def Mut (o:Obj):Prop:=(∀ xs n,o.cls=.type "tuple" → o.data≠.seq xs n)∧(∀ vs,(o.cls=.type "code" ∨ o.cls=.none)→o.data≠.fields vs)
noncomputable def KeepBut (W:List Addr) (h h':Heap):Prop:=∀ b o,b∉W→h.get? b=some o→zhj o→h'.get? b=some o
theorem KeepBut.of_keep {W:List Addr} {h h':Heap} (k:Keep h h'):KeepBut W h h':=fun b o _ e c=>k b o e c
theorem KeepBut.mono {W W':List Addr} {h h':Heap} (k:KeepBut W h h') (q:∀ a∈W,a∈W'):KeepBut W' h h':=fun b o m e c=>k b o (fun n=>m (q b n)) e c
theorem KeepBut.trans {W:List Addr} {h h' h'':Heap} (k:KeepBut W h h') (k':KeepBut W h' h''):KeepBut W h h'':=fun b o m e c=>k' b o m (k b o m e c) c
noncomputable def LD (o:Obj):Prop:=o.cls=.type "list" ∨ o.cls=.type "dict"
noncomputable def zcc (O W:List Addr) (h:Heap):Prop:=∀ a∈W,∀ o,h.get? a=some o→Mut o∧(LD o→a∈O)
theorem zlv {h h':Heap} {O W:List Addr} (hk:KeepBut W h h') (hn:zcc O W h) {v:Value} {d:PyData} {as:List Addr} (r:Reads h v d as):(∀ a∈as,a∉O)→Reads h' v d as :=
 Reads.rec (motive_1:=fun v d as _=>(∀ a∈as,a∉O)→Reads h' v d as) (motive_2:=fun vs ds as _=>(∀ a∈as,a∉O)→ReadsAll h' vs ds as)
  (fun _=>.none) (fun b _=>.bool b) (fun i t _=>.int i t) (fun x t _=>.str x t)
  (fun h1 h2 h3 _ ih q=>.list (hk _ _ (fun m=>q _ mch ((hn _ m _ h1).2 (.inl h2))) h1 (.inl (by rw [h2];nofun))) h2 h3 (ih fun a m=>q a (mct _ m)))
  (fun h1 h2 h3 _ ih q=>.tuple (hk _ _ (fun m=>(hn _ m _ h1).1.1 _ _ h2 h3) h1 (.inl (by rw [h2];nofun))) h2 h3 (ih q))
  (fun h1 h2 h3 _ _ ih1 ih2 q=>.dict (hk _ _ (fun m=>q _ mch ((hn _ m _ h1).2 (.inr h2))) h1 (.inl (by rw [h2];nofun))) h2 h3 (ih1 fun a m=>q a (mct _ (List.mem_append_left _ m))) (ih2 fun a m=>q a (mct _ (List.mem_append_right _ m))))
  (fun _=>.nil) (fun _ _ ih1 ih2 q=>.cons (ih1 fun a m=>q a (List.mem_append_left _ m)) (ih2 fun a m=>q a (List.mem_append_right _ m))) r
theorem zjr {h h':Heap} {O W:List Addr} (hk:KeepBut W h h') (hn:zcc O W h) {vs:List Value} {ds:List PyData} {as:List Addr} (r:ReadsAll h vs ds as):(∀ a∈as,a∉O)→ReadsAll h' vs ds as :=
 ReadsAll.rec (motive_1:=fun _ _ _ _=>True) (motive_2:=fun vs ds as _=>(∀ a∈as,a∉O)→ReadsAll h' vs ds as)
  trivial (fun _=>trivial) (fun _ _=>trivial) (fun _ _=>trivial) (fun _ _ _ _ _=>trivial) (fun _ _ _ _ _=>trivial) (fun _ _ _ _ _ _ _=>trivial)
  (fun _=>.nil) (fun r1 _ _ ih2 q=>.cons (zlv hk hn r1 fun a m=>q a (List.mem_append_left _ m)) (ih2 fun a m=>q a (List.mem_append_right _ m))) r
theorem zxy {h h':Heap} (hk:Keep h h') {v:Value} {d:PyData} {as:List Addr} (r:Reads h v d as):Reads h' v d as:=zlv (O:=[]) (W:=[]) (fun b o _ e c=>hk b o e c) (fun _ m=>nomatch m) r fun _ _ m=>nomatch m
theorem zor {h h':Heap} (hk:Keep h h') {vs:List Value} {ds:List PyData} {as:List Addr} (r:ReadsAll h vs ds as):ReadsAll h' vs ds as:=zjr (O:=[]) (W:=[]) (fun b o _ e c=>hk b o e c) (fun _ m=>nomatch m) r fun _ _ m=>nomatch m
theorem zcp {h:Heap} {v:Value} {d:PyData} {as:List Addr} (r:Reads h v d as):∀ a∈as,∃ o,h.get? a=some o∧(o.cls=.type "list" ∨ o.cls=.type "dict") :=
 Reads.rec (motive_1:=fun _ _ as _=>∀ a∈as,∃ o,h.get? a=some o∧(o.cls=.type "list" ∨ o.cls=.type "dict")) (motive_2:=fun _ _ as _=>∀ a∈as,∃ o,h.get? a=some o∧(o.cls=.type "list" ∨ o.cls=.type "dict"))
  (fun _ m=>nomatch m) (fun _ _ m=>nomatch m) (fun _ _ _ m=>nomatch m) (fun _ _ _ m=>nomatch m)
  (fun h1 h2 _ _ ih a q=>(mcp q).elim (fun e=>⟨_,e▸h1, .inl h2⟩) (ih a))
  (fun _ _ _ _ ih=>ih)
  (fun h1 h2 _ _ _ ih1 ih2 a q=>(mcp q).elim (fun e=>⟨_,e▸h1, .inr h2⟩) fun q=>(map2 q).elim (ih1 a) (ih2 a))
  (fun _ m=>nomatch m) (fun _ _ ih1 ih2 a q=>(map2 q).elim (ih1 a) (ih2 a)) r
theorem zcg {h:Heap} {vs:List Value} {ds:List PyData} {as:List Addr} (r:ReadsAll h vs ds as):∀ a∈as,∃ o,h.get? a=some o∧(o.cls=.type "list" ∨ o.cls=.type "dict") :=
 ReadsAll.rec (motive_1:=fun _ _ _ _=>True) (motive_2:=fun _ _ as _=>∀ a∈as,∃ o,h.get? a=some o∧(o.cls=.type "list" ∨ o.cls=.type "dict"))
  trivial (fun _=>trivial) (fun _ _=>trivial) (fun _ _=>trivial) (fun _ _ _ _ _=>trivial) (fun _ _ _ _ _=>trivial) (fun _ _ _ _ _ _ _=>trivial)
  (fun _ m=>nomatch m) (fun r1 _ _ ih2 a q=>(map2 q).elim (zcp r1 a) (ih2 a)) r
theorem HashAt.same {w:World} {h h':Heap} {a:Addr} (x:HashAt w h a) (e:∀ o,h.get? a=some o→h'.get? a=some o) (t:∃ o,h.get? a=some o):HashAt w h' a:=fun o q=>by
 obtain ⟨o',e'⟩:=t
 have:=e o' e'
 rw [q] at this;obtain rfl:=soi this
 exact x o e'
theorem zio {o:Obj} (c:o.cls=.type "list" ∨ o.cls=.type "dict"):zhj o:=.inl (by rcases c with c | c <;> (rw [c];nofun))
section
variable {w:World} {O O':List Addr} {h h':Heap} {v:Value} {d:D} {vs ws:List Value} {ds es:List D} {a:Addr}
theorem VRep.keep (r:VRep w O h v d) (k:Keep h h'):VRep w O h' v d :=
 let ⟨as,x,y,z⟩:=r;⟨as,zxy k x,fun a m=>⟨(y a m).1,(y a m).2.same (fun o e=>let ⟨o',e',c⟩:=zcp x a m;by rw [e] at e';obtain rfl:=soi e';exact k a o e (zio c)) (let ⟨o,e,_⟩:=zcp x a m;⟨o,e⟩)⟩,z⟩
theorem VReps.keep (r:VReps w O h vs ds) (k:Keep h h'):VReps w O h' vs ds :=
 let ⟨as,x,y,z⟩:=r;⟨as,zor k x,fun a m=>⟨(y a m).1,(y a m).2.same (fun o e=>let ⟨o',e',c⟩:=zcg x a m;by rw [e] at e';obtain rfl:=soi e';exact k a o e (zio c)) (let ⟨o,e,_⟩:=zcg x a m;⟨o,e⟩)⟩,z⟩
theorem VRep.sub (r:VRep w O h v d) (k:∀ a∈O',a∈O):VRep w O' h v d:=let ⟨as,x,y,z⟩:=r;⟨as,x,fun a m=>⟨fun q=>(y a m).1 (k a q),(y a m).2⟩,z⟩
theorem VReps.sub (r:VReps w O h vs ds) (k:∀ a∈O',a∈O):VReps w O' h vs ds:=let ⟨as,x,y,z⟩:=r;⟨as,x,fun a m=>⟨fun q=>(y a m).1 (k a q),(y a m).2⟩,z⟩
theorem VRep.new (r:VRep w O h v d) (k:h.get? a=none):VRep w (a::O) h v d :=
 let ⟨as,x,y,z⟩:=r
 ⟨as,x,fun b m=>⟨fun q=>(mcp q).elim (fun e=>by obtain ⟨o,e',_⟩:=zcp x b m;rw [e,k] at e';exact nn e') (y b m).1,(y b m).2⟩,z⟩
theorem VReps.new (r:VReps w O h vs ds) (k:h.get? a=none):VReps w (a::O) h vs ds :=
 let ⟨as,x,y,z⟩:=r
 ⟨as,x,fun b m=>⟨fun q=>(mcp q).elim (fun e=>by obtain ⟨o,e',_⟩:=zcg x b m;rw [e,k] at e';exact nn e') (y b m).1,(y b m).2⟩,z⟩
theorem VRep.but {W:List Addr} (r:VRep w O h v d) (hk:KeepBut W h h') (hn:zcc O W h):VRep w O h' v d :=
 let ⟨as,x,y,z⟩:=r
 ⟨as,zlv hk hn x fun a m=>(y a m).1,fun b m=>⟨(y b m).1,(y b m).2.same (fun o e=>let ⟨o',e',c⟩:=zcp x b m;by rw [e] at e';obtain rfl:=soi e';exact hk b o (fun q=>(y b m).1 ((hn b q o e).2 c)) e (zio c)) (let ⟨o,e,_⟩:=zcp x b m;⟨o,e⟩)⟩,z⟩
theorem VReps.but {W:List Addr} (r:VReps w O h vs ds) (hk:KeepBut W h h') (hn:zcc O W h):VReps w O h' vs ds :=
 let ⟨as,x,y,z⟩:=r
 ⟨as,zjr hk hn x fun a m=>(y a m).1,fun b m=>⟨(y b m).1,(y b m).2.same (fun o e=>let ⟨o',e',c⟩:=zcg x b m;by rw [e] at e';obtain rfl:=soi e';exact hk b o (fun q=>(y b m).1 ((hn b q o e).2 c)) e (zio c)) (let ⟨o,e,_⟩:=zcg x b m;⟨o,e⟩)⟩,z⟩
theorem VRep.sok (r:VRep w O h v d):Internal.sok d=true:=let ⟨_,_,_,z⟩:=r;z
theorem VReps.sok (r:VReps w O h vs ds):Internal.sokAll ds=true:=let ⟨_,_,_,z⟩:=r;z
theorem VRep.none:VRep w O h .none .none:=⟨[], .none,by simp,rfl⟩
theorem VRep.bool {b:Bool}:VRep w O h (.bool b) (.bool b):=⟨[], .bool b,by simp,rfl⟩
theorem VRep.int {i:Int} {t:Tok}:VRep w O h (.int i t) (.int i):=⟨[], .int i t,by simp,rfl⟩
theorem VRep.str {x:Str} {t:Tok} (hx:Internal.sok (.str x)=true):VRep w O h (.str x t) (.str x):=⟨[], .str x t,by simp,hx⟩
theorem VReps.nil:VReps w O h [] []:=⟨[], .nil,by simp,rfl⟩
theorem VReps.cons (r:VRep w O h v d) (rs:VReps w O h vs ds):VReps w O h (v::vs) (d::ds) :=
 let ⟨as,x,y,z⟩:=r;let ⟨bs,x',y',z'⟩:=rs;⟨as++bs, .cons x x',fun a m=>(map2 m).elim (y a) (y' a),by simp [sokAll,z,z']⟩
theorem VReps.head (r:VReps w O h (v::vs) (d::ds)):VRep w O h v d:=by
 obtain ⟨as,x,y,z⟩:=r;cases x with
 | cons x x'=>exact ⟨_,x,fun a m=>y a (List.mem_append_left _ m),by simp [sokAll] at z;exact z.1⟩
theorem VReps.tail (r:VReps w O h (v::vs) (d::ds)):VReps w O h vs ds:=by
 obtain ⟨as,x,y,z⟩:=r;cases x with
 | cons x x'=>exact ⟨_,x',fun a m=>y a (List.mem_append_right _ m),by simp [sokAll] at z;exact z.2⟩
theorem VReps.nil_inv (r:VReps w O h vs []):vs=[]:=by obtain ⟨as,x,_⟩:=r;cases x;rfl
theorem VReps.cons_inv (r:VReps w O h vs (d::ds)):∃ u us,vs=u::us∧VRep w O h u d∧VReps w O h us ds:=by
 obtain ⟨as,x,_⟩:=id r
 cases x with
 | cons x x'=>exact ⟨_,_,rfl,r.head,r.tail⟩
end
section
variable {w:World} {O:List Addr} {h:Heap}
theorem VReps.length:∀ {ds:List D} {vs:List Value},VReps w O h vs ds→vs.length=ds.length
 | [],_,r=>by rw [r.nil_inv];rfl
 | _::_,_,r=>by obtain ⟨u,us,rfl,_,r'⟩:=r.cons_inv;rw [List.length_cons,List.length_cons,r'.length]
theorem VReps.append:∀ {ds:List D} {vs ws:List Value} {es:List D},VReps w O h vs ds→VReps w O h ws es→VReps w O h (vs++ws) (ds++es)
 | [],_,_,_,r,r'=>by rw [r.nil_inv];exact r'
 | _::_,_,_,_,r,r'=>by obtain ⟨u,us,rfl,q,r''⟩:=r.cons_inv;exact .cons q (r''.append r')
theorem VReps.get:∀ {ds:List D} {vs:List Value},VReps w O h vs ds→∀ (i:Nat) (d:D),ds[i]?=some d→∃ v,vs[i]?=some v∧VRep w O h v d
 | [],_,_,i,d,e=>by simp at e
 | _::_,_,r,0,d,e=>by obtain ⟨u,us,rfl,q,_⟩:=r.cons_inv;simp at e;subst e;exact ⟨u,rfl,q⟩
 | _::_,_,r,i+1,d,e=>by obtain ⟨u,us,rfl,_,r'⟩:=r.cons_inv;simpa using r'.get i d (by simpa using e)
theorem VReps.of_get:∀ {ds:List D} {vs:List Value},vs.length=ds.length→(∀ (i:Nat) (v:Value) (d:D),vs[i]?=some v→ds[i]?=some d→VRep w O h v d)→VReps w O h vs ds
 | [],[],_,_=>.nil
 | _::_,[],e,_=>by simp at e
 | [],_::_,e,_=>by simp at e
 | d::ds,v::vs,e,k=>.cons (k 0 v d rfl rfl) (VReps.of_get (by simpa using e) fun i u c h1 h2=>k (i+1) u c (by simpa using h1) (by simpa using h2))
end
section
variable {w:World} {O:List Addr} {h:Heap} {v:Value} {a:Addr} {vs:Array Value} {xs:List D}
noncomputable def Bare (h:Heap) (a:Addr):Prop:=∀ o,h.get? a=some o→o.dict=none
theorem zsr (l:h.IsList a vs) (pl:Bare h a):HashAt w h a:=fun o e=>⟨pl o e,fun es n q=>by obtain ⟨o',e',_,m,q'⟩:=l;rw [e] at e';obtain rfl:=soi e';rw [q] at q';cases q'⟩
theorem VRep.list_bare {a:Addr} (r:VRep w O h (.ref a) (.list xs)):Bare h a:=by
 obtain ⟨as,x,y,z⟩:=r
 cases x with
 | list h1 h2 h3 h4=>exact fun o e=>((y a mch).2 o e).1
theorem zjz {h:Heap} {o:Obj} (hf:o.isFreed=false) (hd:o.dict=none):Bare (h.push o) h.objs.size:=fun o' e=>by
 rw [Heap.get?_push_size _ hf] at e;obtain rfl:=soi e;exact hd
theorem VRep.list_inv (r:VRep w O h v (.list xs)):∃ a vs,v=.ref a∧a∉O∧h.IsList a vs∧VReps w O h vs.toList xs:=by
 obtain ⟨as,x,y,z⟩:=r
 obtain ⟨a,vs,bs,e,l,z',rfl⟩:=isList_of_reads x
 have z2:(decide (xs.length≤16777216)&&sokAll xs)=true:=z
 exact ⟨a,vs,e,(y a mch).1,l,bs,z',fun b m=>y b (mct _ m),(bap z2).2⟩
theorem VRep.list_len (r:VRep w O h v (.list xs)):xs.length≤16777216:=by
 have z2:(decide (xs.length≤16777216)&&sokAll xs)=true:=r.sok
 exact of_decide_eq_true (bap z2).1
theorem VRep.tuple_len (r:VRep w O h v (.tuple xs)):xs.length≤16777216:=by
 have z2:(decide (xs.length≤16777216)&&sokAll xs)=true:=r.sok
 exact of_decide_eq_true (bap z2).1
theorem VRep.list_of (hl:xs.length≤16777216) (ha:a∉O) (l:h.IsList a vs) (pl:Bare h a) (r:VReps w O h vs.toList xs):VRep w O h (.ref a) (.list xs):=by
 obtain ⟨o,ho,hc,n,hd⟩:=id l
 obtain ⟨bs,z,u,y⟩:=r
 exact ⟨a::bs,reads_list_at ho hc hd z,fun b m=>(mcp m).elim (fun e=>e▸⟨ha,zsr l pl⟩) (u b),Bool.and_eq_true_iff.mpr ⟨decide_eq_true hl,y⟩⟩
theorem VRep.tuple_inv (r:VRep w O h v (.tuple xs)):∃ a vs,v=.ref a∧IsTup h a vs∧VReps w O h vs.toList xs:=by
 obtain ⟨as,x,y,z⟩:=r
 obtain ⟨a,l,e,t,z'⟩:=reads_tuple_items x
 have z2:(decide (xs.length≤16777216)&&sokAll xs)=true:=z
 exact ⟨a,l.toArray,e,t,as,by simpa using z',y,(bap z2).2⟩
theorem VRep.tuple_of (hl:xs.length≤16777216) (l:IsTup h a vs) (r:VReps w O h vs.toList xs):VRep w O h (.ref a) (.tuple xs):=by
 obtain ⟨o,ho,hc,n,hd⟩:=l
 obtain ⟨bs,z,u,y⟩:=r
 exact ⟨bs,reads_tuple_at ho hc hd z,u,Bool.and_eq_true_iff.mpr ⟨decide_eq_true hl,y⟩⟩
theorem VRep.int_inv {i:Int} (r:VRep w O h v (.int i)):∃ t,v=.int i t:=let ⟨_,x,_⟩:=r;let ⟨t,e,_⟩:=reads_int_inv x;⟨t,e⟩
theorem VRep.bool_inv {b:Bool} (r:VRep w O h v (.bool b)):v=.bool b:=let ⟨_,x,_⟩:=r;(reads_bool_inv x).1
theorem VRep.none_inv (r:VRep w O h v .none):v=.none:=let ⟨_,x,_⟩:=r;(reads_none_inv x).1
theorem VRep.str_inv {x:Str} (r:VRep w O h v (.str x)):∃ t,v=.str x t:=let ⟨_,x,_⟩:=r;let ⟨t,e,_⟩:=reads_str_inv x;⟨t,e⟩
end
end Internal
namespace Internal
structure Tab where
 c:Addr
 P:Addr
 pos:Pos
 qual:Str
structure GC where
 prog:Program
 w:World
 h₀:Heap
 mg:Str→Option Value
 mb:Str→Option Value
 tabs:List Tab
 names:List Str
noncomputable def CodeIs (h:Heap) (c:Addr) (q:Str):Prop:=∃ o vs t,h.get? c=some o∧o.cls=.type "code" ∧ o.data=.fields vs∧vs[1]?=some (.str q t)
theorem CodeIs.rec' {h:Heap} {c:Addr} {q:Str} (x:CodeIs h c q):h.CodeRec (.ref c) q:=let ⟨o,vs,t,a,_,b,d⟩:=x;⟨c,o,vs,t,rfl,a,b,d⟩
noncomputable def TabOK (h:Heap) (t:Tab):Prop :=
 CodeHd h t.c t.P∧∃ ps,h.get? t.P=some (tabObj ps)∧TriplesOk ps.toList ∧
  (codeAmong t.pos ps.toList=none∨∃ c',codeAmong t.pos ps.toList=some (.ref c')∧CodeIs h c' t.qual)
noncomputable def MemoOK (tabs:List Tab) (h:Heap):Prop:=∀ t∈tabs,TabOK h t
noncomputable def yom (h h':Heap):Prop:=∀ b o vs,h.get? b=some o→(o.cls=.type "code" ∨ o.cls=.none)→o.data=.fields vs→h'.get? b=some o
theorem TabOK.keep {h h':Heap} {t:Tab} (x:TabOK h t) (k:yom h h'):TabOK h' t:=by
 obtain ⟨⟨o,vs,file,tf,flags,tg,inF,text,tt,e,ec,r⟩,ps,e1,e2,e3⟩:=x
 refine ⟨⟨o,vs,file,tf,flags,tg,inF,text,tt,k _ _ _ e (.inl ec) r.1,ec,r⟩,ps,k _ _ _ e1 (.inr rfl) rfl,e2, ?_⟩
 rcases e3 with e3 | ⟨c',e3,o',vs',t',a,b,d⟩
 ·exact .inl e3
 ·exact .inr ⟨c',e3,o',vs',t',k _ _ _ a (.inl b) d.1,b,d⟩
theorem MemoOK.keep {tabs:List Tab} {h h':Heap} (x:MemoOK tabs h) (k:yom h h'):MemoOK tabs h':=fun t ht=>(x t ht).keep k
structure Base (G:GC) (h:Heap):Prop where
 keep:∀ b o,G.h₀.get? b=some o→h.get? b=some o
 memo:MemoOK G.tabs h
theorem Base.all {G:GC} {h h':Heap} (B:Base G h) (k:∀ b o,h.get? b=some o→h'.get? b=some o):Base G h' :=
 ⟨fun b o e=>k b o (B.keep b o e),B.memo.keep fun b o _ e _ _=>k b o e⟩
theorem Base.but {G:GC} {h h':Heap} {W:List Addr} (B:Base G h) (k:∀ b o,b∉W→h.get? b=some o→h'.get? b=some o) (hn:∀ a∈W,G.h₀.get? a=none)
  (hc:∀ a∈W,∀ o,h.get? a=some o→Mut o):Base G h' :=
 ⟨fun b o e=>k b o (fun q=>by rw [hn b q] at e;exact nn e) (B.keep b o e),B.memo.keep fun b o vs e q f=>k b o (fun r=>(hc b r o e).2 vs q f) e⟩
structure Ext (G:GC) (s s':Shared):Prop where
 same:∃ h tk,s'={ s with heap:=h,toks:=tk }
 keep:Keep s.heap s'.heap
 base:Base G s'.heap
 pos:0<s'.toks
 back:∀ b,s'.heap.get? b=none→s.heap.get? b=none
theorem zby {h h':Heap} {b:Addr} (k:∀ o,h.get? b=some o→h'.get? b=some o) (e:h'.get? b=none):h.get? b=none:=by
 cases q:h.get? b with
 | none=>rfl
 | some o=>rw [k o q] at e;cases e
theorem Ext.refl {G:GC} {s:Shared} (B:Base G s.heap) (p:0<s.toks):Ext G s s:=⟨⟨_,_,rfl⟩, .refl _,B,p,fun _ e=>e⟩
theorem Ext.trans {G:GC} {s s' s'':Shared} (x:Ext G s s') (y:Ext G s' s''):Ext G s s'' :=
 ⟨by obtain ⟨h,t,rfl⟩:=x.same;obtain ⟨h',t',rfl⟩:=y.same;exact ⟨h',t',rfl⟩,x.keep.trans y.keep,y.base,y.pos,fun b e=>x.back b (y.back b e)⟩
theorem Ext.tok {G:GC} {s s':Shared} (x:Ext G s s') {t:Nat} (p:0<t):Ext G s { s' with toks:=t } :=
 ⟨by obtain ⟨h,t',rfl⟩:=x.same;exact ⟨h,t,rfl⟩,x.keep,x.base,p,x.back⟩
theorem Ext.all {G:GC} {s:Shared} {h':Heap} {t:Nat} (B:Base G s.heap) (k:∀ b o,s.heap.get? b=some o→h'.get? b=some o) (p:0<t):Ext G s { s with heap:=h',toks:=t } :=
 ⟨⟨_,_,rfl⟩, .of k,B.all k,p,fun b e=>zby (k b) e⟩
noncomputable def OVal (O:List Addr) (h:Heap):Prop:=∀ a∈O,∃ o,h.get? a=some o∧zhj o
theorem OVal.keep {O:List Addr} {h h':Heap} (x:OVal O h) (k:Keep h h'):OVal O h':=fun a m=>let ⟨o,e,q⟩:=x a m;⟨o,k a o e q,q⟩
theorem OVal.new {O:List Addr} {h:Heap} (x:OVal O h) {a:Addr} (e:h.get? a=none):a∉O:=fun m=>by obtain ⟨o,q,_⟩:=x a m;rw [e] at q;exact nn q
theorem zak (h:Heap):h.get? h.objs.size=none:=by
 cases e:h.get? h.objs.size with
 | none=>rfl
 | some o=>exact absurd (Heap.lt_size e) (Nat.lt_irrefl _)
noncomputable abbrev mdl (G:GC):Model:=model G.prog G.w
noncomputable def Sat (G:GC) (A:Around) (O:List Addr) (t:Sem Value) (s:Shared) (d:D):Prop :=
 ∀ (Q:Value→Shared→Prop) (E:Value→Shared→Prop),(∀ v s',Ext G s s'→VRep G.w O s'.heap v d→Q v s')→wpAny (mdl G) A t Q E s
noncomputable def SatL (G:GC) (A:Around) (O:List Addr) (t:Sem (List Value)) (s:Shared) (ds:List D):Prop :=
 ∀ (Q:List Value→Shared→Prop) (E:Value→Shared→Prop),(∀ vs s',Ext G s s'→VReps G.w O s'.heap vs ds→Q vs s')→wpAny (mdl G) A t Q E s
noncomputable def SatB (G:GC) (A:Around) (t:Sem Bool) (s:Shared) (b:Bool):Prop :=
 ∀ (Q:Bool→Shared→Prop) (E:Value→Shared→Prop),(∀ s',Ext G s s'→Q b s')→wpAny (mdl G) A t Q E s
noncomputable abbrev Rho:=List (Nat × D)
noncomputable def Rho.get (ρ:Rho) (n:Nat):Option D:=List.lookup n ρ
noncomputable def Rho.set:Rho→Nat→D→Rho
 | [],n,d=>[(n,d)]
 | (m,e)::r,n,d=>if m=n then (n,d)::r else (m,e)::Rho.set r n d
theorem Rho.get_cons (p:Nat × D) (r:Rho) (m:Nat):Rho.get (p::r) m=if m=p.1 then some p.2 else Rho.get r m:=by
 obtain ⟨k,e⟩:=p
 show List.lookup m ((k,e)::r)=_
 rw [List.lookup_cons]
 by_cases h:m=k
 ·subst h;simp
 ·have hb:(m==k)=false:=beq_eq_false_iff_ne.mpr h
  rw [hb,if_neg h];rfl
theorem Rho.get_set (ρ:Rho) (n m:Nat) (d:D):(Rho.set ρ n d).get m=if m=n then some d else ρ.get m:=by
 induction ρ with
 | nil=>exact Rho.get_cons (n,d) [] m
 | cons p r ih =>
  obtain ⟨k,e⟩:=p
  unfold Rho.set
  by_cases hk:k=n
  ·subst hk
   rw [if_pos rfl,Rho.get_cons,Rho.get_cons]
   by_cases h:m=k
   ·simp [h]
   ·simp [h]
  ·rw [if_neg hk,Rho.get_cons,Rho.get_cons,ih]
   by_cases h:m=k
   ·subst h
    simp [hk]
   ·simp [h]
structure Own where
 ns:List Nat
 at':Nat→Option Addr
noncomputable def OwnRep (w:World) (oa:Option Addr) (O:List Addr) (h:Heap) (v:Value) (d:D):Prop:=∃ a vs xs,oa=some a∧v=.ref a∧a∈O∧d=.list xs∧xs.length≤16777216∧h.PlainList a vs∧VReps w O h vs.toList xs
noncomputable def SRep (w:World) (own:Own) (n:Nat) (O:List Addr) (h:Heap) (v:Value) (d:D):Prop:=if n∈own.ns then OwnRep w (own.at' n) O h v d else VRep w O h v d
theorem zsw {h h':Heap} {a:Addr} {vs:Array Value} (l:h.IsList a vs) (k:Keep h h'):h'.IsList a vs:=let ⟨o,e,c,r⟩:=l;⟨o,k a o e (.inl (by rw [c];nofun)),c,r⟩
theorem zbd {h h':Heap} {a:Addr} {vs:Array Value} (l:h.PlainList a vs) (k:Keep h h'):h'.PlainList a vs:=let ⟨n,e⟩:=l;⟨n,k a _ e (.inl nofun)⟩
theorem OwnRep.keep {w:World} {oa:Option Addr} {O:List Addr} {h h':Heap} {v:Value} {d:D} (x:OwnRep w oa O h v d) (k:Keep h h'):OwnRep w oa O h' v d:=by
 obtain ⟨a,vs,xs,y,e,m,q,z,l,r⟩:=x;exact ⟨a,vs,xs,y,e,m,q,z,zbd l k,r.keep k⟩
theorem SRep.keep {w:World} {own:Own} {n:Nat} {O:List Addr} {h h':Heap} {v:Value} {d:D} (x:SRep w own n O h v d) (k:Keep h h'):SRep w own n O h' v d:=by
 unfold SRep at *;split at x
 ·rename_i q;rw [if_pos q];exact x.keep k
 ·rename_i q;rw [if_neg q];exact x.keep k
theorem ymu {h h':Heap} {a:Addr} {m:Str→Option Value} (hn:h.Ns a m) (k:Keep h h'):h'.Ns a m :=
 let ⟨o,es,ep,e,d,r⟩:=hn;⟨o,es,ep,k _ _ e (.inr fun vs q=>by rw [d] at q;cases q),d,r⟩
theorem zeg {h h':Heap} {c:Addr} {v:Option Value} (x:h.IsCell c v) (k:Keep h h'):h'.IsCell c v :=
 let ⟨o,e,d⟩:=x;⟨o,k _ _ e (.inr fun vs q=>by rw [d] at q;cases q),d⟩
structure EnvR (G:GC) (env:Env) (own:Own) (O:List Addr) (ρ:Rho) (h:Heap):Prop where
 fn:env.scope.kind=.function
 gl:env.globals=mainGlobals
 bi:env.builtins=builtinsNs
 lin:env.locals∈O
 lfr:G.h₀.get? env.locals=none
 oin:∀ n a,own.at' n=some a→a∈O
 cin:∀ x c,env.cells.lookup x=some c→c∈O∧G.h₀.get? c=none
 inj:∀ x y c,env.cells.lookup x=some c→env.cells.lookup y=some c→x=y
 ce:∀ x,(env.kindOf x=some .cell∨env.kindOf x=some .free)→∃ c v,env.cells.lookup x=some c∧h.IsCell c v
 ns:∃ m,h.Ns env.locals m∧∀ n x d,G.names[n]?=some x→env.kindOf x=some .local→ρ.get n=some d→∃ v,m x=some v∧SRep G.w own n O h v d
 cl:∀ n x d,G.names[n]?=some x→(env.kindOf x=some .cell∨env.kindOf x=some .free)→ρ.get n=some d→∃ c v,env.cells.lookup x=some c∧h.IsCell c (some v)∧SRep G.w own n O h v d
theorem EnvR.keep {G:GC} {env:Env} {own:Own} {O:List Addr} {ρ:Rho} {h h':Heap} (x:EnvR G env own O ρ h) (k:Keep h h'):EnvR G env own O ρ h' where
 fn:=x.fn
 gl:=x.gl
 bi:=x.bi
 lin:=x.lin
 lfr:=x.lfr
 oin:=x.oin
 cin:=x.cin
 inj:=x.inj
 ce:=fun y hy=>let ⟨c,v,e,q⟩:=x.ce y hy;⟨c,v,e,zeg q k⟩
 ns:=let ⟨m,a,b⟩:=x.ns;⟨m,ymu a k,fun n y d h1 h2 h3=>let ⟨v,e,r⟩:=b n y d h1 h2 h3;⟨v,e,r.keep k⟩⟩
 cl:=fun n y d h1 h2 h3=>let ⟨c,v,e,q,r⟩:=x.cl n y d h1 h2 h3;⟨c,v,e,zeg q k,r.keep k⟩
noncomputable def bltNames:List Str:=["len", "sum", "max", "min", "int", "ord", "chr", "divmod", "isinstance", "range", "enumerate", "zip", "reversed", "list", "sorted", "set", "bool"]
theorem KeepBut.ns {W:List Addr} {h h':Heap} {a:Addr} {m:Str→Option Value} (k:KeepBut W h h') (q:a∉W) (hn:h.Ns a m):h'.Ns a m :=
 let ⟨o,es,ep,e,d,r⟩:=hn;⟨o,es,ep,k _ _ q e (.inr fun vs q=>by rw [d] at q;cases q),d,r⟩
theorem KeepBut.cell {W:List Addr} {h h':Heap} {c:Addr} {v:Option Value} (k:KeepBut W h h') (q:c∉W) (x:h.IsCell c v):h'.IsCell c v :=
 let ⟨o,e,d⟩:=x;⟨o,k _ _ q e (.inr fun vs q=>by rw [d] at q;cases q),d⟩
theorem KeepBut.plain {W:List Addr} {h h':Heap} {a:Addr} {vs:Array Value} (k:KeepBut W h h') (q:a∉W) (l:h.PlainList a vs):h'.PlainList a vs:=let ⟨n,e⟩:=l;⟨n,k a _ q e (.inl nofun)⟩
theorem SRep.but {w:World} {own:Own} {n:Nat} {O W:List Addr} {h h':Heap} {v:Value} {d:D} (x:SRep w own n O h v d) (k:KeepBut W h h') (hn:zcc O W h) (ho:∀ a vs,own.at' n=some a→h.PlainList a vs→a∉W):SRep w own n O h' v d:=by
 unfold SRep at *;split at x
 ·rename_i q;rw [if_pos q]
  obtain ⟨a,vs,xs,y,e,m,q,z,l,r⟩:=x
  exact ⟨a,vs,xs,y,e,m,q,z,k.plain (ho a _ y l) l,r.but k hn⟩
 ·rename_i q;rw [if_neg q];exact VRep.but x k hn
theorem EnvR.but {G:GC} {env:Env} {own:Own} {O W:List Addr} {ρ:Rho} {h h':Heap} (x:EnvR G env own O ρ h) (k:KeepBut W h h') (hn:zcc O W h) (hl:env.locals∉W) (hc:∀ y c,env.cells.lookup y=some c→c∉W)
  (ho:∀ n a vs,own.at' n=some a→h.PlainList a vs→a∉W):EnvR G env own O ρ h' where
 fn:=x.fn
 gl:=x.gl
 bi:=x.bi
 lin:=x.lin
 lfr:=x.lfr
 oin:=x.oin
 cin:=x.cin
 inj:=x.inj
 ce:=fun y hy=>let ⟨c,v,e,q⟩:=x.ce y hy;⟨c,v,e,k.cell (hc _ _ e) q⟩
 ns:=let ⟨m,a,b⟩:=x.ns;⟨m,k.ns hl a,fun n y d h1 h2 h3=>let ⟨v,e,r⟩:=b n y d h1 h2 h3;⟨v,e,r.but k hn (ho n)⟩⟩
 cl:=fun n y d h1 h2 h3=>let ⟨c,v,e,q,r⟩:=x.cl n y d h1 h2 h3;⟨c,v,e,k.cell (hc _ _ e) q,r.but k hn (ho n)⟩
theorem EnvR.weaken {G:GC} {env:Env} {own:Own} {O:List Addr} {ρ ρ':Rho} {h:Heap} (x:EnvR G env own O ρ h) (k:∀ n d,ρ'.get n=some d→ρ.get n=some d):EnvR G env own O ρ' h :=
 { x with ns:=let ⟨m,a,b⟩:=x.ns;⟨m,a,fun n y d h1 h2 h3=>b n y d h1 h2 (k n d h3)⟩,cl:=fun n y d h1 h2 h3=>x.cl n y d h1 h2 (k n d h3) }
structure SExt (G:GC) (W:List Addr) (s s':Shared):Prop where
 same:∃ h tk,s'={ s with heap:=h,toks:=tk }
 keep:KeepBut W s.heap s'.heap
 base:Base G s'.heap
 pos:0<s'.toks
 back:∀ b,b∉W→s'.heap.get? b=none→s.heap.get? b=none
theorem SExt.refl {G:GC} {W:List Addr} {s:Shared} (B:Base G s.heap) (p:0<s.toks):SExt G W s s:=⟨⟨_,_,rfl⟩, .of_keep (.refl _),B,p,fun _ _ e=>e⟩
theorem SExt.trans {G:GC} {W:List Addr} {s s' s'':Shared} (x:SExt G W s s') (y:SExt G W s' s''):SExt G W s s'' :=
 ⟨by obtain ⟨h,t,rfl⟩:=x.same;obtain ⟨h',t',rfl⟩:=y.same;exact ⟨h',t',rfl⟩,x.keep.trans y.keep,y.base,y.pos,fun b m e=>x.back b m (y.back b m e)⟩
theorem Ext.sext {G:GC} {W:List Addr} {s s':Shared} (x:Ext G s s'):SExt G W s s':=⟨x.same, .of_keep x.keep,x.base,x.pos,fun b _ e=>x.back b e⟩
theorem SExt.mono {G:GC} {W W':List Addr} {s s':Shared} (x:SExt G W s s') (q:∀ a∈W,a∈W'):SExt G W' s s':=⟨x.same,x.keep.mono q,x.base,x.pos,fun b m e=>x.back b (fun n=>m (q b n)) e⟩
theorem SExt.ext {G:GC} {W:List Addr} {s s':Shared} (x:SExt G W s s') (q:∀ a∈W,s.heap.get? a=none):Ext G s s' :=
 ⟨x.same,fun b o e c=>x.keep b o (fun m=>by rw [q b m] at e;exact nn e) e c,x.base,x.pos,fun b e=>if m:b∈W then q b m else x.back b m e⟩
structure GOK (G:GC):Prop where
 g:G.h₀.Ns mainGlobals G.mg
 b:G.h₀.Ns builtinsNs G.mb
 lim:G.h₀.NoLimit
 nd:G.names.Nodup
 nb:∀ x∈bltNames,G.mg x=none
 bt:∀ x:Str,x ≠ "__name__" → G.mb x=bootBuiltins x
 bm:∃ bm o,G.mg "__builtins__" = some (.ref bm)∧bm≠builtinsNs∧bm≠mainGlobals∧G.h₀.get? bm=some o∧o.cls=.type "module" ∧ o.dict=some builtinsNs∧o.data=.plain
structure Inv (G:GC) (A:Around) (env:Env) (own:Own) (O:List Addr) (ρ:Rho) (s:Shared):Prop where
 ok:GOK G
 hh:A.handled=none
 base:Base G s.heap
 pos:0<s.toks
 ov:OVal O s.heap
 envr:EnvR G env own O ρ s.heap
theorem Inv.ext {G:GC} {A:Around} {env:Env} {own:Own} {O:List Addr} {ρ:Rho} {s s':Shared} (x:Inv G A env own O ρ s) (e:Ext G s s'):Inv G A env own O ρ s' :=
 ⟨x.ok,x.hh,e.base,e.pos,x.ov.keep e.keep,x.envr.keep e.keep⟩
theorem zlo {G:GC} {A:Around} {env:Env} {own:Own} {O:List Addr} {ρ:Rho} {s:Shared} (I:Inv G A env own O ρ s) {n:Nat} {x:Str} {d:D} {k:NameKind} {Q:Value→Shared→Prop} {E:Value→Shared→Prop}
  (hn:G.names[n]?=some x) (hk:env.kindOf x=some k) (hkk:k=.local∨k=.cell∨k=.free) (hx:(x==("__classdict__" : Str))=false) (hg:ρ.get n=some d) (h:∀ v,SRep G.w own n O s.heap v d→Q v s) :
  wpAny (mdl G) A (loadName env x) Q E s:=by
 rcases hkk with rfl | rfl | rfl
 ·obtain ⟨m,h1,h2⟩:=I.envr.ns
  obtain ⟨v,e,r⟩:=h2 n x d hn hk hg
  exact wpAny_loadName_local I.envr.fn hk h1 e (h v r)
 ·obtain ⟨c,v,e,q,r⟩:=I.envr.cl n x d hn (.inl hk) hg
  exact wpAny_loadName_cell I.envr.fn hk e q (h v r)
 ·obtain ⟨c,v,e,q,r⟩:=I.envr.cl n x d hn (.inr hk) hg
  exact wpAny_loadName_free I.envr.fn hk e q (h v r) hx
variable {G:GC} {A:Around} {O:List Addr} {s:Shared} {d:D}
theorem Sat.of {t:Sem Value} (B:Base G s.heap) (p:0<s.toks)
  (h:∀ (Q:Value→Shared→Prop) (E:Value→Shared→Prop),(∀ v h' tk,(∀ b o,s.heap.get? b=some o→h'.get? b=some o)→VRep G.w O h' v d→Q v { s with heap:=h',toks:=tk })→wpAny (mdl G) A t Q E s) :
  Sat G A O t s d:=fun Q E q=>by
 refine wpAny_with_toks (n:=1) p (h _ _ fun v h' tk k r=>?_)
 intro p'
 exact q v _ (.all B k p') r
theorem Sat.of0 {t:Sem Value} (B:Base G s.heap) (p:0<s.toks)
  (h:∀ (Q:Value→Shared→Prop) (E:Value→Shared→Prop),(∀ v tk,VRep G.w O s.heap v d→Q v { s with toks:=tk })→wpAny (mdl G) A t Q E s) :
  Sat G A O t s d:=Sat.of B p fun Q E q=>h Q E fun v tk r=>q v s.heap tk (fun _ _ e=>e) r
noncomputable abbrev ib (a:Int):Nat:=Builtin.Int.intBits a
noncomputable def fits (a:Int):Bool:=decide (ib a≤100000)
noncomputable def zdx (o:Operator) (a b:Int):Option D:=match o with
 | .Add=>some (.int (a+b))
 | .Sub=>some (.int (a-b))
 | .Mult=>if fits a&&fits b then some (.int (a*b)) else none
 | .FloorDiv=>if b != 0&&decide (b.natAbs.log2<9000) then some (.int (a.fdiv b)) else none
 | .Mod=>if b != 0 then some (.int (a.fmod b)) else none
 | .Pow=>if decide (0≤b)&&decide ((ib a:Int)*b≤2^27) then some (.int (a^b.toNat)) else none
 | .LShift=>if decide (0≤b)&&decide ((ib a:Int)+b≤2^27) then some (.int (a*2^b.toNat)) else none
 | .RShift=>if decide (0≤b) then some (.int (a.fdiv (2^b.toNat))) else none
 | .BitAnd=>some (.int (Builtin.bitAnd a b))
 | .BitOr=>some (.int (Builtin.bitOr a b))
 | .BitXor=>some (.int (Builtin.bitXor a b))
 | _=>none
theorem zae {a b:Bool} (h:(a&&b)=true):a=true∧b=true:=bap h
theorem ne0 {b:Int} (h:(b != 0)=true):b≠0:=by simpa using h
theorem ypy {a b:Int} (h:(fits a&&fits b)=true):IntMulOk a b:=by
 obtain ⟨h1,h2⟩:=bap h
 have h1:=of_decide_eq_true h1
 have h2:=of_decide_eq_true h2
 unfold IntMulOk
 intro c
 obtain ⟨_,c⟩:=bap c
 have c:(ib a:Int)+(ib b:Int) > ((2^27:Nat):Int):=of_decide_eq_true c
 have e:((2^27:Nat):Int)=134217728:=by decide
 rw [e] at c
 omega
theorem zaj {c:Bool} {x r:D} (h:(if c then some x else none)=some r):c=true∧x=r:=by
 cases c
 ·exact nn h
 ·exact ⟨rfl,soi h⟩
theorem zwv (B:Base G s.heap) (p:0<s.toks) {o:Operator} {a b:Int} {t u:Tok} (h:zdx o a b=some d):Sat G A O (binaryOp o (.int a t) (.int b u)) s d:=by
 refine Sat.of0 B p fun Q E q=>?_
 have key:∀ i:Int, .int i=d→∀ tk,Q (.int i tk) { s with toks:=s.toks+1 }:=fun i e tk=>q _ _ (e▸.int)
 rcases o with ⟨⟩ | ⟨⟩
 case Add=>exact PyProof.Rows.add_int (key _ (soi h) _)
 case Sub=>exact PyProof.Rows.sub_int (key _ (soi h) _)
 case Mult=>exact P.mul_int (key _ (zaj h).2 _) (ypy (zaj h).1)
 case FloorDiv=>exact PyProof.Rows.floordiv_int (ne0 (zae (zaj h).1).1) (key _ (zaj h).2 _) (.inl (PyProof.noPylong_of_log2 (of_decide_eq_true (zae (zaj h).1).2)))
 case Mod=>exact PyProof.Rows.mod_int' (ne0 (zaj h).1) (key _ (zaj h).2 _)
 case Pow=>exact PyProof.Rows.pow_int (of_decide_eq_true (zae (zaj h).1).1) (of_decide_eq_true (zae (zaj h).1).2) (key _ (zaj h).2 _)
 case LShift=>exact PyProof.Rows.lshift_int (of_decide_eq_true (zae (zaj h).1).1) (of_decide_eq_true (zae (zaj h).1).2) (key _ (zaj h).2 _)
 case RShift=>exact PyProof.Rows.rshift_int (of_decide_eq_true (zaj h).1) (key _ (zaj h).2 _)
 case BitAnd=>exact PyProof.Rows.and_int (key _ (soi h) _)
 case BitOr=>exact PyProof.Rows.or_int (key _ (soi h) _)
 case BitXor=>exact PyProof.Rows.xor_int (key _ (soi h) _)
 all_goals exact nn h
theorem zst (B:Base G s.heap) (p:0<s.toks) {o:Operator} {a b:Int} {t u:Tok} (h:zdx o a b=some d):Sat G A O (inplaceOp o (.int a t) (.int b u)) s d:=by
 refine Sat.of0 B p fun Q E q=>?_
 have key:∀ i:Int, .int i=d→∀ tk,Q (.int i tk) { s with toks:=s.toks+1 }:=fun i e tk=>q _ _ (e▸.int)
 rcases o with ⟨⟩ | ⟨⟩
 case Add=>exact PyProof.Rows.iadd_int (key _ (soi h) _)
 case Sub=>exact PyProof.Rows.isub_int (key _ (soi h) _)
 case Mult=>exact P.imul_int (key _ (zaj h).2 _) (ypy (zaj h).1)
 case FloorDiv=>exact PyProof.Rows.ifloordiv_int (ne0 (zae (zaj h).1).1) (key _ (zaj h).2 _) (.inl (PyProof.noPylong_of_log2 (of_decide_eq_true (zae (zaj h).1).2)))
 case Mod=>exact PyProof.Rows.imod_int (ne0 (zaj h).1) (key _ (zaj h).2 _)
 case Pow=>exact PyProof.Rows.ipow_int (of_decide_eq_true (zae (zaj h).1).1) (of_decide_eq_true (zae (zaj h).1).2) (key _ (zaj h).2 _)
 case LShift=>exact PyProof.Rows.ilshift_int (of_decide_eq_true (zae (zaj h).1).1) (of_decide_eq_true (zae (zaj h).1).2) (key _ (zaj h).2 _)
 case RShift=>exact PyProof.Rows.irshift_int (of_decide_eq_true (zaj h).1) (key _ (zaj h).2 _)
 case BitAnd=>exact PyProof.Rows.iand_int (key _ (soi h) _)
 case BitOr=>exact PyProof.Rows.ior_int (key _ (soi h) _)
 case BitXor=>exact PyProof.Rows.ixor_int (key _ (soi h) _)
 all_goals exact nn h
end Internal
namespace Internal
variable {G:GC} {A:Around} {O:List Addr} {s:Shared} {d:D}
theorem zay:sizeLine=16777216:=by decide
theorem yhh {vs:List Value} {ds:List D} (B:Base G s.heap) (p:0<s.toks) (ov:OVal O s.heap) (r:VReps G.w O s.heap vs ds) (hl:ds.length≤16777216):Sat G A O (newList vs) s (.list ds):=by
 refine Sat.of B p fun Q E q=>?_
 have hk:∀ b o,s.heap.get? b=some o→(s.heap.push { cls:=.type "list",data:=.seq vs.toArray }).get? b=some o:=fun b o e=>Heap.get?_push_of_some _ e
 refine wpAny_newObj_type (q _ _ _ hk ?_) (by show vs.toArray.size≤sizeLine;rw [List.size_toArray,r.length,zay];exact hl)
 refine VRep.list_of hl (ov.new (zak _)) ⟨_,Heap.get?_push_size _ rfl,rfl,_,rfl⟩ (zjz rfl rfl) ?_
 simpa using r.keep (.of hk)
theorem yce {vs:List Value} {ds:List D} (B:Base G s.heap) (p:0<s.toks) (r:VReps G.w O s.heap vs ds) (hl:ds.length≤16777216):Sat G A O (newTuple vs) s (.tuple ds):=by
 refine Sat.of B p fun Q E q=>?_
 have hk:∀ b o,s.heap.get? b=some o→(s.heap.push { cls:=.type "tuple",data:=.seq vs.toArray }).get? b=some o:=fun b o e=>Heap.get?_push_of_some _ e
 refine wpAny_newObj_type (q _ _ _ hk ?_) (by show vs.toArray.size≤sizeLine;rw [List.size_toArray,r.length,zay];exact hl)
 refine VRep.tuple_of hl ⟨_,Heap.get?_push_size _ rfl,rfl,_,rfl⟩ ?_
 simpa using r.keep (.of hk)
theorem sok_str {x:Str}:sok (.str x)=true↔PyData.strOk x=true∧x.length≤16777216:=by
 simp [sok]
theorem zjt {x y:Str} (hx:PyData.strOk x=true) (hy:PyData.strOk y=true):PyData.strOk (x++y)=true:=by
 show (x.cps++y.cps).all (· < 0x110000)=true
 rw [Array.all_append]
 exact Bool.and_eq_true_iff.mpr ⟨hx,hy⟩
theorem yex {x y:Str} {t u:Tok} (B:Base G s.heap) (p:0<s.toks) (hx:sok (.str x)=true) (hy:sok (.str y)=true) (hl:x.length+y.length≤16777216) :
  Sat G A O (binaryOp .Add (.str x t) (.str y u)) s (.str (x++y)):=by
 refine Sat.of0 B p fun Q E q=>PyProof.Rows.add_str (fun t' tk=>q _ _ (.str ?_)) (by rw [zay];exact hl)
 exact sok_str.mpr ⟨zjt (sok_str.mp hx).1 (sok_str.mp hy).1,by rw [strLen_append];exact hl⟩
theorem ybc {x y:Str} {t u:Tok} (B:Base G s.heap) (p:0<s.toks) (hx:sok (.str x)=true) (hy:sok (.str y)=true) (hl:x.length+y.length≤16777216) :
  Sat G A O (inplaceOp .Add (.str x t) (.str y u)) s (.str (x++y)):=by
 refine Sat.of0 B p fun Q E q=>PyProof.Rows.iadd_str (fun t' tk=>q _ _ (.str ?_)) (by rw [zay];exact hl)
 exact sok_str.mpr ⟨zjt (sok_str.mp hx).1 (sok_str.mp hy).1,by rw [strLen_append];exact hl⟩
noncomputable def srep (n:Nat) (x:Str):Str:=⟨(List.replicate n x.cps.toList).flatten.toArray⟩
theorem zym (n:Nat) (x:Str):(⟨(List.replicate n x.cps).foldl (· ++ ·) #[]⟩:Str)=srep n x:=by
 have h:∀ (l:List (Array Nat)) (acc:Array Nat),l.foldl (· ++ ·) acc=(acc.toList++(l.map (·.toList)).flatten).toArray:=by
  intro l
  induction l with
  | nil=>intro acc;simp
  | cons a r ih=>intro acc;rw [List.foldl_cons,ih];simp
 unfold srep
 rw [h]
 simp
theorem yin (x:Str):srep 1 x=x:=by unfold srep;simp
theorem zyl {n:Nat} {x:Str} (h:x.length=0):srep n x=x:=by
 obtain ⟨c⟩:=x
 have h:c.size=0:=h
 have:c=#[]:=Array.eq_empty_of_size_eq_zero h
 subst this
 unfold srep
 simp
theorem zwh (n:Nat) (x:Str):(srep n x).length=n*x.length:=by
 show ((List.replicate n x.cps.toList).flatten.toArray).size=n*x.cps.size
 simp
theorem ynq {n:Nat} {x:Str} (h:PyData.strOk x=true):PyData.strOk (srep n x)=true:=by
 show ((List.replicate n x.cps.toList).flatten.toArray).all (· < 0x110000)=true
 have h':x.cps.all (· < 0x110000)=true:=h
 rw [Array.all_eq_true_iff_forall_mem] at *
 intro c hc
 simp only [List.mem_toArray,List.mem_flatten,List.mem_replicate] at hc
 obtain ⟨l,⟨_,rfl⟩,hc⟩:=hc
 exact h' c (by simpa using hc)
theorem yhf {x:Str} {n:Int} {t u:Tok} (B:Base G s.heap) (p:0<s.toks) (hx:sok (.str x)=true) (h0:0≤n) (h1:n≤16777216) (hl:x.length*n.toNat≤16777216) :
  Sat G A O (binaryOp .Mult (.str x t) (.int n u)) s (.str (srep n.toNat x)):=by
 refine Sat.of0 B p fun Q E q=>?_
 have hok:sok (.str (srep n.toNat x))=true:=sok_str.mpr ⟨ynq (sok_str.mp hx).1,by rw [zwh,Nat.mul_comm];exact hl⟩
 have e63:(2:Int)^63=9223372036854775808:=by decide
 have e24:(2:Nat)^24=16777216:=by decide
 refine P.mul_str (by rw [decide_eq_false (show ¬ n < -(2^63:Int) by omega),decide_eq_false (show ¬ n ≥ 2^63 by omega)];rfl) (fun h2 _ h3=>?_) (fun _ _=>?_) ?_
 ·have hxl:=(sok_str.mp hx).2
  have h4:(549755813887:Int)≤(2^63-1) / n:=by
   rw [e63]
   refine (Int.le_ediv_iff_mul_le (by omega)).mpr ?_
   omega
  omega
 ·unfold Builtin.Str.tooLong sizeLine
  rw [e24]
  exact decide_eq_false (by omega)
 ·split
  ·rename_i h
   have e:n.toNat=0:=by omega
   rw [e] at hok q
   refine ⟨by decide, ?_⟩
   have:Str.empty=srep 0 x:=by unfold srep;rfl
   rw [this]
   exact q _ _ (.str hok)
  ·split
   ·rename_i h
    rcases Bool.or_eq_true_iff.mp h with h | h
    ·have e:n.toNat=1:=by have:=bqp h;omega
     rw [e,yin] at q
     exact q _ s.toks (.str hx)
    ·have h:x.length=0:=bqp h
     rw [zyl h] at q
     exact q _ s.toks (.str hx)
   ·rw [zym]
    exact ⟨by rw [zwh,zay,Nat.mul_comm];exact hl,q _ _ (.str hok)⟩
theorem VReps.rep {w:World} {h:Heap} {vs:List Value} {ds:List D} (r:VReps w O h vs ds):∀ n:Nat,VReps w O h (List.replicate n vs).flatten (List.replicate n ds).flatten
 | 0=>.nil
 | n+1=>by simp only [List.replicate_succ,List.flatten_cons];exact r.append (r.rep n)
theorem yew {a b:Addr} {vs ws:Array Value} {xs ys:List D} (B:Base G s.heap) (p:0<s.toks) (ov:OVal O s.heap) (la:s.heap.IsList a vs) (lb:s.heap.IsList b ws) (ra:VReps G.w O s.heap vs.toList xs) (rb:VReps G.w O s.heap ws.toList ys)
  (hl:xs.length+ys.length≤16777216):Sat G A O (binaryOp .Add (.ref a) (.ref b)) s (.list (xs++ys)):=by
 refine Sat.of B p fun Q E q=>?_
 obtain ⟨⟨cls,dd,data,sl⟩,ho,hc,n,hd⟩:=id la
 obtain ⟨⟨cls2,dd2,data2,sl2⟩,ho2,hc2,n2,hd2⟩:=id lb
 simp only at hc hd hc2 hd2
 subst hc hd hc2 hd2
 have hk:∀ o b' o',s.heap.get? b'=some o'→(s.heap.push o).get? b'=some o':=fun o b' o' e=>Heap.get?_push_of_some _ e
 have hsz:vs.size+ws.size≤sizeLine:=by
  have e1:=ra.length
  have e2:=rb.length
  simp only [Array.length_toList] at e1 e2
  rw [zay];omega
 refine concat_meets ⟨_,ho,rfl⟩ ⟨_,ho2,rfl⟩ noFill_list_add seq_list_add PySem.F.slot_list_add PySem.F.entry_list_add (PySem.F.args_list_add_2 _ _) (list_addW a b vs ws n n2 dd dd2 sl sl2 hsz) ⟨ho,ho2, ?_⟩
 refine q _ _ _ (hk _) (.list_of (by rw [List.length_append];exact hl) (ov.new (zak _)) ⟨_,Heap.get?_push_size _ rfl,rfl,_,rfl⟩ (zjz rfl rfl) ?_)
 rw [Array.toList_append]
 exact (ra.keep (.of (hk _))).append (rb.keep (.of (hk _)))
theorem yca {a:Addr} {n:Int} {u:Tok} {vs:Array Value} {xs:List D} (B:Base G s.heap) (p:0<s.toks) (ov:OVal O s.heap) (la:s.heap.IsList a vs) (ra:VReps G.w O s.heap vs.toList xs)
  (h0:0≤n) (h1:n≤16777216) (hl:xs.length*n.toNat≤16777216):Sat G A O (binaryOp .Mult (.ref a) (.int n u)) s (.list (List.replicate n.toNat xs).flatten):=by
 refine Sat.of B p fun Q E q=>?_
 obtain ⟨⟨cls,d,data,sl⟩,ho,hcl,k,hd⟩:=id la
 simp only at hcl hd
 subst hcl hd
 have e63:(2:Int)^63=9223372036854775808:=by decide
 have e24:(2:Nat)^24=16777216:=by decide
 have e1:=ra.length
 simp only [Array.length_toList] at e1
 have hsz':vs.size*n.toNat≤2^24:=by rw [e1,e24];exact hl
 refine wpAny_binaryOp_repeat_ref (T:="list") (U:="int") (by decide) ⟨_,ho,rfl⟩ (fun s'=>typeIs_int s' n u) noFill_list_mul F.fills_int_mul F.slot_int_rmul repeat_list F.slot_int_index.lookup
  (call_meets F.slot_int_rmul (typeIs_int s n u) F.entry_int_rmul (F.args_int_rmul_2 _ _) (lm_int_rmul_list_any n u a vs k d sl)
   ⟨ho,rfl,⟨_,ho,rfl⟩,call_meets F.slot_list_mul ⟨_,ho,rfl⟩ F.entry_list_mul (F.args_list_mul_2 _ _)
    (lm_list_mul_any a vs k d sl n u (by simp [Builtin.List.listFitsIndex];omega) (by omega) (by simp [Builtin.List.listTooLong,sizeLine];omega))
    ⟨ho, ?_⟩⟩)
 have hk:∀ o b' o',s.heap.get? b'=some o'→(s.heap.push o).get? b'=some o':=fun o b' o' e=>Heap.get?_push_of_some _ e
 refine q _ _ _ (hk _) (.list_of (by rw [lm_len_rep_flat,Nat.mul_comm];exact hl) (ov.new (zak _)) ⟨_,Heap.get?_push_size _ rfl,rfl,_,rfl⟩ (zjz rfl rfl) ?_)
 rw [listMul_foldl_if]
 simpa using (VReps.rep ra n.toNat).keep (.of (hk _))
end Internal
namespace Internal
variable {G:GC} {A:Around} {O:List Addr} {s:Shared} {d:D}
noncomputable def d1 (ds:List D) (k:D→Option D):Option D:=match ds with | [d]=>k d | _=>none
noncomputable def d2 (ds:List D) (k:D→D→Option D):Option D:=match ds with | [d,e]=>k d e | _=>none
theorem zhz {ds:List D} {k:D→Option D} {r:D} (h:d1 ds k=some r):∃ d,ds=[d]∧k d=some r:=by
 cases ds with
 | nil=>exact nn h
 | cons d ds=>cases ds with
  | nil=>exact ⟨d,rfl,h⟩
  | cons e ds=>exact nn h
theorem zua {ds:List D} {k:D→D→Option D} {r:D} (h:d2 ds k=some r):∃ d e,ds=[d,e]∧k d e=some r:=by
 cases ds with
 | nil=>exact nn h
 | cons d ds=>cases ds with
  | nil=>exact nn h
  | cons e ds=>cases ds with
   | nil=>exact ⟨d,e,rfl,h⟩
   | cons f ds=>exact nn h
noncomputable def oStr {β:Type} (d:D) (k:Str→Option β):Option β:=match d with | .str x=>k x | _=>none
noncomputable def oInt {β:Type} (d:D) (k:Int→Option β):Option β:=match d with | .int x=>k x | _=>none
noncomputable def oLst {β:Type} (d:D) (k:List D→Option β):Option β:=match d with | .list x=>k x | _=>none
theorem zck {β:Type} {d:D} {k:Str→Option β} {r:β} (h:oStr d k=some r):∃ x,d=.str x∧k x=some r:=by
 cases d with
 | str x=>exact ⟨x,rfl,h⟩
 | _=>exact nn h
theorem zas {β:Type} {d:D} {k:Int→Option β} {r:β} (h:oInt d k=some r):∃ x,d=.int x∧k x=some r:=by
 cases d with
 | int x=>exact ⟨x,rfl,h⟩
 | _=>exact nn h
noncomputable def i2 (ds:List D) (k:Int→Int→Option D):Option D:=d2 ds fun a b=>oInt a fun a=>oInt b fun b=>k a b
theorem zqc {ds:List D} {k:Int→Int→Option D} {r:D} (h:i2 ds k=some r):∃ a b,ds=[.int a, .int b]∧k a b=some r:=by
 obtain ⟨a,b,rfl,h⟩:=zua h
 obtain ⟨a,rfl,h⟩:=zas h
 obtain ⟨b,rfl,h⟩:=zas h
 exact ⟨a,b,rfl,h⟩
theorem zgy {β:Type} {d:D} {k:List D→Option β} {r:β} (h:oLst d k=some r):∃ x,d=.list x∧k x=some r:=by
 cases d with
 | list x=>exact ⟨x,rfl,h⟩
 | _=>exact nn h
theorem zfo {p:Prop} [Decidable p] {x r:D} (h:(if p then some x else none)=some r):p∧x=r:=by
 by_cases c:p
 ·rw [if_pos c] at h
  exact ⟨c,soi h⟩
 ·rw [if_neg c] at h;exact nn h
noncomputable def opIs (o o':Operator) (r:Option D):Option D:=if o=o' then r else none
theorem zil {o o':Operator} {r:Option D} {d:D} (h:opIs o o' r=some d):o=o'∧r=some d:=by
 unfold opIs at h
 by_cases e:o=o'
 ·rw [if_pos e] at h;exact ⟨e,h⟩
 ·rw [if_neg e] at h;exact nn h
noncomputable def zez (o:Operator) (a b:D):Option D:=match a with
 | .int a=>oInt b fun b=>zdx o a b
 | .str x=>match b with
  | .str y=>opIs o .Add (if decide (x.length+y.length≤16777216) then some (.str (x++y)) else none)
  | .int n=>opIs o .Mult (if decide (0≤n)&&decide (n≤16777216)&&decide (x.length*n.toNat≤16777216) then some (.str (srep n.toNat x)) else none)
  | _=>none
 | .list xs=>match b with
  | .list ys=>opIs o .Add (if decide (xs.length+ys.length≤16777216) then some (.list (xs++ys)) else none)
  | .int n=>opIs o .Mult (if decide (0≤n)&&decide (n≤16777216)&&decide (xs.length*n.toNat≤16777216) then some (.list (List.replicate n.toNat xs).flatten) else none)
  | _=>none
 | _=>none
theorem zkm (B:Base G s.heap) (p:0<s.toks) (ov:OVal O s.heap) {o:Operator} {a b:D} {u v:Value} (ra:VRep G.w O s.heap u a) (rb:VRep G.w O s.heap v b) (h:zez o a b=some d) :
  Sat G A O (binaryOp o u v) s d:=by
 cases a with
 | int a =>
  obtain ⟨b,rfl,g⟩:=zas h;clear h
  obtain ⟨t,rfl⟩:=ra.int_inv;obtain ⟨t',rfl⟩:=rb.int_inv
  exact zwv B p g
 | str x =>
  have sa:=ra.sok;have sb:=rb.sok
  obtain ⟨t,rfl⟩:=ra.str_inv
  cases b with
  | str y =>
   obtain ⟨t',rfl⟩:=rb.str_inv
   obtain ⟨rfl,g⟩:=zil h;clear h
   obtain ⟨c,rfl⟩:=zaj g
   exact yex B p sa sb (of_decide_eq_true c)
  | int n =>
   obtain ⟨t',rfl⟩:=rb.int_inv
   obtain ⟨rfl,g⟩:=zil h;clear h
   obtain ⟨c,rfl⟩:=zaj g
   simp only [Bool.and_eq_true,decide_eq_true_eq] at c
   exact yhf B p sa c.1.1 c.1.2 c.2
  | _=>exact nn h
 | list xs =>
  obtain ⟨a',vs,rfl,_,la,ra'⟩:=ra.list_inv
  cases b with
  | list ys =>
   obtain ⟨b',ws,rfl,_,lb,rb'⟩:=rb.list_inv
   obtain ⟨rfl,g⟩:=zil h;clear h
   obtain ⟨c,rfl⟩:=zaj g
   exact yew B p ov la lb ra' rb' (of_decide_eq_true c)
  | int n =>
   obtain ⟨t',rfl⟩:=rb.int_inv
   obtain ⟨rfl,g⟩:=zil h;clear h
   obtain ⟨c,rfl⟩:=zaj g
   simp only [Bool.and_eq_true,decide_eq_true_eq] at c
   exact yca B p ov la ra' c.1.1 c.1.2 c.2
  | _=>exact nn h
 | _=>exact nn h
noncomputable def zuo (o:Operator) (a b:D):Option D:=match a with
 | .int a=>oInt b fun b=>zdx o a b
 | .str x=>oStr b fun y=>opIs o .Add (if decide (x.length+y.length≤16777216) then some (.str (x++y)) else none)
 | _=>none
theorem zxk (B:Base G s.heap) (p:0<s.toks) {o:Operator} {a b:D} {u v:Value} (ra:VRep G.w O s.heap u a) (rb:VRep G.w O s.heap v b) (h:zuo o a b=some d) :
  Sat G A O (inplaceOp o u v) s d:=by
 cases a with
 | int a =>
  obtain ⟨b,rfl,g⟩:=zas h;clear h
  obtain ⟨t,rfl⟩:=ra.int_inv;obtain ⟨t',rfl⟩:=rb.int_inv
  exact zst B p g
 | str x =>
  obtain ⟨y,rfl,g⟩:=zck h;clear h
  obtain ⟨rfl,g2⟩:=zil g;clear g
  obtain ⟨c,rfl⟩:=zaj g2
  have sa:=ra.sok;have sb:=rb.sok
  obtain ⟨t,rfl⟩:=ra.str_inv;obtain ⟨t',rfl⟩:=rb.str_inv
  exact ybc B p sa sb (of_decide_eq_true c)
 | _=>exact nn h
noncomputable def dep:Nat→D→Bool
 | _, .none | _, .bool _ | _, .int _ | _, .str _=>true
 | n+1, .list xs | n+1, .tuple xs=>xs.all (dep n)
 | _,_=>false
mutual
theorem zhl:∀ (d:D) (n:Nat),dep n d=true→sok d=true→d.canLay0=true∧d.depth≤n
 | .none,n,_,_=>by simp [PyData.canLay0,PyData.depth]
 | .bool _,n,_,_=>by simp [PyData.canLay0,PyData.depth]
 | .int _,n,_,_=>by simp [PyData.canLay0,PyData.depth]
 | .str x,n,_,h=>by simp [PyData.canLay0,PyData.depth,(sok_str.mp h).1]
 | .list xs,0,h,_=>absurd h Bool.false_ne_true
 | .tuple xs,0,h,_=>absurd h Bool.false_ne_true
 | .dict _,0,h,_=>absurd h Bool.false_ne_true
 | .dict _,n+1,h,_=>absurd h Bool.false_ne_true
 | .list xs,n+1,h,k=>by
  have h':xs.all (dep n)=true:=h
  have k':(decide (xs.length≤16777216)&&sokAll xs)=true:=k
  have:=ziu xs n (by simpa using h') (bap k').2
  simp only [PyData.canLay0,PyData.depth]
  exact ⟨this.1,by omega⟩
 | .tuple xs,n+1,h,k=>by
  have h':xs.all (dep n)=true:=h
  have k':(decide (xs.length≤16777216)&&sokAll xs)=true:=k
  have:=ziu xs n (by simpa using h') (bap k').2
  simp only [PyData.canLay0,PyData.depth]
  exact ⟨this.1,by omega⟩
theorem ziu:∀ (xs:List D) (n:Nat),(∀ x∈xs,dep n x=true)→sokAll xs=true→PyData.canLayAll0 xs=true∧PyData.depthAll xs≤n
 | [],n,_,_=>by simp [PyData.canLayAll0,PyData.depthAll]
 | x::xs,n,h,k=>by
  have k':sok x=true∧sokAll xs=true:=by simpa [sokAll] using k
  have h1:=zhl x n (h x mch) k'.1
  have h2:=ziu xs n (fun y hy=>h y (mct _ hy)) k'.2
  simp only [PyData.canLayAll0,PyData.depthAll,h1.1,h2.1,Bool.and_self,true_and]
  omega
end
noncomputable def isN (a:D):Bool:=match a with | .none=>true | _=>false
noncomputable def yqe (d:D) (k:Bool→Option D):Option D:=match d with | .bool x=>k x | _=>none
theorem yci {d:D} {k:Bool→Option D} {r:D} (h:yqe d k=some r):∃ x,d=.bool x∧k x=some r:=by
 rcases d with ⟨⟩ | ⟨⟩
 case bool x=>exact ⟨x,rfl,h⟩
 all_goals exact nn h
noncomputable def evIs (f:Bool→Bool) (a b:D):Option D:=match b with
 | .none=>some (.bool (f (isN a)))
 | .bool y=>yqe a fun x=>some (.bool (f (x==y)))
 | _=>none
noncomputable def evIn (f:Bool→Bool) (a b:D):Option D:=match b with
 | .str x=>oStr a fun y=>some (.bool (f (!(Builtin.Str.occurrences x y 0 x.length 1).isEmpty)))
 | .list xs=>if dep 8 a&&dep 8 (.list xs) then some (.bool (f (xs.any fun y=>PyData.eqv y a))) else none
 | _=>none
noncomputable def zdq (o:CmpOp) (a b:D):Option D:=match o with
 | .Eq=>if dep 8 a&&dep 8 b then some (.bool (PyData.eqv a b)) else none
 | .NotEq=>if dep 8 a&&dep 8 b then some (.bool (!PyData.eqv a b)) else none
 | .Lt=>oInt a fun a=>oInt b fun b=>some (.bool (decide (a<b)))
 | .LtE=>oInt a fun a=>oInt b fun b=>some (.bool (decide (a≤b)))
 | .Gt=>oInt a fun a=>oInt b fun b=>some (.bool (decide (b<a)))
 | .GtE=>oInt a fun a=>oInt b fun b=>some (.bool (decide (b≤a)))
 | .Is=>evIs (fun c=>c) a b
 | .IsNot=>evIs (fun c=>!c) a b
 | .In=>evIn (fun c=>c) a b
 | .NotIn=>evIn (fun c=>!c) a b
theorem zrp {w:World} {h:Heap} {v:Value} {a:D} (r:VRep w O h v a):(v=.none)↔a=.none:=by
 obtain ⟨as,x,_⟩:=r
 constructor
 ·rintro rfl;cases x;rfl
 ·rintro rfl;exact (reads_none_inv x).1
theorem ypt {a:D} (h:a≠.none):isN a=false:=by
 rcases a with ⟨⟩ | ⟨⟩
 case none=>exact absurd rfl h
 all_goals rfl
theorem znu {o:CmpOp} {f:Int→Int→Bool} (W:∀ {x y:Int} {t t':Tok} {Q:Value→Shared→Prop} {E:Value→Shared→Prop},Q (.bool (f x y)) s→wpAny (mdl G) A (compareOp o (.int x t) (.int y t')) Q E s)
  {a b:D} {u v:Value} (ra:VRep G.w O s.heap u a) (rb:VRep G.w O s.heap v b) (h:(oInt a fun a=>oInt b fun b=>some (.bool (f a b)))=some d) {Q:Value→Shared→Prop} {E:Value→Shared→Prop} (key:∀ c:Bool, .bool c=d→Q (.bool c) s):wpAny (mdl G) A (compareOp o u v) Q E s:=by
 obtain ⟨x,rfl,g⟩:=zas h
 obtain ⟨y,rfl,g⟩:=zas g
 obtain ⟨t,rfl⟩:=ra.int_inv
 obtain ⟨t',rfl⟩:=rb.int_inv
 exact W (key _ (soi g))
theorem yjd {o:CmpOp} {f:Bool→Bool} (W1:∀ {Q:Value→Shared→Prop} {E:Value→Shared→Prop},Q (.bool (f true)) s→wpAny (mdl G) A (compareOp o .none .none) Q E s)
  (W2:∀ {v:Value} {Q:Value→Shared→Prop} {E:Value→Shared→Prop},v≠.none→Q (.bool (f false)) s→wpAny (mdl G) A (compareOp o v .none) Q E s)
  (W3:∀ {x y:Bool} {Q:Value→Shared→Prop} {E:Value→Shared→Prop},Q (.bool (f (x==y))) s→wpAny (mdl G) A (compareOp o (.bool x) (.bool y)) Q E s)
  {a b:D} {u v:Value} (ra:VRep G.w O s.heap u a) (rb:VRep G.w O s.heap v b) (h:evIs f a b=some d) {Q:Value→Shared→Prop} {E:Value→Shared→Prop} (key:∀ c:Bool, .bool c=d→Q (.bool c) s):wpAny (mdl G) A (compareOp o u v) Q E s:=by
 rcases b with ⟨⟩ | ⟨⟩
 case none =>
  obtain rfl:=rb.none_inv
  have h:some (PyData.bool (f (isN a)))=some d:=h
  by_cases e:u=.none
  ·subst e
   rw [(zrp ra).mp rfl] at h
   exact W1 (key _ (soi h))
  ·rw [ypt fun e'=>e ((zrp ra).mpr e')] at h
   exact W2 e (key _ (soi h))
 case bool y =>
  obtain ⟨x,rfl,g⟩:=yci h
  obtain rfl:=ra.bool_inv
  obtain rfl:=rb.bool_inv
  exact W3 (key _ (soi g))
 all_goals exact nn h
theorem yjc {o:CmpOp} {f:Bool→Bool} (hu:A.units+100<cLine) (W1:∀ {x y:Str} {t t':Tok} {Q:Value→Shared→Prop} {E:Value→Shared→Prop},Q (.bool (f (!(Builtin.Str.occurrences x y 0 x.length 1).isEmpty))) s→wpAny (mdl G) A (compareOp o (.str y t') (.str x t)) Q E s)
  (W2:∀ {c x:Value} {xs:List PyData} {d:PyData} {as bs:List Addr} {Q:Value→Shared→Prop} {E:Value→Shared→Prop},Reads s.heap c (.list xs) as→Reads s.heap x d bs→PyData.canLayAll0 xs=true→d.canLay0=true→A.units+1+min (PyData.depthAll xs) d.depth<cLine→Q (.bool (f (xs.any fun y=>PyData.eqv y d))) s→wpAny (mdl G) A (compareOp o x c) Q E s)
  {a b:D} {u v:Value} (ra:VRep G.w O s.heap u a) (rb:VRep G.w O s.heap v b) (h:evIn f a b=some d) {Q:Value→Shared→Prop} {E:Value→Shared→Prop} (key:∀ c:Bool, .bool c=d→Q (.bool c) s):wpAny (mdl G) A (compareOp o u v) Q E s:=by
 rcases b with ⟨⟩ | ⟨⟩
 case str x =>
  obtain ⟨y,rfl,g⟩:=zck h
  obtain ⟨t,rfl⟩:=ra.str_inv
  obtain ⟨t',rfl⟩:=rb.str_inv
  exact W1 (key _ (soi g))
 case list xs =>
  obtain ⟨c,rfl⟩:=zaj h
  obtain ⟨as,x,_,sa⟩:=ra
  obtain ⟨bs,y,_,sb⟩:=rb
  have l1:=zhl _ 8 (zae c).1 sa
  have l2:=zhl _ 8 (zae c).2 sb
  refine W2 y x (show (PyData.list xs).canLay0=true from l2.1) l1.1 ?_ (key _ rfl)
  have:=Nat.le_trans (Nat.min_le_right (PyData.depthAll xs) a.depth) l1.2
  omega
 all_goals exact nn h
theorem zpm (B:Base G s.heap) (p:0<s.toks) (hu:A.units+100<cLine) {o:CmpOp} {a b:D} {u v:Value} (ra:VRep G.w O s.heap u a) (rb:VRep G.w O s.heap v b) (h:zdq o a b=some d) :
  Sat G A O (compareOp o u v) s d:=by
 refine Sat.of0 B p fun Q E q=>?_
 have key:∀ c:Bool, .bool c=d→Q (.bool c) s:=fun c e=>q _ s.toks (e▸.bool)
 have shp:∀ (x:D),dep 8 x=true→sok x=true→SeqAt.shaped x=true:=fun x h1 h2=>by
  have:=zhl x 8 h1 h2
  unfold SeqAt.shaped
  rw [this.1,Bool.true_and]
  exact decide_eq_true (by omega)
 have hu':A.units+64<cLine:=by omega
 rcases o with ⟨⟩ | ⟨⟩
 case Eq =>
  obtain ⟨as,x,_,sa⟩:=ra
  obtain ⟨bs,y,_,sb⟩:=rb
  exact eq_dataH x y (shp _ (zae (zaj h).1).1 sa) (shp _ (zae (zaj h).1).2 sb) hu' (key _ (zaj h).2)
 case NotEq =>
  obtain ⟨as,x,_,sa⟩:=ra
  obtain ⟨bs,y,_,sb⟩:=rb
  exact ne_dataH x y (shp _ (zae (zaj h).1).1 sa) (shp _ (zae (zaj h).1).2 sb) hu' (key _ (zaj h).2)
 case Lt=>exact znu (fun k=>PyProof.Rows.lt_int k) ra rb h key
 case LtE=>exact znu (fun k=>PyProof.Rows.le_int k) ra rb h key
 case Gt=>exact znu (f:=fun x y=>decide (y<x)) (fun k=>PyProof.Rows.gt_int k) ra rb h key
 case GtE=>exact znu (f:=fun x y=>decide (y≤x)) (fun k=>PyProof.Rows.ge_int k) ra rb h key
 case Is=>exact yjd (f:=fun c=>c) (fun k=>is_none_none k) (fun e k=>is_none_ne e k) (fun k=>is_bool k) ra rb h key
 case IsNot=>exact yjd (f:=fun c=>!c) (fun k=>isnot_none_none k) (fun e k=>isnot_none_ne e k) (fun k=>isnot_bool k) ra rb h key
 case In=>exact yjc (f:=fun c=>c) hu (fun k=>P.in_str k) (fun y x a b c k=>SeqAt.in_list_reads y x a b c k) ra rb h key
 case NotIn=>exact yjc (f:=fun c=>!c) hu (fun k=>P.notIn_str k) (fun y x a b c k=>SeqAt.notIn_list_reads y x a b c k) ra rb h key
noncomputable def truth (d:D):Option Bool:=match d with
 | .none=>some false
 | .bool b=>some b
 | .int i=>some (i != 0)
 | .str x=>some ((x.length:Int) != 0)
 | .list xs=>some (!xs.isEmpty)
 | .tuple xs=>some (!xs.isEmpty)
 | .dict _=>none
theorem SatB.of0 {t:Sem Bool} {b:Bool} (B:Base G s.heap) (p:0<s.toks)
  (h:∀ (Q:Bool→Shared→Prop) (E:Value→Shared→Prop),(∀ tk,Q b { s with toks:=tk })→wpAny (mdl G) A t Q E s):SatB G A t s b:=fun Q E q=>by
 refine wpAny_with_toks (n:=1) p (h _ _ fun tk p'=>?_)
 exact q _ (.all B (fun _ _ e=>e) p')
theorem zgu (B:Base G s.heap) (p:0<s.toks) {a:D} {u:Value} {b:Bool} (ra:VRep G.w O s.heap u a) (h:truth a=some b):SatB G A (truthy u) s b:=by
 refine SatB.of0 B p fun Q E q=>?_
 have e63:(2:Int)^63=9223372036854775808:=by decide
 cases a with
 | none=>obtain rfl:=soi h;obtain rfl:=ra.none_inv;exact truthy_none (q s.toks)
 | bool c=>obtain rfl:=soi h;obtain rfl:=ra.bool_inv;exact wpAny_truthy_bool (q s.toks)
 | int i=>obtain rfl:=soi h;obtain ⟨t,rfl⟩:=ra.int_inv;exact P.truthy_int (q s.toks)
 | str x =>
  obtain rfl:=soi h
  have:=(sok_str.mp ra.sok).2
  obtain ⟨t,rfl⟩:=ra.str_inv
  exact P.truthy_str (by omega) (q _)
 | list xs =>
  obtain rfl:=soi h
  have hl:=ra.list_len
  obtain ⟨a',vs,rfl,_,la,ra'⟩:=ra.list_inv
  have e:=ra'.length
  simp only [Array.length_toList] at e
  refine wpAny_truthy_list la (by omega) ?_
  have e2:(!vs.isEmpty)=!xs.isEmpty:=by
   congr 1
   rw [Bool.eq_iff_iff]
   simp only [Array.isEmpty_iff_size_eq_zero,List.isEmpty_iff_length_eq_zero,e]
  rw [e2];exact q _
 | tuple xs =>
  obtain rfl:=soi h
  have hl:=ra.tuple_len
  obtain ⟨a',vs,rfl,la,ra'⟩:=ra.tuple_inv
  have e:=ra'.length
  simp only [Array.length_toList] at e
  refine truthy_tuple la (by omega) ?_
  have e2:(!vs.isEmpty)=!xs.isEmpty:=by
   congr 1
   rw [Bool.eq_iff_iff]
   simp only [Array.isEmpty_iff_size_eq_zero,List.isEmpty_iff_length_eq_zero,e]
  rw [e2];exact q _
 | dict _=>exact nn h
theorem ycc (B:Base G s.heap) (p:0<s.toks) {i:Int} {t:Tok}:Sat G A O (unaryOp .USub (.int i t)) s (.int (-i)) :=
 Sat.of0 B p fun _ _ q=>P.neg_int (q _ _ .int)
theorem ybi (B:Base G s.heap) (p:0<s.toks) {i:Int} {t:Tok}:Sat G A O (unaryOp .Invert (.int i t)) s (.int (Builtin.bitNot i)) :=
 Sat.of0 B p fun _ _ q=>PyProof.Rows.invert_int (q _ _ .int)
end Internal
namespace Internal
noncomputable def zjh:List D→Option (List Str)
 | []=>some []
 | .str x::r=>(zjh r).map (x :: ·)
 | _::_=>none
theorem ztl:∀ {xs:List D} {ns:List Str},zjh xs=some ns→xs=ns.map .str
 | [],ns,h=>by simp [zjh] at h;subst h;rfl
 | .str i::r,ns,h=>by
  simp only [zjh,Option.map_eq_some_iff] at h
  obtain ⟨ms,h1,rfl⟩:=h
  rw [ztl h1];rfl
 | .none::_,ns,h | .bool _::_,ns,h | .int _::_,ns,h | .list _::_,ns,h | .tuple _::_,ns,h | .dict _::_,ns,h=>by simp [zjh] at h
noncomputable def leS (a b:Str):Bool:=decide (a.cps.toList≤b.cps.toList)
noncomputable def zrk (ss:List Str):List Str:=ss.mergeSort leS
theorem zif (a b c:Str) (h:leS a b=true) (k:leS b c=true):leS a c=true:=decide_eq_true (List.le_trans (of_decide_eq_true h) (of_decide_eq_true k))
theorem zll (a b:Str):(leS a b || leS b a)=true:=Bool.or_eq_true_iff.mpr ((List.le_total a.cps.toList b.cps.toList).imp decide_eq_true decide_eq_true)
theorem zvm (a b:Str) (h:leS a b=true) (k:leS b a=true):a=b:=by
 have e:=List.le_antisymm (of_decide_eq_true h) (of_decide_eq_true k)
 obtain ⟨⟨x⟩⟩:=a;obtain ⟨⟨y⟩⟩:=b
 cases e;rfl
theorem yjw {a b:Str} (h:(!ltCps b.cps.toList a.cps.toList)=true):leS a b=true:=by
 rw [ltCps_eq] at h
 exact decide_eq_true (List.not_lt.mp (of_decide_eq_false (by rw [Bool.not_eq_true'] at h;exact h)))
theorem zre:∀ {r:List Str} {p:Str},risingS p r=true→(p::r).Pairwise fun a b=>leS a b=true
 | [],p,_=>List.pairwise_singleton _ _
 | x::r,p,h=>by
  obtain ⟨h1,h2⟩:=bap (show (!ltCps x.cps.toList p.cps.toList&&risingS x r)=true from h)
  have ih:=zre h2
  refine List.pairwise_cons.mpr ⟨fun y m=>?_,ih⟩
  rcases mcp m with rfl | m
  ·exact yjw h1
  ·exact zif _ _ _ (yjw h1) ((List.pairwise_cons.mp ih).1 y m)
theorem yil {ss ts:List Str} (p:ts.Perm ss) (h:sortedS ts=true):ts=zrk ss:=by
 have hp:ts.Pairwise fun a b=>leS a b=true:=by
  cases ts with
  | nil=>exact List.Pairwise.nil
  | cons x r=>exact zre h
 exact List.Perm.eq_of_pairwise (fun a b _ _=>zvm a b) hp (List.pairwise_mergeSort zif zll ss) (p.trans (List.mergeSort_perm ss leS).symm)
theorem zyi {ss ts:List Str} (p:ss.Perm ts):zrk ss=zrk ts :=
 List.Perm.eq_of_pairwise (fun a b _ _=>zvm a b) (List.pairwise_mergeSort zif zll ss) (List.pairwise_mergeSort zif zll ts) ((List.mergeSort_perm ss leS).trans (p.trans (List.mergeSort_perm ts leS).symm))
variable {G:GC} {A:Around} {O:List Addr} {s:Shared}
theorem zwi {w:World} {h:Heap}:∀ {ts:List Str} {vs:List Value},VReps w O h vs (ts.map .str)→StrsAre vs ts
 | [],_,r=>by rw [r.nil_inv];exact .nil
 | x::ts,_,r=>by
  obtain ⟨u,us,rfl,a,b⟩:=r.cons_inv
  obtain ⟨t,rfl⟩:=a.str_inv
  exact .cons x t (zwi b)
theorem ydw {w:World} {h:Heap} {ts:List Str} {vs:List Value} (x:StrsAre vs ts):(∀ t∈ts,sok (.str t)=true)→VReps w O h vs (ts.map .str):=by
 induction x with
 | nil=>exact fun _=>.nil
 | cons y t _ ih=>exact fun k=>.cons (.str (k y mch)) (ih fun z m=>k z (mct _ m))
theorem zrl (B:Base G s.heap) (p:0<s.toks) (ov:OVal O s.heap) {u:Value} {ts:List Str} (hl:ts.length<64) (r:VRep G.w O s.heap u (.list (ts.map .str))):Sat G A O (call (.builtin "sorted") [u]) s (.list ((zrk ts).map .str)):=by
 refine Sat.of B p fun Q E q=>?_
 obtain ⟨a,vs,rfl,_,la,ra⟩:=r.list_inv
 have e:=ra.length
 rw [List.length_map] at e
 have hs:=sokAll_iff.mp ra.sok
 refine sorted_strs (vs:=vs.toList) (by rw [Array.toArray_toList];exact la) (zwi ra) (by rw [e];exact hl) fun out ss' h1 h2 h3=>?_
 obtain ⟨n,hn⟩:=sortedAll_at s.heap vs.toList out
 have es:=yil h2 h3
 subst es
 have hle:(zrk ts).length=ts.length:=h2.length_eq
 have hf:s.heap.get? (s.heap.objs.size+1)=none:=by
  cases e:s.heap.get? (s.heap.objs.size+1) with
  | none=>rfl
  | some o=>exact absurd (Heap.lt_size e) (Nat.not_lt.mpr (Nat.le_succ _))
 exact q _ _ s.toks (fun b o e=>sortedAll_old e) (.list_of (by rw [List.length_map,hle];omega) (ov.new hf) ⟨_,hn,rfl,_,rfl⟩ (fun o e=>by rw [hn] at e;obtain rfl:=soi e;rfl) (ydw h1 fun t m=>hs _ (List.mem_map.mpr ⟨t,h2.mem_iff.mp m,rfl⟩)))
end Internal
namespace Internal
variable {G:GC} {A:Around} {O:List Addr} {s:Shared} {d:D}
noncomputable def zgi:List D→Option (List Int)
 | []=>some []
 | .int i::r=>(zgi r).map (i :: ·)
 | _::_=>none
theorem zsu:∀ {xs:List D} {ns:List Int},zgi xs=some ns→xs=ns.map .int
 | [],ns,h=>by simp [zgi] at h;subst h;rfl
 | .int i::r,ns,h=>by
  simp only [zgi,Option.map_eq_some_iff] at h
  obtain ⟨ms,h1,rfl⟩:=h
  rw [zsu h1];rfl
 | .none::_,ns,h | .bool _::_,ns,h | .str _::_,ns,h | .list _::_,ns,h | .tuple _::_,ns,h | .dict _::_,ns,h=>by simp [zgi] at h
theorem ycx (ns:List Int):preSum (fun i=>ns.getD i 0) ns.length=ns.sum:=by
 have h:∀ k,k≤ns.length→preSum (fun i=>ns.getD i 0) k=(ns.take k).sum:=by
  intro k
  induction k with
  | zero=>intro _;rfl
  | succ k ih =>
   intro hk
   have e:ns[k]?=some (ns.getD k 0):=by
    rw [List.getD_eq_getElem?_getD]
    have:k<ns.length:=hk
    simp [this]
   rw [preSum,ih (by omega),List.take_add_one,e,List.sum_append]
   simp
 rw [h _ (Nat.le_refl _),List.take_length]
theorem VReps.ints {w:World} {h:Heap} {vs:List Value} {ns:List Int} (r:VReps w O h vs (ns.map .int)):∀ (i:Nat) (v:Value),vs[i]?=some v→∃ t,v=Value.int (ns.getD i 0) t:=fun i v e=>by
 have hi:i<ns.length:=by
  have:=r.length
  rw [List.length_map] at this
  rw [← this]
  exact (List.getElem?_eq_some_iff.mp e).1
 obtain ⟨u,e',q⟩:=r.get i (.int (ns.getD i 0)) (by rw [List.getElem?_map,List.getD_eq_getElem?_getD];simp [hi])
 rw [e] at e';obtain rfl:=soi e'
 exact q.int_inv
theorem ydy (B:Base G s.heap) (p:0<s.toks) (hh:A.handled=none) {u:Value} {ns:List Int} (r:VRep G.w O s.heap u (.list (ns.map .int))):Sat G A O (call (.builtin "sum") [u]) s (.int ns.sum):=by
 refine Sat.of B p fun Q E q=>?_
 obtain ⟨a,vs,rfl,_,la,ra⟩:=r.list_inv
 have e:=ra.length
 simp only [Array.length_toList,List.length_map] at e
 have ha:a<s.heap.objs.size:=by obtain ⟨o,ho,_⟩:=id la;exact Heap.lt_size ho
 refine call_sum_walkG (wpAny_pyIter_list la ⟨s.heap.objs.size,_,_,_,_,_,fun i=>ns.getD i 0,rfl,Walks.list (by simpa using hh) _ a (Nat.ne_of_lt ha) vs,⟨⟨_,Heap.get?_push_size _ rfl,rfl,rfl⟩, ?_⟩, ?_, ?_, ?_⟩)
 ·obtain ⟨o,ho,r⟩:=la;exact ⟨o,Heap.get?_push_of_some _ ho,r⟩
 ·intro b hb
  simp only [List.mem_cons,List.not_mem_nil,or_false] at hb
  show b<(s.heap.push _).objs.size
  rw [Heap.size_push]
  rcases hb with rfl | rfl
  ·exact Nat.lt_succ_self _
  ·exact Nat.lt_succ_of_lt ha
 ·intro i v hv
  exact ra.ints i v (by simpa using hv)
 ·intro h' tk t' hk
  have:=q (.int ns.sum t') h' tk (fun b o e'=>hk b o (fun m=>by simp only [List.mem_singleton] at m;rw [m,zak] at e';exact nn e') (Heap.get?_push_of_some _ e')) .int
  rw [← ycx,← e] at this
  exact this
noncomputable def imax:List Int→Int
 | []=>0
 | n::r=>r.foldl (fun m x=>if x > m then x else m) n
theorem zpf (bt:Int→Int→Bool) (n:Int) (r:List Int):∀ k,k≤r.length →
  (n::r).getD (argBest (fun i j=>bt ((n::r).getD i 0) ((n::r).getD j 0)) k) 0=(r.take k).foldl (fun m x=>if bt x m=true then x else m) n:=by
 intro k
 induction k with
 | zero=>intro _;rfl
 | succ k ih =>
  intro hk
  have ih:=ih (by omega)
  have hk':k<r.length:=hk
  have e:r[k]?=some ((n::r).getD (k+1) 0):=by
   rw [List.getD_eq_getElem?_getD]
   simp [hk']
  rw [List.take_add_one,e]
  simp only [Option.toList_some,List.foldl_append,List.foldl_cons,List.foldl_nil]
  rw [← ih,argBest]
  split <;> rfl
theorem ybw (B:Base G s.heap) (p:0<s.toks) (hh:A.handled=none) {u:Value} {ns:List Int} (hne:ns≠[]) (r:VRep G.w O s.heap u (.list (ns.map .int))):Sat G A O (call (.builtin "max") [u]) s (.int (imax ns)):=by
 refine Sat.of B p fun Q E q=>?_
 obtain ⟨a,vs,rfl,_,la,ra⟩:=r.list_inv
 have e:=ra.length
 simp only [Array.length_toList,List.length_map] at e
 have ha:a<s.heap.objs.size:=by obtain ⟨o,ho,_⟩:=id la;exact Heap.lt_size ho
 have hval:∀ (i:Nat) (v:Value),vs[i]?=some v→∃ t,v=.int (ns.getD i 0) t:=fun i v hv=>ra.ints i v (by simpa using hv)
 have hpos:0<vs.size:=by rw [e];exact List.length_pos_iff.mpr hne
 refine call_max_walk (wpAny_pyIter_list la ⟨s.heap.objs.size,_,_,_,_,_,fun i j=>decide (ns.getD i 0 > ns.getD j 0),rfl,Walks.list (by simpa using hh) _ a (Nat.ne_of_lt ha) vs,⟨⟨_,Heap.get?_push_size _ rfl,rfl,rfl⟩, ?_⟩, ?_,hpos, ?_, ?_⟩)
 ·obtain ⟨o,ho,r⟩:=la;exact ⟨o,Heap.get?_push_of_some _ ho,r⟩
 ·intro b hb
  simp only [List.mem_cons,List.not_mem_nil,or_false] at hb
  show b<(s.heap.push _).objs.size
  rw [Heap.size_push]
  rcases hb with rfl | rfl
  ·exact Nat.lt_succ_self _
  ·exact Nat.lt_succ_of_lt ha
 ·exact CmpOf.ints_gt (fun i=>ns.getD i 0) hval
 ·intro v h' tk hP hk
  obtain ⟨t,rfl⟩:=hval _ _ hP
  have:=q (.int (imax ns) t) h' tk (fun b o e'=>hk b o (fun m=>by simp only [List.mem_singleton] at m;rw [m,zak] at e';exact nn e') (Heap.get?_push_of_some _ e')) .int
  cases ns with
  | nil=>exact absurd rfl hne
  | cons n r' =>
   have key:=zpf (fun x m=>decide (x > m)) n r' r'.length (Nat.le_refl _)
   rw [List.take_length] at key
   have e':vs.size-1=r'.length:=by rw [e];rfl
   rw [e',key]
   simpa [imax] using this
inductive Bf where
 | len | sum | max | chr | divmod | sorted
noncomputable def Bf.val:Bf→Value
 | .len=>.builtin "len"
 | .sum=>.builtin "sum"
 | .max=>.builtin "max"
 | .chr=>.builtin "chr"
 | .divmod=>.builtin "divmod"
 | .sorted=>.builtin "sorted"
noncomputable def evBf (f:Bf) (ds:List D):Option D:=match f with
 | .len=>d1 ds fun d=>match d with | .str x=>some (.int x.length) | .list xs=>some (.int xs.length) | .tuple xs=>some (.int xs.length) | _=>none
 | .sum=>d1 ds fun d=>oLst d fun xs=>(zgi xs).map fun ns=>.int ns.sum
 | .max=>match ds with
  | [d]=>oLst d fun xs=>match zgi xs with
   | some (n::r)=>some (.int (imax (n::r)))
   | _=>none
  | [a,b]=>oInt a fun a=>oInt b fun b=>some (.int (if b > a then b else a))
  | _=>none
 | .chr=>d1 ds fun d=>oInt d fun i=>if decide (0≤i)&&decide (i≤1114111) then some (.str ⟨#[i.toNat]⟩) else none
 | .divmod=>d2 ds fun a b=>oInt a fun a=>oInt b fun b=>if b != 0&&decide (b.natAbs.log2<9000) then some (.tuple [.int (a.fdiv b), .int (a.fmod b)]) else none
 | .sorted=>d1 ds fun d=>oLst d fun xs=>(zjh xs).bind fun ts=>if decide (ts.length<64) then some (.list ((zrk ts).map .str)) else none
theorem yik {x:Str} (hx:sok (.str x)=true) {i c:Nat} (e:x.cps[i]?=some c):sok (.str ⟨#[c]⟩)=true:=by
 refine sok_str.mpr ⟨?_,by show #[c].size≤_;simp⟩
 have h':x.cps.all (· < 0x110000)=true:=(sok_str.mp hx).1
 rw [Array.all_eq_true_iff_forall_mem] at h'
 have:=h' c (Array.mem_of_getElem? e)
 show #[c].all (· < 0x110000)=true
 simpa using this
theorem VReps.one {w:World} {h:Heap} {vs:List Value} {d:D} (r:VReps w O h vs [d]):∃ v,vs=[v]∧VRep w O h v d:=by
 obtain ⟨u,us,rfl,a,b⟩:=r.cons_inv;rw [b.nil_inv];exact ⟨u,rfl,a⟩
theorem VReps.two {w:World} {h:Heap} {vs:List Value} {d e:D} (r:VReps w O h vs [d,e]):∃ v u,vs=[v,u]∧VRep w O h v d∧VRep w O h u e:=by
 obtain ⟨u,us,rfl,a,b⟩:=r.cons_inv;obtain ⟨v,rfl,c⟩:=b.one;exact ⟨u,v,rfl,a,c⟩
theorem yfi (B:Base G s.heap) (p:0<s.toks) (ov:OVal O s.heap) (hh:A.handled=none) {f:Bf} {vs:List Value} {ds:List D} (r:VReps G.w O s.heap vs ds) (h:evBf f ds=some d):Sat G A O (call f.val vs) s d:=by
 have e63:(2:Int)^63=9223372036854775808:=by decide
 cases f with
 | len =>
  obtain ⟨e,rfl,g⟩:=zhz h;clear h
  obtain ⟨v,rfl,rr⟩:=r.one;clear r;have r:=rr;clear rr
  split at g
  ·obtain rfl:=soi g
   have:=(sok_str.mp r.sok).2
   obtain ⟨t,rfl⟩:=r.str_inv
   exact Sat.of0 B p fun Q E q=>P.len_str (by omega) (q _ _ .int)
  ·obtain rfl:=soi g
   have hl:=r.list_len
   obtain ⟨a,vs,rfl,_,la,ra⟩:=r.list_inv
   have e:=ra.length
   simp only [Array.length_toList] at e
   exact Sat.of0 B p fun Q E q=>len_list la (by omega) (by rw [e];exact q _ _ .int)
  ·obtain rfl:=soi g
   have hl:=r.tuple_len
   obtain ⟨a,vs,rfl,la,ra⟩:=r.tuple_inv
   have e:=ra.length
   simp only [Array.length_toList] at e
   exact Sat.of0 B p fun Q E q=>len_tuple la (by omega) (by rw [e];exact q _ _ .int)
  ·exact nn g
 | sum =>
  obtain ⟨e,rfl,g⟩:=zhz h;clear h
  obtain ⟨xs,rfl,g2⟩:=zgy g;clear g
  obtain ⟨ns,h1,rfl⟩:=Option.map_eq_some_iff.mp g2
  obtain ⟨v,rfl,rr⟩:=r.one;clear r;have r:=rr;clear rr
  rw [zsu h1] at r
  exact ydy B p hh r
 | max =>
  cases ds with
  | nil=>exact nn h
  | cons x ds =>
   cases ds with
   | nil =>
    have g:(oLst x fun xs=>match (generalizing:=false) zgi xs with
     | some (n::r)=>some (.int (imax (n::r)))
     | _=>none)=some d:=h
    clear h
    obtain ⟨xs,rfl,g2⟩:=zgy g
    clear g
    split at g2 <;> cases g2
    rename_i h1
    obtain ⟨v,rfl,rr⟩:=r.one;clear r;have r:=rr;clear rr
    rw [zsu h1] at r
    exact ybw B p hh (by simp) r
   | cons y ds =>
    cases ds with
    | nil =>
     have g:(oInt x fun a=>oInt y fun b=>some (.int (if b > a then b else a)))=some d:=h
     clear h
     obtain ⟨a,rfl,g2⟩:=zas g
     obtain ⟨b,rfl,g3⟩:=zas g2
     clear g g2
     obtain rfl:=soi g3;obtain ⟨v,u,rfl,r1,r2⟩:=r.two
     obtain ⟨t,rfl⟩:=r1.int_inv;obtain ⟨t',rfl⟩:=r2.int_inv
     refine Sat.of B p fun Q E q=>max_two_ints hh fun h' tk hk=>?_
     by_cases c:b > a
     ·rw [if_pos c] at *;exact q _ h' tk hk .int
     ·rw [if_neg c] at *;exact q _ h' tk hk .int
    | cons z ds=>exact nn h
 | chr =>
  obtain ⟨e,rfl,g⟩:=zhz h;clear h
  obtain ⟨i,rfl,g2⟩:=zas g;clear g
  obtain ⟨c,rfl⟩:=zaj g2
  obtain ⟨v,rfl,rr⟩:=r.one;clear r;have r:=rr;clear rr
  obtain ⟨t,rfl⟩:=r.int_inv
  simp only [Bool.and_eq_true,decide_eq_true_eq] at c
  refine Sat.of0 B p fun Q E q=>chr_of_range c.1 c.2 (q _ _ (.str (sok_str.mpr ⟨?_,by show 1≤_;omega⟩)))
  simp [PyData.strOk];omega
 | divmod =>
  obtain ⟨e,e',rfl,g⟩:=zua h;clear h
  obtain ⟨a,rfl,g2⟩:=zas g;clear g
  obtain ⟨b,rfl,g3⟩:=zas g2;clear g2
  obtain ⟨c,rfl⟩:=zaj g3
  obtain ⟨c1,c2⟩:=bap c
  obtain ⟨v,u,rfl,r1,r2⟩:=r.two
  obtain ⟨t,rfl⟩:=r1.int_inv;obtain ⟨t',rfl⟩:=r2.int_inv
  refine Sat.of B p fun Q E q=>divmod_int (by simpa using c1) (q _ _ _ (fun b o e=>Heap.get?_push_of_some _ e) (.tuple_of (by simp) ⟨_,Heap.get?_push_size _ rfl,rfl,_,rfl⟩ ?_)) (.inl (PyProof.noPylong_of_log2 (of_decide_eq_true c2)))
  exact .cons .int (.cons .int .nil)
 | sorted =>
  obtain ⟨e,rfl,g⟩:=zhz h;clear h
  obtain ⟨xs,rfl,g2⟩:=zgy g;clear g
  obtain ⟨ts,h1,g3⟩:=Option.bind_eq_some_iff.mp g2
  obtain ⟨c,rfl⟩:=zaj g3
  obtain ⟨v,rfl,rr⟩:=r.one;clear r;have r:=rr;clear rr
  rw [ztl h1] at r
  exact zrl B p ov (of_decide_eq_true c) r
end Internal
namespace Internal
variable {G:GC} {A:Around} {O:List Addr} {s:Shared} {d:D}
inductive Mt where
 | join | startswith | endswith | find3 | count | get | bitlen
noncomputable def Mt.name:Mt→Str
 | .join => "join"
 | .startswith => "startswith"
 | .endswith => "endswith"
 | .find3 => "find"
 | .count => "count"
 | .get => "get"
 | .bitlen => "bit_length"
noncomputable def zsp (x y:Str) (i j:Int):Int:=match Builtin.Str.occurrences x y (fromIndex x.length i) (min (fromIndex x.length j) x.length) 1 with | k::_=>(k:Int) | [] => -1
theorem zsq (x y:Str) (i j:Int) (t u v v':Tok):Gives (Builtin.«str.find» ⟨[.str x t, .str y u, .int i v, .int j v'],[]⟩) (.int (zsp x y i j)):=by
 show Gives (match Builtin.Str.occurrences x y (fromIndex x.length i) (min (fromIndex x.length j) x.length) 1 with | k::_=>retInt k | []=>(do rule "str.find.not-found";retInt (-1))) _
 unfold zsp
 cases Builtin.Str.occurrences x y (fromIndex x.length i) (min (fromIndex x.length j) x.length) 1 with
 | nil=>exact .rule (.of_eq rfl)
 | cons k _=>exact .of_eq rfl
noncomputable def d3 (ds:List D) (k:D→D→D→Option D):Option D:=match ds with | [d,e,f]=>k d e f | _=>none
theorem yjf {ds:List D} {k:D→D→D→Option D} {r:D} (h:d3 ds k=some r):∃ d e f,ds=[d,e,f]∧k d e f=some r:=by
 cases ds with
 | nil=>exact nn h
 | cons d ds=>cases ds with
  | nil=>exact nn h
  | cons e ds=>cases ds with
   | nil=>exact nn h
   | cons f ds=>cases ds with
    | nil=>exact ⟨d,e,f,rfl,h⟩
    | cons g ds=>exact nn h
noncomputable def oDct (d:D) (k:List (D × D)→Option D):Option D:=match d with | .dict x=>k x | _=>none
theorem yhm {d:D} {k:List (D × D)→Option D} {r:D} (h:oDct d k=some r):∃ x,d=.dict x∧k x=some r:=by
 cases d with
 | dict x=>exact ⟨x,rfl,h⟩
 | _=>exact nn h
noncomputable def evMt (m:Mt) (o:D) (ds:List D):Option D:=match m with
 | .join=>oStr o fun x=>d1 ds fun d=>oLst d fun xs=>match zjh xs with
  | some ts=>if JoinOk x ts&&sok (.str (Txt.join x ts)) then some (.str (Txt.join x ts)) else none
  | none=>none
 | .startswith=>oStr o fun x=>d1 ds fun d=>oStr d fun y=>some (.bool (Txt.startswith x y))
 | .endswith=>oStr o fun x=>d1 ds fun d=>oStr d fun y=>some (.bool (Txt.endswith x y))
 | .find3=>oStr o fun x=>d3 ds fun a b c=>oStr a fun y=>oInt b fun i=>oInt c fun j=>some (.int (zsp x y i j))
 | .count=>match o with
  | .str x=>d1 ds fun d=>oStr d fun y=>some (.int (Txt.count x y))
  | .list xs=>d1 ds fun d=>if dep 8 d&&dep 8 (.list xs) then some (.int (xs.countP fun y=>PyData.eqv y d)) else none
  | _=>none
 | .get=>oDct o fun kvs=>d2 ds fun a b=>oStr a fun x=>oStr b fun z=>match (lookup (.str x) kvs).getD (.str z) with
  | .str y=>if sok (.str y) then some (.str y) else none
  | _=>none
 | .bitlen=>oInt o fun a=>match ds with | []=>some (.int (ib a)) | _=>none
theorem zjw {w:World} {h:Heap}:∀ {ts:List Str} {vs:List Value},VReps w O h vs (ts.map .str)→∃ l:List (Str × Tok),vs=strValues l∧l.map (·.1)=ts
 | [],_,r=>⟨[],r.nil_inv,rfl⟩
 | x::ts,_,r=>by
  obtain ⟨u,us,rfl,a,b⟩:=r.cons_inv
  obtain ⟨t,rfl⟩:=a.str_inv
  obtain ⟨l,rfl,rfl⟩:=zjw b
  exact ⟨(x,t)::l,rfl,rfl⟩
theorem zie {kvs:List (D × D)} {u:Value} (r:VRep G.w O s.heap u (.dict kvs)) (hk:∀ q∈kvs,∃ x,q.1=PyData.str x):∃ a bs,u=.ref a∧IsDict G.prog G.w s.heap a kvs bs:=by
 obtain ⟨as,x,y,z⟩:=r
 cases x with
 | dict h1 h2 h3 h4 h5 =>
  rename_i a o es n as' bs
  obtain ⟨lo,ex,hh,hp⟩:=((y a mch).2 o h1).2 es n h3
  refine ⟨a,bs,rfl,IsDict.of0 ⟨lo,o,es,n,h1,ex,h3, ?_,h5,hk, ?_⟩ ?_⟩
  ·have e:as'=[]:=readsAll_strs_nil _ _ _ h4 fun d hd=>by
    obtain ⟨q,hq,rfl⟩:=mmp hd
    exact hk q hq
   rw [e] at h4;exact h4
  ·-- the keys are apart
   have key:∀ (el:List DictEntry) (kv:List (D × D)) (cs:List Addr),ReadsAll s.heap (el.map (·.key)) (kv.map (·.1)) cs→el.Pairwise (fun e f=>∀ x t u,e.key=.str x t→f.key≠.str x u) →
     (∀ q∈kv,∃ x,q.1=PyData.str x)→(kv.map (·.1)).Nodup:=by
    intro el
    induction el with
    | nil=>intro kv cs r _ _;cases kv with
     | nil=>exact List.nodup_nil
     | cons q kv=>cases r
    | cons e el ih =>
     intro kv cs r hp hs
     cases kv with
     | nil=>cases r
     | cons q kv =>
      cases r with
      | cons r1 r2 =>
       obtain ⟨p1,p2⟩:=List.pairwise_cons.mp hp
       refine List.nodup_cons.mpr ⟨fun hm=>?_,ih kv _ r2 p2 fun q' hq'=>hs q' (mct _ hq')⟩
       obtain ⟨x,hx⟩:=hs q mch
       have r1:Reads s.heap e.key q.1 _:=r1
       have hm:q.1∈kv.map (·.1):=hm
       rw [hx] at r1 hm
       obtain ⟨t,hv,_⟩:=reads_str_inv r1
       have:∀ (el:List DictEntry) (kv:List (D × D)) (cs:List Addr),ReadsAll s.heap (el.map (·.key)) (kv.map (·.1)) cs→PyData.str x∈kv.map (·.1)→∃ f∈el,∃ u,f.key=.str x u:=by
        intro el
        induction el with
        | nil=>intro kv cs r hm;cases kv with
         | nil=>simp at hm
         | cons _ _=>cases r
        | cons f el ih =>
         intro kv cs r hm
         cases kv with
         | nil=>simp at hm
         | cons q kv =>
          cases r with
          | cons r1 r2 =>
           rw [List.map_cons] at hm
           rcases mcp hm with hm | hm
           ·have r1:Reads s.heap f.key q.1 _:=r1
            rw [← hm] at r1
            obtain ⟨u,hu,_⟩:=reads_str_inv r1
            exact ⟨f,mch,u,hu⟩
           ·obtain ⟨g,hg,u,hu⟩:=ih kv _ r2 hm
            exact ⟨g,mct _ hg,u,hu⟩
       obtain ⟨f,hf,u,hu⟩:=this el kv _ r2 hm
       exact p1 f hf x t u hv hu
   exact key _ _ _ h4 hp hk
  ·intro o' es' n' e1 e2 e he x t hkey
   rw [h1] at e1;obtain rfl:=soi e1
   rw [h3] at e2;cases e2
   obtain ⟨x',t',hk',hh'⟩:=hh e (by simpa using he)
   rw [hkey] at hk';cases hk'
   exact hh'
theorem zia {kvs:List (D × D)} {u:Value} (r:VRep G.w O s.heap u (.dict kvs)):∀ q∈kvs,∃ x,q.1=PyData.str x:=by
 obtain ⟨as,x,y,z⟩:=r
 cases x with
 | dict h1 h2 h3 h4 h5 =>
  rename_i a o es n as' bs
  obtain ⟨lo,ex,hh,hp⟩:=((y a mch).2 o h1).2 es n h3
  have key:∀ (el:List DictEntry) (kv:List (D × D)) (cs:List Addr),ReadsAll s.heap (el.map (·.key)) (kv.map (·.1)) cs→(∀ e∈el,∃ x t,e.key=.str x t∧e.hash=hashStr G.w x)→∀ q∈kv,∃ x,q.1=PyData.str x:=by
   intro el
   induction el with
   | nil=>intro kv cs r _ q hq;cases kv with
    | nil=>simp at hq
    | cons _ _=>cases r
   | cons e el ih =>
    intro kv cs r hs q hq
    cases kv with
    | nil=>simp at hq
    | cons q' kv =>
     cases r with
     | cons r1 r2 =>
      rcases mcp hq with rfl | hq
      ·obtain ⟨x,t,hk,_⟩:=hs e mch
       have r1:Reads s.heap e.key q.1 _:=r1
       rw [hk] at r1
       generalize q.1=k at r1
       cases r1
       exact ⟨x,rfl⟩
      ·exact ih kv _ r2 (fun e' he'=>hs e' (mct _ he')) q hq
  exact key _ _ _ h4 hh
theorem zxx {vs:Array Value} {xs:List D} {u:Value} {d:D} (hu:A.units+100<cLine) (ra:VReps G.w O s.heap vs.toList xs) (ru:VRep G.w O s.heap u d) (c1:dep 8 d=true) (c2:dep 8 (.list xs)=true) (sl:sok (.list xs)=true) :
  ∀ y,y∈vs→SeqAt.EqAt A.in1 s y u (PyData.eqv (SeqAt.readOf s.heap y) d):=by
 obtain ⟨as,x,_,_⟩:=ra;obtain ⟨bs,y,_,sb⟩:=ru
 have l1:=zhl _ 8 c1 sb
 have l2:=zhl _ 8 c2 sl
 simp only [PyData.canLay0,PyData.depth] at l2
 refine SeqAt.items_eqAt x y l2.1 l1.1 ?_
 have:=Nat.min_le_right (PyData.depthAll xs) d.depth
 omega
theorem zxv {vs:Array Value} {xs:List D} (ra:VReps G.w O s.heap vs.toList xs) (c2:dep 8 (.list xs)=true) (sl:sok (.list xs)=true):vs.toList.map (SeqAt.readOf s.heap)=xs:=by
 obtain ⟨as,x,_,_⟩:=ra
 have l2:=zhl _ 8 c2 sl
 simp only [PyData.canLay0,PyData.depth] at l2
 exact SeqAt.readsAll_map xs _ _ l2.1 x
theorem yhd (hu:A.units+100<cLine) {m:Mt} {u:Value} {o:D} {ds:List D} (ro:VRep G.w O s.heap u o) (h:evMt m o ds=some d) :
  (∀ (pl:Sem Bool) (Q:Value × List Value→Shared→Prop) (E:Value→Shared→Prop),(∀ id,(∀ s2 vs,Ext G s s2→VReps G.w O s2.heap vs ds→Sat G A O (call (.builtin id) (u::vs)) s2 d)→Q (.builtin id,[u]) s)→wpAny (mdl G) A (getMethod u m.name pl) Q E s):=by
 intro pl Q E q
 cases m with
 | join =>
  obtain ⟨x,rfl,g⟩:=zck h;clear h
  obtain ⟨e,rfl,g2⟩:=zhz g;clear g
  obtain ⟨xs,rfl,g3⟩:=zgy g2;clear g2
  cases h1:zjh xs with
  | none=>rw [h1] at g3;exact nn g3
  | some ts =>
   rw [h1] at g3
   obtain ⟨c,rfl⟩:=zaj g3
   obtain ⟨c1,c2⟩:=bap c
   obtain ⟨t,rfl⟩:=ro.str_inv
   refine GM.join (q _ fun s2 vs x2 r=>?_)
   obtain ⟨v,rfl,rr⟩:=r.one
   rw [ztl h1] at rr
   obtain ⟨a,us,rfl,_,la,ra⟩:=rr.list_inv
   obtain ⟨l,e1,e2⟩:=zjw ra
   exact Sat.of0 x2.base x2.pos fun Q E q=>SC.join (l:=l) (by rw [← e1];simpa using la) e2 c1 fun t' k=>q _ _ (.str c2)
 | startswith =>
  obtain ⟨x,rfl,g⟩:=zck h;clear h
  obtain ⟨e,rfl,g2⟩:=zhz g;clear g
  obtain ⟨y,rfl,g3⟩:=zck g2;clear g2
  obtain rfl:=soi g3;obtain ⟨t,rfl⟩:=ro.str_inv
  refine GM.startswith (q _ fun s2 vs x2 r=>?_)
  obtain ⟨v,rfl,rr⟩:=r.one;obtain ⟨t',rfl⟩:=rr.str_inv
  exact Sat.of0 x2.base x2.pos fun Q E q=>SC.startswith (q _ s2.toks .bool)
 | endswith =>
  obtain ⟨x,rfl,g⟩:=zck h;clear h
  obtain ⟨e,rfl,g2⟩:=zhz g;clear g
  obtain ⟨y,rfl,g3⟩:=zck g2;clear g2
  obtain rfl:=soi g3;obtain ⟨t,rfl⟩:=ro.str_inv
  refine GM.endswith (q _ fun s2 vs x2 r=>?_)
  obtain ⟨v,rfl,rr⟩:=r.one;obtain ⟨t',rfl⟩:=rr.str_inv
  exact Sat.of0 x2.base x2.pos fun Q E q=>SC.endswith (q _ s2.toks .bool)
 | find3 =>
  obtain ⟨x,rfl,g⟩:=zck h;clear h
  obtain ⟨a,b,c,rfl,g2⟩:=yjf g;clear g
  obtain ⟨y,rfl,g3⟩:=zck g2;clear g2
  obtain ⟨i,rfl,g4⟩:=zas g3;clear g3
  obtain ⟨j,rfl,g5⟩:=zas g4;clear g4
  obtain rfl:=soi g5;obtain ⟨t,rfl⟩:=ro.str_inv
  refine GM.find (q _ fun s2 vs x2 r=>?_)
  obtain ⟨v,us,rfl,r1,r2⟩:=r.cons_inv;obtain ⟨v',v'',rfl,r3,r4⟩:=r2.two
  obtain ⟨t',rfl⟩:=r1.str_inv;obtain ⟨t2,rfl⟩:=r3.int_inv;obtain ⟨t3,rfl⟩:=r4.int_inv
  exact Sat.of0 x2.base x2.pos fun Q E q=>call_gives F.slot_str_find (typeIs_str _ _ _) F.entry_str_find (F.args_str_find_4 _ _ _ _) (zsq _ _ _ _ _ _ _ _) (q _ _ .int)
 | count =>
  have g:(match (generalizing:=false) o with
   | .str x=>d1 ds fun d=>oStr d fun y=>some (.int (Txt.count x y))
   | .list xs=>d1 ds fun d=>if dep 8 d&&dep 8 (.list xs) then some (.int (xs.countP fun y=>PyData.eqv y d)) else none
   | _=>none)=some d:=h
  clear h
  cases o with
  | str x =>
   obtain ⟨e,rfl,g2⟩:=zhz g;clear g
   obtain ⟨y,rfl,g3⟩:=zck g2;clear g2
   obtain rfl:=soi g3;obtain ⟨t,rfl⟩:=ro.str_inv
   refine GM.count (q _ fun s2 vs x2 r=>?_)
   obtain ⟨v,rfl,rr⟩:=r.one;obtain ⟨t',rfl⟩:=rr.str_inv
   exact Sat.of0 x2.base x2.pos fun Q E q=>SC.count (q _ _ .int)
  | list xs =>
   obtain ⟨e,rfl,g2⟩:=zhz g;clear g
   obtain ⟨c,rfl⟩:=zaj g2;clear g2
   obtain ⟨c1,c2⟩:=bap c
   have so:=ro.sok
   have ro':=ro
   obtain ⟨a,us',rfl,_,la',_⟩:=ro.list_inv
   have pl':=ro.list_bare
   obtain ⟨o',ho',hc',_⟩:=id la'
   refine getMethod_builtin (T:="list") ⟨_,ho',hc'⟩ F.plainAttrs_list PySem.F.slot_list_count PySem.F.type_list_count (fun a' e'=>by cases e';exact ⟨_,ho',pl' _ ho'⟩) (q _ fun s2 vs x2 r=>?_)
   obtain ⟨v,rfl,rr⟩:=r.one
   obtain ⟨a2,us,e2,_,la,ra⟩:=(ro'.keep x2.keep).list_inv
   cases e2
   obtain ⟨⟨cls,dd,data,sl⟩,ho,hc,n,hd⟩:=id la
   simp only at hc hd
   subst hc hd
   refine Sat.of0 x2.base x2.pos fun Q E q=>?_
   refine call_meets PySem.F.slot_list_count ⟨_,ho,rfl⟩ PySem.F.entry_list_count (PySem.F.args_list_count_2 _ _) (SeqAt.list_countAt a us n dd sl v _) ⟨ho,zxx hu ra rr c1 c2 so, ?_⟩
   have e1:us.toList.countP (fun y=>PyData.eqv (SeqAt.readOf s2.heap y) e)=xs.countP fun y=>PyData.eqv y e:=by
    conv=>rhs;rw [← zxv ra c2 so,List.countP_map]
    rfl
   rw [e1]
   exact q _ _ .int
  | _=>exact nn g
 | get =>
  obtain ⟨kvs,rfl,g⟩:=yhm h;clear h
  obtain ⟨e1,e2,rfl,g2⟩:=zua g;clear g
  obtain ⟨x,rfl,g3⟩:=zck g2;clear g2
  obtain ⟨z,rfl,g4⟩:=zck g3;clear g3
  cases hy:(lookup (.str x) kvs).getD (.str z) with
  | str y =>
   rw [hy] at g4
   obtain ⟨c,rfl⟩:=zaj g4
   clear g4
   have ro':=ro
   obtain ⟨a,bs,rfl,T⟩:=zie ro (zia ro)
   refine getMethod_dict PySem.F.slot_dict_get PySem.F.type_dict_get T (q _ fun s2 vs x2 r=>?_)
   obtain ⟨a',bs',e',T'⟩:=zie (ro'.keep x2.keep) (zia (ro'.keep x2.keep))
   cases e'
   obtain ⟨v,v',rfl,r1,r2⟩:=r.two
   obtain ⟨t,rfl⟩:=r1.str_inv;obtain ⟨t',rfl⟩:=r2.str_inv
   refine Sat.of0 x2.base x2.pos fun Q E q=>call_get2_dict T' (.str z t') fun v as hv=>?_
   rw [hy] at hv
   obtain ⟨t2,rfl,_⟩:=reads_str_inv hv
   exact q _ _ (.str c)
  | _=>rw [hy] at g4;exact nn g4
 | bitlen =>
  obtain ⟨a,rfl,g⟩:=zas h;clear h
  cases ds with
  | cons x xs=>exact nn g
  | nil =>
   obtain rfl:=soi g;obtain ⟨t,rfl⟩:=ro.int_inv
   refine PyProof.Rows.getMethod_int_bit_length (q _ fun s2 vs x2 r=>?_)
   obtain rfl:=r.nil_inv
   exact Sat.of0 x2.base x2.pos fun Q E q=>PyProof.Rows.call_int_bit_length (q _ _ .int)
end Internal
namespace Internal
variable {G:GC} {A:Around} {O:List Addr} {s:Shared} {d:D}
noncomputable def strV (d:D):Option D:=match d with | .str y=>if sok (.str y) then some (.str y) else none | _=>none
theorem yip {d r:D} (h:strV d=some r):∃ y,d=.str y∧sok (.str y)=true∧r=.str y:=by
 cases d with
 | str y=>exact (zaj h).elim fun c e=>⟨y,rfl,c,e.symm⟩
 | _=>exact nn h
noncomputable def zkz (a i:D):Option D:=match a with
 | .list xs=>oInt i fun k=>(seqIndex? k xs.length).bind (xs[·]?)
 | .tuple xs=>oInt i fun k=>(seqIndex? k xs.length).bind (xs[·]?)
 | .str x=>oInt i fun k=>((seqIndex? k x.length).bind (x.cps[·]?)).map fun c=>.str ⟨#[c]⟩
 | .dict kvs=>oStr i fun x=>(lookup (.str x) kvs).bind strV
 | _=>none
theorem ycs {j:Int} {n m:Nat} (h:(if 0≤j&&j<n then some j.toNat else none)=some m):0≤j∧j=m∧m<n:=by
 by_cases c:(0≤j&&j<n)=true
 ·rw [if_pos c] at h
  obtain rfl:=soi h
  obtain ⟨a,b⟩:=bap c
  have a:=of_decide_eq_true a
  have e:=(Int.toNat_of_nonneg a).symm
  exact ⟨a,e,Int.ofNat_lt.mp (e▸of_decide_eq_true b)⟩
 ·rw [if_neg c] at h;exact nn h
theorem zfy {k:Int} {n j:Nat} (h:seqIndex? k n=some j):j<n∧((0≤k∧k=j)∨(k<0∧k+n=j ∧ -(n:Int)≤k)):=by
 by_cases h0:k<0
 ·have e:=(if_pos h0:(if k<0 then k+(n:Int) else k)=_)
  obtain ⟨a,b,c⟩:=ycs (j:=k+n) (by unfold seqIndex? at h;rw [e] at h;exact h)
  exact ⟨c, .inr ⟨h0,b,by clear e h b;omega⟩⟩
 ·have e:=(if_neg h0:(if k<0 then k+(n:Int) else k)=_)
  obtain ⟨a,b,c⟩:=ycs (j:=k) (by unfold seqIndex? at h;rw [e] at h;exact h)
  exact ⟨c, .inl ⟨a,b⟩⟩
noncomputable def zfu (e:Expr):Bool:=!(ztf e fun _ _ _ _=>true)
theorem zcq {e:Expr} (h:zfu e=true) (o i:Value):subscripted e false o i=operate [o,i] (getItem o i):=by
 rcases e with ⟨⟩ | ⟨⟩ <;> first | rfl | exact absurd h Bool.false_ne_true
theorem zlh {k:Int} {n j:Nat} (hj:j<n) (hn:n≤16777216) (c:(0≤k∧k=j)∨(k<0∧k+n=j ∧ -(n:Int)≤k)) : -(2^63)≤k∧k<2^63:=by
 have hn:(n:Int)≤2^63:=Int.le_trans (Int.ofNat_le.mpr hn) (by decide)
 rcases c with ⟨h0,rfl⟩ | ⟨h0,_,h4⟩
 ·exact ⟨Int.le_trans (by decide) h0,Int.lt_of_lt_of_le (Int.ofNat_lt.mpr hj) hn⟩
 ·exact ⟨Int.le_trans (Int.neg_le_neg hn) h4,Int.lt_trans h0 (by decide)⟩
theorem zwj {value slice:Expr} (hs:zfu slice=true) {a:Addr} {vs:Array Value} {k:Int} {t:Tok} {j:Nat} {v:Value} (la:s.heap.IsList a vs) (hl:vs.size≤16777216) (h1:seqIndex? k vs.size=some j) (hv:vs[j]?=some v)
  {Q:Value→Shared→Prop} {E:Value→Shared→Prop} (q:Q v s):wpAny (mdl G) A (subscriptTail value slice (.ref a) (.int k t)) Q E s:=by
 obtain ⟨hj,c⟩:=zfy h1
 obtain ⟨b1,b2⟩:=zlh hj hl c
 refine tail_any la.typeIs PySem.F.slot_list_getitem.lookup ?_ (zcq hs _ _)
 rcases c with ⟨h0,h3⟩ | ⟨h0,h3,h4⟩
 ·exact wpAny_getItem_list la h0 b2 (by rw [h3];exact hv) q
 ·exact wpAny_getItem_list_neg la h0 h4 b1 (by rw [h3];exact hv) q
theorem ydx (B:Base G s.heap) (p:0<s.toks) {value slice:Expr} (hs:zfu slice=true) {a i:D} {u v:Value} (ra:VRep G.w O s.heap u a) (ri:VRep G.w O s.heap v i) (h:zkz a i=some d) :
  Sat G A O (subscriptTail value slice u v) s d:=by
 refine Sat.of0 B p fun Q E q=>?_
 rcases a with ⟨⟩ | ⟨⟩
 case list xs =>
  obtain ⟨k,rfl,h⟩:=zas h
  obtain ⟨j,h1,h2⟩:=Option.bind_eq_some_iff.mp h
  have hl:=ra.list_len
  obtain ⟨t,rfl⟩:=ri.int_inv
  obtain ⟨a',vs,rfl,_,la,ra'⟩:=ra.list_inv
  have e:=ra'.length
  simp only [Array.length_toList] at e
  obtain ⟨v,hv,rv⟩:=ra'.get j _ h2
  have hv:vs[j]?=some v:=by simpa using hv
  exact zwj hs la (by rw [e];exact hl) (by rw [e];exact h1) hv (q v s.toks rv)
 case tuple xs =>
  obtain ⟨k,rfl,h⟩:=zas h
  obtain ⟨j,h1,h2⟩:=Option.bind_eq_some_iff.mp h
  have hl:=ra.tuple_len
  obtain ⟨t,rfl⟩:=ri.int_inv
  obtain ⟨a',vs,rfl,la,ra'⟩:=ra.tuple_inv
  have e:=ra'.length
  simp only [Array.length_toList] at e
  obtain ⟨v,hv,rv⟩:=ra'.get j _ h2
  have hv:vs[j]?=some v:=by simpa using hv
  obtain ⟨hj,c⟩:=zfy h1
  obtain ⟨b1,b2⟩:=zlh hj hl c
  refine tail_any la.typeIs PySem.F.slot_tuple_getitem.lookup ?_ (zcq hs _ _)
  exact getItem_tuple la b1 b2 (by rw [e];exact h1) hv (q v s.toks rv)
 case str x =>
  obtain ⟨k,rfl,h⟩:=zas h
  obtain ⟨c,h1,rfl⟩:=Option.map_eq_some_iff.mp h
  obtain ⟨j,h2,h3⟩:=Option.bind_eq_some_iff.mp h1
  have hx:=sok_str.mp ra.sok
  obtain ⟨t,rfl⟩:=ra.str_inv;obtain ⟨t',rfl⟩:=ri.int_inv
  obtain ⟨hj,c'⟩:=zfy h2
  obtain ⟨b1,b2⟩:=zlh hj hx.2 c'
  refine tail_any (typeIs_str s _ t) PySem.F.slot_str_getitem.lookup ?_ (zcq hs _ _)
  refine P.getItem_str ?_ h1 (q _ _ (.str (sok_str.mpr ⟨?_,Nat.le_of_ble_eq_true rfl⟩)))
  ·rw [decide_eq_false (Int.not_lt.mpr b1),decide_eq_false (Int.not_le.mpr b2)];rfl
  ·have hm:=Array.mem_of_getElem? h3
   have:=Array.all_eq_true_iff_forall_mem.mp hx.1 c hm
   simpa [PyData.strOk] using this
 case dict kvs =>
  obtain ⟨x,rfl,h⟩:=zck h
  obtain ⟨dv,h1,h2⟩:=Option.bind_eq_some_iff.mp h
  obtain ⟨y,rfl,hy,rfl⟩:=yip h2
  obtain ⟨t,rfl⟩:=ri.str_inv
  obtain ⟨a',bs,rfl,lo,vs,hd,hp⟩:=zie ra (zia ra)
  obtain ⟨v,as,hv,hr⟩:=hp.valueAt_of_lookup PyProof.V.same_str h1
  obtain ⟨t2,rfl,_⟩:=reads_str_inv hr
  exact tail_any hd.typeIs PySem.F.slot_dict_getitem.lookup (wpAny_getItem_of (PySem.strKind_is G.prog G.w x t) hd.mapOf hv (q _ _ (.str hy))) (zcq hs _ _)
 all_goals exact nn h
noncomputable def part:Option D→Option (Option Int)
 | none=>some none
 | some (.int i)=>some (some i)
 | some .none=>some none
 | _=>none
noncomputable def cut {α:Type} (xs:List α) (lo hi st:Option Int):List α :=
 (sliceRange (sliceBounds lo hi st xs.length).1 (sliceBounds lo hi st xs.length).2.1 (sliceBounds lo hi st xs.length).2.2).filterMap (xs[·]?)
theorem zmj {lo hi st:Option Int} {n:Nat} (hc:st.getD 1 > 0):0≤(sliceBounds lo hi st n).1∧(sliceBounds lo hi st n).2.1≤n:=by
 unfold sliceBounds
 dsimp only
 rw [if_pos hc,if_pos hc]
 constructor
 ·cases lo with
  | none=>exact Int.le_refl _
  | some i=>dsimp only;rw [if_pos hc];exact Int.le_max_left _ _
 ·cases hi with
  | none=>exact Int.le_refl _
  | some i=>dsimp only;rw [if_pos hc];exact Int.max_le.mpr ⟨Int.natCast_nonneg _,Int.min_le_right _ _⟩
theorem zwy {lo hi st:Option Int} {n:Nat} (hc:¬ st.getD 1 > 0):(sliceBounds lo hi st n).1≤(n:Int)-1 ∧ -1≤(sliceBounds lo hi st n).2.1:=by
 unfold sliceBounds
 dsimp only
 rw [if_neg hc,if_neg hc]
 constructor
 ·cases lo with
  | none=>exact Int.le_refl _
  | some i=>dsimp only;rw [if_neg hc];exact Int.max_le.mpr ⟨by omega,Int.min_le_right _ _⟩
 ·cases hi with
  | none=>exact Int.le_refl _
  | some i=>dsimp only;rw [if_neg hc];exact Int.le_max_left _ _
theorem zww (lo hi st:Option Int) (n:Nat):(sliceRange (sliceBounds lo hi st n).1 (sliceBounds lo hi st n).2.1 (sliceBounds lo hi st n).2.2).length≤n :=
 sliceRange_length_le _ _ _ _ zmj zwy
theorem zzr {α:Type} (xs:List α) (lo hi st:Option Int):(cut xs lo hi st).length≤xs.length :=
 Nat.le_trans (List.length_filterMap_le _ _) (zww lo hi st xs.length)
theorem ylq {α:Type} {xs:List α} {lo hi st:Option Int} {x:α} (h:x∈cut xs lo hi st):x∈xs:=by
 obtain ⟨i,_,e⟩:=List.mem_filterMap.mp h
 exact List.mem_of_getElem? e
theorem VReps.picks {w:World} {h:Heap} {vs:List Value} {ds:List D} (r:VReps w O h vs ds):∀ is:List Nat,VReps w O h (is.filterMap (vs[·]?)) (is.filterMap (ds[·]?))
 | []=>.nil
 | i::is=>by
  have e:=r.length
  rw [List.filterMap_cons,List.filterMap_cons]
  cases hd:ds[i]? with
  | none =>
   have:vs[i]?=none:=by rw [List.getElem?_eq_none_iff] at *;omega
   rw [this];exact r.picks is
  | some d =>
   obtain ⟨v,hv,rv⟩:=r.get i d hd
   rw [hv];exact .cons rv (r.picks is)
noncomputable def cutS (x:Str) (lo hi st:Option Int):Str:=⟨(cut x.cps.toList lo hi st).toArray⟩
noncomputable def zei (a:D) (lo hi st:Option D):Option D:=match part lo,part hi,part st with
 | some lo,some hi,some st=>if st=some 0 then none else match a with
  | .list xs=>some (.list (cut xs lo hi st))
  | .str x=>some (.str (cutS x lo hi st))
  | _=>none
 | _,_,_=>none
theorem zlk {w:World} {h:Heap} {v:Value} {od:Option D} {k:Option Int} (r:match od with | none=>v=.none | some d=>VRep w O h v d) (hp:part od=some k):IsPart v k:=by
 cases od with
 | none=>obtain rfl:=soi hp;subst r;exact .none
 | some d =>
  cases d with
  | int i=>obtain rfl:=soi hp;obtain ⟨t,rfl⟩:=VRep.int_inv r;exact .int i t
  | none=>obtain rfl:=soi hp;obtain rfl:=VRep.none_inv r;exact .none
  | _=>exact nn hp
theorem ziy {v:Value} {k:Option Int} (p:IsPart v k):∃ o:Option (Int × Tok),v=partValue o∧o.map (·.1)=k:=by
 cases p with
 | none=>exact ⟨none,rfl,rfl⟩
 | int i t=>exact ⟨some (i,t),rfl,rfl⟩
theorem yht {a b:Int} {n:Nat} (h:(if a<b then (b-a) else 0).toNat=n) (hn:n≠0) (h0:0≤a) (h1:b≤n):a=0:=by
 by_cases c:a<b
 ·rw [if_pos c] at h
  have:=Int.toNat_of_nonneg (Int.sub_nonneg_of_le (Int.le_of_lt c))
  rw [h] at this
  clear h hn c
  omega
 ·rw [if_neg c] at h;exact absurd h.symm hn
theorem zyv (xs:List Nat) (a b:Int) (h:(sliceRange a b 1).length=xs.length) (h0:0≤a) (h1:b≤xs.length):(sliceRange a b 1).filterMap (xs[·]?)=xs:=by
 have hl:(sliceRange a b 1)=(List.range (sliceRange a b 1).length).map fun k:Nat=>(a+(k:Int)).toNat:=by
  unfold sliceRange
  simp
 have hlen:(sliceRange a b 1).length=(if a<b then (b-a) else 0).toNat:=by
  unfold sliceRange
  simp
 rw [hl,h]
 by_cases hn:xs.length=0
 ·have:xs=[]:=List.length_eq_zero_iff.mp hn
  subst this;rfl
 ·obtain rfl:=yht (hlen▸h) hn h0 h1
  rw [List.filterMap_map]
  have:((fun x:Nat=>xs[x]?) ∘ fun k:Nat=>((0:Int)+(k:Int)).toNat)=fun k=>xs[k]?:=by
   funext k;simp
  rw [this]
  have:=StrLaws.picks xs xs.length 0 (by rw [Nat.zero_add];exact Nat.le_refl _)
  simpa using this
theorem zrh (B:Base G s.heap) (p:0<s.toks) (ov:OVal O s.heap) {value lo hi st:Expr} {e:Expr} {ops:List Value} {a:D} {odl odh ods:Option D} {u vl vh vs:Value} {sl:Addr}
  (ra:VRep G.w O s.heap u a) (hsl:s.heap.IsSliceOf sl vl vh vs) (rl:match odl with | none=>vl=.none | some d=>VRep G.w O s.heap vl d) (rh:match odh with | none=>vh=.none | some d=>VRep G.w O s.heap vh d)
  (rs:match ods with | none=>vs=.none | some d=>VRep G.w O s.heap vs d) (h:zei a odl odh ods=some d) (hs:subscripted e false u (.ref sl)=operate ops (getItem u (.ref sl))) :
  Sat G A O (subscriptTail value e u (.ref sl)) s d:=by
 unfold zei at h
 split at h
 ·rename_i klo khi kst h1 h2 h3
  split at h
  ·exact nn h
  ·rename_i hne
   have p1:=zlk rl h1
   have p2:=zlk rh h2
   have p3:=zlk rs h3
   split at h
   ·obtain rfl:=soi h
    refine Sat.of B p fun Q E q=>?_
    have hl:=ra.list_len
    obtain ⟨a',ws,rfl,_,la,ra'⟩:=ra.list_inv
    have e:=ra'.length
    simp only [Array.length_toList] at e
    rename_i xs
    refine tail_any la.typeIs PySem.F.slot_list_getitem.lookup (wpAny_getItem_list_slice la hsl p1 p2 p3 hne ?_ (by rw [zay,e];exact hl)) hs
    have hk:∀ b' o',s.heap.get? b'=some o'→(s.heap.push { cls:=.type "list",data:=.seq (slicePick ws klo khi kst) }).get? b'=some o':=fun b' o' e=>Heap.get?_push_of_some _ e
    refine q _ _ _ hk (.list_of (Nat.le_trans (zzr _ _ _ _) hl) (ov.new (zak _)) ⟨_,Heap.get?_push_size _ rfl,rfl,_,rfl⟩ (zjz rfl rfl) ?_)
    have:=(ra'.picks (sliceRange (sliceBounds klo khi kst ws.size).1 (sliceBounds klo khi kst ws.size).2.1 (sliceBounds klo khi kst ws.size).2.2)).keep (.of hk)
    unfold cut
    rw [← e]
    show VReps G.w O _ (slicePick ws klo khi kst).toList _
    have e9:(slicePick ws klo khi kst).toList=(sliceRange (sliceBounds klo khi kst ws.size).1 (sliceBounds klo khi kst ws.size).2.1 (sliceBounds klo khi kst ws.size).2.2).filterMap (ws.toList[·]?):=by
     unfold slicePick;simp
    rw [e9]
    exact this
   ·obtain rfl:=soi h
    refine Sat.of0 B p fun Q E q=>?_
    rename_i x
    have hx:=sok_str.mp ra.sok
    obtain ⟨t,rfl⟩:=ra.str_inv
    obtain ⟨ol,rfl,e1⟩:=ziy p1
    obtain ⟨oh,rfl,e2⟩:=ziy p2
    obtain ⟨os,rfl,e3⟩:=ziy p3
    have hok:sok (.str (cutS x klo khi kst))=true:=by
     refine sok_str.mpr ⟨?_, ?_⟩
     ·show (cut x.cps.toList klo khi kst).toArray.all (· < 0x110000)=true
      rw [Array.all_eq_true_iff_forall_mem]
      intro c hc
      have hc:=ylq (by simpa using hc)
      exact Array.all_eq_true_iff_forall_mem.mp hx.1 c (by simpa using hc)
     ·show (cut x.cps.toList klo khi kst).toArray.size≤_
      rw [List.size_toArray]
      exact Nat.le_trans (zzr _ _ _ _) (by rw [Array.length_toList];exact hx.2)
    have h0:((os.map (·.1)).getD 1==0)=false:=by
     rw [e3]
     cases kst with
     | none=>rfl
     | some k=>simpa using fun e:k=0=>hne (by rw [e])
    refine tail_any (typeIs_str s _ t) PySem.F.slot_str_getitem.lookup (wpAny_getItem_str_slice (l:=ol) (u:=oh) (st:=os) hsl h0 ?_) hs
    have eidx:slicePicked x ol oh os=sliceRange (sliceBounds klo khi kst x.cps.toList.length).1 (sliceBounds klo khi kst x.cps.toList.length).2.1 (sliceBounds klo khi kst x.cps.toList.length).2.2:=by
     unfold slicePicked
     rw [e1,e2,e3]
     unfold Builtin.Str.strSliceIndices sliceBounds
     simp only [Array.length_toList]
     rfl
    have epick:(slicePicked x ol oh os).filterMap (x.cps[·]?)=cut x.cps.toList klo khi kst:=by
     rw [eidx];unfold cut
     congr 1
     funext i
     simp
    unfold sliceMade
    split
    ·rename_i c
     obtain ⟨c1,c2⟩:=bap c
     have c1:=bqp c1
     have c2:=bqp c2
     have:cutS x klo khi kst=x:=by
      unfold cutS
      rw [← epick,eidx]
      rw [eidx] at c2
      have e5:(sliceBounds klo khi kst x.cps.toList.length).2.2=1:=by rw [e3] at c1;exact c1
      rw [e5] at c2 ⊢
      obtain ⟨hb0,hb1⟩:=zmj (lo:=klo) (hi:=khi) (st:=kst) (n:=x.cps.toList.length) (by rw [← e3,c1];decide)
      have:=zyv x.cps.toList _ _ (by rw [c2];simp [Str.length]) hb0 hb1
      have e6:(fun i:Nat=>x.cps[i]?)=fun i=>x.cps.toList[i]?:=by funext i;simp
      rw [e6,this]
     rw [this] at q
     exact q _ s.toks (.str (sok_str.mpr hx))
    ·refine ⟨?_, ?_⟩
     ·rw [epick]
      exact (zay▸(sok_str.mp hok).2)
     ·rw [epick];exact q _ _ (.str hok)
   ·exact nn h
 ·exact nn h
end Internal
section
set_option genSizeOf false
set_option genInjectivity false
namespace Internal
section
variable {β:Type} {p:Prop} {r:β}
theorem zaq {α:Type} {o:Option α} {k:α→Option β} (h:o.bind k=some r) (q:∀ x,o=some x→k x=some r→p):p:=by
 cases o with
 | none=>exact nn h
 | some x=>exact q x rfl h
theorem zeq {α γ:Type} {a:Option α} {b:Option γ} {f:α→γ→Option β} (h:(a.bind fun x=>b.bind fun y=>f x y)=some r) (q:∀ x y,a=some x→b=some y→f x y=some r→p):p :=
 zaq h fun x e h=>zaq h fun y e' h=>q x y e e' h
theorem zmx {α:Type} {o:Option α} {k:α→β} {P:β→Prop} (h:o.map k=some r) (q:∀ x,o=some x→P (k x)):P r:=by
 cases o with
 | none=>exact nn h
 | some x=>exact soi h▸q x rfl
theorem zpg {o:Option Bool} {x y:Option β} (h:(o.bind fun t=>bif t then x else y)=some r) (q1:o=some true→x=some r→p) (q2:o=some false→y=some r→p):p :=
 zaq h fun t e h=>by
  cases t
  ·exact q2 e h
  ·exact q1 e h
theorem zfd {c:Prop} [Decidable c] {x:β} {P:β→Prop} (h:(if c then some x else none)=some r) (q:c→P x):P r:=by
 by_cases e:c
 ·rw [if_pos e] at h;exact soi h▸q e
 ·rw [if_neg e] at h;exact nn h
noncomputable def intO (o:Option D) (k:Int→Option β):Option β:=o.bind fun d=>oInt d k
theorem ybh {o:Option D} {k:Int→Option β} (h:intO o k=some r) (q:∀ x,o=some (.int x)→k x=some r→p):p :=
 zaq h fun d e h=>let ⟨x,e',h⟩:=zas h;q x (e'▸e) h
noncomputable def strO (o:Option D) (k:Str→Option β):Option β:=o.bind fun d=>oStr d k
theorem zly {o:Option D} {k:Str→Option β} (h:strO o k=some r) (q:∀ x,o=some (.str x)→k x=some r→p):p :=
 zaq h fun d e h=>let ⟨x,e',h⟩:=zck h;q x (e'▸e) h
noncomputable def lstO (o:Option D) (k:List D→Option β):Option β:=o.bind fun d=>oLst d k
theorem zdv {o:Option D} {k:List D→Option β} (h:lstO o k=some r) (q:∀ x,o=some (.list x)→k x=some r→p):p :=
 zaq h fun d e h=>let ⟨x,e',h⟩:=zgy h;q x (e'▸e) h
end
mutual
inductive E where
 | lit (d:D) | var (n:Nat) | glob (n:Nat)
 | bin (o:Operator) (a b:E) | neg (a:E) | inv (a:E)
 | cmp (o:CmpOp) (a b:E) | bop (o:BoolOp) (xs:Es) | ite (c a b:E)
 | list (xs:Es) | tup (xs:Es) | dict (kvs:List (Str × Str))
 | comp (elt:E) (gs:Gs)
 | call (f:Nat) (args:Es) | bf (f:Bf) (args:Es) | mt (m:Mt) (o:E) (args:Es) | repl (a:E) (y z:Str)
 | setlen (a:E) | dcomp (k v:E) (gs:Gs)
 | sub (a i:E) | slc (a:E) (lo hi st:Os)
 | olen (n:Nat) | oget (n:Nat) (i:E) | ocall (f n:Nat) (args:Es)
inductive Es where
 | nil | cons (e:E) (r:Es)
inductive Os where
 | no | yes (e:E)
inductive Src where
 | e (e:E) | own (n:Nat) | range (args:Es) | enum (e:E) | zip (es:Es) | rev (e:E)
inductive Gs where
 | nil | cons (tg:List Nat) (src:Src) (ifs:Es) (r:Gs)
end
noncomputable def putS (kv:List (Str × Str)) (k v:Str):List (Str × Str):=if kv.any (fun p=>p.1=k) then kv.map (fun p=>if p.1=k then (p.1,v) else p) else kv++[(k,v)]
noncomputable def strL {α:Type} (d:D) (k:Str→Option α):Option α:=match d with | .str x=>k x | _=>none
noncomputable def tupL {α:Type} (d:D) (k:List D→Option α):Option α:=match d with | .tuple x=>k x | _=>none
noncomputable def twoL {α:Type} (l:List D) (k:D→D→Option α):Option α:=match l with | [a,b]=>k a b | _=>none
noncomputable def yhr (d:D):Option (Str × Str):=tupL d fun xs=>twoL xs fun a b=>strL a fun x=>strL b fun y=>some (x,y)
noncomputable def zox (kv:List (Str × Str)) (d:D):List (Str × Str):=(yhr d).elim kv fun p=>putS kv p.1 p.2
noncomputable def znx (pre:List D):List (Str × Str):=pre.foldl zox []
noncomputable def zyq (l:List Str) (d:D):List Str:=match d with
 | .str x=>if l.any (· == x) then l else l++[x]
 | _=>l
noncomputable def setS (pre:List D):List Str:=pre.foldl zyq []
noncomputable def zlj (d:D):Bool:=(yhr d).elim false fun p=>sok (.str p.1)&&sok (.str p.2)
noncomputable def zmr (d:D):Bool:=match d with | .str k=>sok (.str k) | _=>false
noncomputable def zeu (src:Src):Bool:=match src with | .zip _=>true | _=>false
noncomputable def yju (gs:Gs):Bool:=match gs with | .cons _ src _ _=>zeu src | .nil=>false
noncomputable def oneG (gs:Gs):Bool:=match gs with | .cons _ src .nil .nil=>!zeu src | _=>false
noncomputable def ziz:D→Option (List D)
 | .list xs=>some xs
 | .tuple xs=>some xs
 | .str x=>some (x.cps.toList.map fun c=>.str ⟨#[c]⟩)
 | .dict kvs=>if decide (kvs.length≤16777216) then some (kvs.map (·.1)) else none
 | _=>none
noncomputable def zdi (a b c:Int):Option (List D) :=
 if decide (0<c)&&decide (-1073741824≤a)&&decide (a≤1073741824)&&decide (-1073741824≤b)&&decide (b≤1073741824)&&decide (c≤1073741824)&&decide (b-a≤16777216) then
  some ((List.range ((b-a+c-1) / c).toNat).map fun k:Nat=>PyData.int (a+k*c)) else none
noncomputable def evRange:List D→Option (List D)
 | [b]=>oInt b fun b=>zdi 0 b 1
 | [a,b]=>oInt a fun a=>oInt b fun b=>zdi a b 1
 | [a,b,c]=>oInt a fun a=>oInt b fun b=>oInt c fun c=>zdi a b c
 | _=>none
inductive RangeIs (ds:List D):List D→Prop
 | one (b:Int) (h:zdi 0 b 1=some ds):RangeIs ds [.int b]
 | two (a b:Int) (h:zdi a b 1=some ds):RangeIs ds [.int a, .int b]
 | three (a b c:Int) (h:zdi a b c=some ds):RangeIs ds [.int a, .int b, .int c]
theorem zsm {es ds:List D} (h:evRange es=some ds):RangeIs ds es:=by
 rcases es with ⟨⟩ | ⟨a,⟨⟩ | ⟨b,⟨⟩ | ⟨c,⟨⟩ | ⟨d,r⟩⟩⟩⟩
 ·exact nn h
 ·obtain ⟨a,rfl,h⟩:=zas h
  exact .one a h
 ·obtain ⟨a,rfl,h⟩:=zas h
  obtain ⟨b,rfl,h⟩:=zas h
  exact .two a b h
 ·obtain ⟨a,rfl,h⟩:=zas h
  obtain ⟨b,rfl,h⟩:=zas h
  obtain ⟨c,rfl,h⟩:=zas h
  exact .three a b c h
 ·exact nn h
noncomputable def zxe (xs:List D):List D:=xs.zipIdx.map fun p=>.tuple [.int p.2,p.1]
noncomputable def zvn:List D→Option (List (List D))
 | []=>some []
 | .list xs::r=>(zvn r).map (xs :: ·)
 | _::_=>none
noncomputable def zipD:List (List D)→List D
 | [xs,ys]=>(xs.zip ys).map fun p=>.tuple [p.1,p.2]
 | [xs,ys,zs]=>(xs.zip (ys.zip zs)).map fun p=>.tuple [p.1,p.2.1,p.2.2]
 | _=>[]
noncomputable def zbl:Rho→List Nat→List D→Rho
 | ρ,n::ns,d::ds=>zbl (Rho.set ρ n d) ns ds
 | ρ,_,_=>ρ
noncomputable def zpa {α:Type} (d:D) (k:List D→Option α):Option α:=match d with | .tuple x=>k x | _=>none
theorem zwm {α:Type} {d:D} {k:List D→Option α} {r:α} (h:zpa d k=some r):∃ x,d=.tuple x∧k x=some r:=by
 cases d with
 | tuple x=>exact ⟨x,rfl,h⟩
 | _=>exact nn h
noncomputable def zcn (ρ:Rho) (ns:List Nat) (d:D):Option Rho:=match ns with
 | [n]=>some (Rho.set ρ n d)
 | _=>zpa d fun xs=>if xs.length=ns.length then some (zbl ρ ns xs) else none
inductive BindIs (ρ:Rho) (ρ':Rho):List Nat→D→Prop
 | one (n:Nat) (d:D) (h:ρ'=Rho.set ρ n d):BindIs ρ ρ' [n] d
 | tup (ns:List Nat) (xs:List D) (h:ns.length≠1) (hl:xs.length=ns.length) (e:ρ'=zbl ρ ns xs):BindIs ρ ρ' ns (.tuple xs)
theorem zpj {ρ ρ':Rho} {ns:List Nat} {d:D} (h:zcn ρ ns d=some ρ'):BindIs ρ ρ' ns d:=by
 have key:ns.length≠1→(zpa d fun xs=>if xs.length=ns.length then some (zbl ρ ns xs) else none)=some ρ'→BindIs ρ ρ' ns d:=fun h1 h=>by
  obtain ⟨xs,rfl,g⟩:=zwm h
  by_cases c:xs.length=ns.length
  ·rw [if_pos c] at g
   exact .tup ns xs h1 c (soi g).symm
  ·rw [if_neg c] at g;exact nn g
 rcases ns with ⟨⟩ | ⟨n,⟨⟩ | ⟨m,r⟩⟩
 ·exact key (fun e=>by cases e) h
 ·exact .one n d (soi h).symm
 ·exact key (fun e=>by cases e) h
theorem zzf {ρ:Rho} {ns:List Nat} {xs:List D} (h:ns.length≠1) (hl:xs.length=ns.length):zcn ρ ns (.tuple xs)=some (zbl ρ ns xs):=by
 rcases ns with ⟨⟩ | ⟨n,⟨⟩ | ⟨m,r⟩⟩
 ·exact if_pos hl
 ·exact absurd rfl h
 ·exact if_pos hl
noncomputable def Rho.del (ρ:Rho) (ns:List Nat):Rho:=ρ.filter fun p=>!ns.contains p.1
noncomputable def tgs:Gs→List Nat
 | .nil=>[]
 | .cons tg _ _ r=>tg++tgs r
noncomputable def zcs (f:D→Option (List D)):List D→Option (List D)
 | []=>some []
 | x::xs=>match f x with
  | some a=>match zcs f xs with
   | some b=>some (a++b)
   | none=>none
  | none=>none
noncomputable def ykl:Gs→Bool
 | .cons _ _ _ .nil=>true
 | _=>false
noncomputable def zwb:D→Bool
 | .none | .bool _ | .int _ | .str _=>true
 | _=>false
noncomputable def tupO {β:Type} (o:Option D) (k:List D→Option β):Option β:=o.bind fun d=>zpa d k
theorem ynu {β:Type} {p:Prop} {r:β} {o:Option D} {k:List D→Option β} (h:tupO o k=some r) (q:∀ x,o=some (.tuple x)→k x=some r→p):p :=
 zaq h fun d e h=>let ⟨x,e',h⟩:=zwm h;q x (e'▸e) h
structure Sig where
 cal:Nat→List D→Option D
 gl:Nat→Option D
 rz:Bool
section
variable (S:Sig)
mutual
noncomputable def ev (ρ:Rho):E→Option D
 | .lit d=>some d
 | .var n=>ρ.get n
 | .glob n=>S.gl n
 | .bin o a b=>(ev ρ a).bind fun x=>(ev ρ b).bind fun y=>zez o x y
 | .neg a=>intO (ev ρ a) fun i=>some (.int (-i))
 | .inv a=>intO (ev ρ a) fun i=>some (.int (Builtin.bitNot i))
 | .cmp o a b=>(ev ρ a).bind fun x=>(ev ρ b).bind fun y=>zdq o x y
 | .bop o xs=>ylv ρ o xs
 | .ite c a b=>(evT ρ c).bind fun t=>bif t then ev ρ a else ev ρ b
 | .list xs=>(evs ρ xs).bind fun ds=>if ds.length≤1000 then some (.list ds) else none
 | .tup xs=>(evs ρ xs).bind fun ds=>if ds.length≤1000 then some (.tuple ds) else none
 | .dict kvs=>some (.dict (kvs.map fun p=>(.str p.1, .str p.2)))
 | .comp elt gs=>(evGs ρ (ρ.del (tgs gs)) (fun ρ'=>ev ρ' elt) gs).bind fun ds=>if (ykl gs || decide (ds.length≤16777216))&&(!yju gs || zaw ds) then some (.list ds) else none
 | .call f args=>(evs ρ args).bind fun ds=>S.cal f ds
 | .bf f args=>(evs ρ args).bind fun ds=>evBf f ds
 | .mt m o args=>(ev ρ o).bind fun x=>(evs ρ args).bind fun ds=>evMt m x ds
 | .repl a y z=>strO (ev ρ a) fun x=>if decide (x.length+(x.length+1)*z.length≤16777216)&&sok (.str (Txt.replace x y z)) then some (.str (Txt.replace x y z)) else none
 | .setlen a=>lstO (ev ρ a) fun ds=>if ds.all zmr&&decide (ds.length≤1000) then some (.int (setS ds).length) else none
 | .dcomp k v gs=>(evGs ρ (ρ.del (tgs gs)) (fun ρ'=>strO (ev ρ' k) fun a=>strO (ev ρ' v) fun b=>if sok (.str a)&&sok (.str b) then some (.tuple [.str a, .str b]) else none) gs).bind fun ds=>if decide (ds.length≤1000)&&oneG gs then some (.dict ((znx ds).map fun p=>(.str p.1, .str p.2))) else none
 | .sub a i=>(ev ρ a).bind fun x=>(ev ρ i).bind fun y=>zkz x y
 | .slc a lo hi st=>(ev ρ a).bind fun x=>(evo ρ lo).bind fun l=>(evo ρ hi).bind fun h=>(evo ρ st).bind fun t=>zei x l h t
 | .olen n=>lstO (ρ.get n) fun xs=>some (.int xs.length)
 | .oget n i=>lstO (ρ.get n) fun xs=>(ev ρ i).bind fun y=>zkz (.list xs) y
 | .ocall f n args=>lstO (ρ.get n) fun xs=>(evs ρ args).bind fun ds=>(S.cal f (.list xs::ds)).bind fun d=>if zwb d then some d else none
noncomputable def evT (ρ:Rho):E→Option Bool
 | .bop o xs=>ziw ρ o xs
 | .ite c a b=>(evT ρ c).bind fun t=>bif t then evT ρ a else evT ρ b
 | .lit d=>truth d
 | .var n=>(ρ.get n).bind truth
 | .glob n=>(S.gl n).bind truth
 | .bin o a b=>((ev ρ a).bind fun x=>(ev ρ b).bind fun y=>zez o x y).bind truth
 | .cmp o a b=>((ev ρ a).bind fun x=>(ev ρ b).bind fun y=>zdq o x y).bind truth
 | .call f args=>((evs ρ args).bind fun ds=>S.cal f ds).bind truth
 | .bf f args=>((evs ρ args).bind fun ds=>evBf f ds).bind truth
 | .mt m o args=>((ev ρ o).bind fun x=>(evs ρ args).bind fun ds=>evMt m x ds).bind truth
 | .sub a i=>((ev ρ a).bind fun x=>(ev ρ i).bind fun y=>zkz x y).bind truth
 | _=>none
noncomputable def evs (ρ:Rho):Es→Option (List D)
 | .nil=>some []
 | .cons e r=>(ev ρ e).bind fun d=>(evs ρ r).bind fun ds=>some (d::ds)
noncomputable def evo (ρ:Rho):Os→Option (Option D)
 | .no=>some none
 | .yes e=>(ev ρ e).bind fun d=>some (some d)
noncomputable def ylv (ρ:Rho) (o:BoolOp):Es→Option D
 | .nil=>none
 | .cons e .nil=>ev ρ e
 | .cons e r=>(ev ρ e).bind fun d=>(truth d).bind fun b=>if (o==.And&&!b) || (o==.Or&&b) then some d else ylv ρ o r
noncomputable def ziw (ρ:Rho) (o:BoolOp):Es→Option Bool
 | .nil=>some (o==.And)
 | .cons e r=>(evT ρ e).bind fun b=>if (o==.And&&!b) || (o==.Or&&b) then some b else ziw ρ o r
noncomputable def zdk (ρ:Rho):Src→Option (List D)
 | .e a=>(ev ρ a).bind ziz
 | .own n=>lstO (ρ.get n) some
 | .range args=>(evs ρ args).bind evRange
 | .enum a=>lstO (ev ρ a) fun xs=>some (zxe xs)
 | .zip es=>((evs ρ es).bind zvn).bind fun ls=>if (ρ.all fun p=>zbm p.2)&&(ls.flatten.all zbm&&(decide (ls.length=2) || decide (ls.length=3))) then some (zipD ls) else none
 | .rev a=>lstO (ev ρ a) fun xs=>some xs.reverse
noncomputable def evGs (ρs ρ:Rho) (elt:Rho→Option D):Gs→Option (List D)
 | .nil=>(elt ρ).map fun d=>[d]
 | .cons tg src ifs r=>(zdk ρs src).bind fun items=>zcs (fun it=>(zcn ρ tg it).bind fun ρ'=>(ziw ρ' .And ifs).bind fun b=>bif b then evGs ρ' ρ' elt r else some []) items
end
end
mutual
inductive St where
 | set (n:Nat) (e:E) | unp (ns:List Nat) (e:E) | aug (n:Nat) (o:Operator) (e:E)
 | newO (n:Nat) (es:Es) | splitO (n:Nat) (a b:E)
 | app (n:Nat) (e:E) | rev (n:Nat) | del (n:Nat) (i:Int)
 | ifs (c:E) (a b:Sts) | loop (tg:List Nat) (src:Src) (body:Sts)
 | ret (e:E) | retO (n:Nat) | tryE (body:Sts) | assert (e:E) | hole
inductive Sts where
 | nil | cons (s:St) (r:Sts)
end
inductive Out where
 | next (ρ:Rho) | ret (d:D)
noncomputable def goL (f:D→Rho→Option Out):List D→Rho→Option Out
 | [],ρ=>some (.next ρ)
 | d::ds,ρ=>match f d ρ with
  | some (.next ρ')=>goL f ds ρ'
  | o=>o
noncomputable def zov (ρ:Rho):Src→Rho
 | .own n=>ρ.del [n]
 | _=>ρ
section
variable (S:Sig)
mutual
noncomputable def ex (ρ:Rho):St→Option Out
 | .set n e=>(ev S ρ e).map fun d=>.next (Rho.set ρ n d)
 | .unp ns e=>tupO (ev S ρ e) fun xs=>if xs.length=ns.length then some (.next (zbl ρ ns xs)) else none
 | .aug n o e=>(ρ.get n).bind fun x=>(ev S ρ e).bind fun y=>(zuo o x y).map fun d=>.next (Rho.set ρ n d)
 | .newO n es=>(evs S ρ es).bind fun ds=>if ds.length≤1000 then some (.next (Rho.set ρ n (.list ds))) else none
 | .splitO n a b=>strO (ev S ρ a) fun x=>strO (ev S ρ b) fun y=>if decide (0<y.length)&&sok (.list ((Txt.split x y).map .str)) then some (.next (Rho.set ρ n (.list ((Txt.split x y).map .str)))) else none
 | .app n e=>lstO (ρ.get n) fun xs=>(ev S ρ e).bind fun d=>if xs.length<1000000 then some (.next (Rho.set ρ n (.list (xs++[d])))) else none
 | .rev n=>lstO (ρ.get n) fun xs=>some (.next (Rho.set ρ n (.list xs.reverse)))
 | .del n i=>lstO (ρ.get n) fun xs=>(seqIndex? i xs.length).bind fun j=>some (.next (Rho.set ρ n (.list (xs.eraseIdx j))))
 | .ifs c a b=>(evT S ρ c).bind fun t=>bif t then exs ρ a else exs ρ b
 | .loop tg src body=>(zdk S ρ src).bind fun items=>goL (fun d ρ'=>(zcn ρ' tg d).bind fun ρ''=>exs ρ'' body) items (zov ρ src)
 | .ret e=>(ev S ρ e).map .ret
 | .retO n=>lstO (ρ.get n) fun xs=>some (.ret (.list xs))
 | .tryE body=>exs ρ body
 | .assert e=>(evT S ρ e).bind fun t=>bif t then some (.next ρ) else none
 | .hole=>none
noncomputable def exs (ρ:Rho):Sts→Option Out
 | .nil=>some (.next ρ)
 | .cons s r=>match ex ρ s with
  | some (.next ρ')=>exs ρ' r
  | o=>o
end
end
structure Fn where
 params:List Nat
 own:List Nat
 body:Sts
noncomputable def zbb (S:Sig) (f:Fn) (ds:List D):Option D :=
 if ds.length=f.params.length then match exs S (zbl [] f.params ds) f.body with
  | some (.ret d)=>some d
  | some (.next _)=>some .none
  | none=>none
 else none
end Internal
end
namespace Internal
noncomputable def WrCls (o:Obj):Prop:=(∃ vs,o.data=.fields vs)∧o.cls≠.type "code" ∧ o.cls≠.none∧o.cls≠.type "list" ∧ o.cls≠.type "dict"
noncomputable def WrZ (z:Bool) (o:Obj):Prop:=WrCls o∨(z=true∧o.cls=.type "tuple" ∧ ∃ xs n,o.data=.seq xs n)
structure IterOK (G:GC) (A:Around) (z:Bool) (tg:Expr) (I:Addr) (fp wr:List Addr) (ds:List D) (vs:List Value) (es:List D) (St:Nat→Heap→Prop) (P Md:Nat→Value→Heap→Prop):Prop where
 turns:KTurns G.prog G.w A tg I fp wr ds.length P Md St
 self:∀ i (s:Shared) (Q:Value→Shared→Prop) (E:Value→Shared→Prop),St i s.heap→Q (.ref I) s→wpAny (mdl G) A (pyIter (.ref I)) Q E s
 item:∀ O h i v d,VReps G.w O h vs es→P i v h→ds[i]?=some d→VRep G.w O h v d
 solid:∀ i h,St i h→∀ b∈fp,∀ o,h.get? b=some o→zhj o
 wrc:∀ i h,St i h→∀ b∈wr,∀ o,h.get? b=some o→WrZ z o
 ex:∀ i h,St i h→∀ b∈wr,∃ o,h.get? b=some o
inductive GotIt (G:GC) (A:Around) (z:Bool) (O:List Addr) (tg:Expr) (ds:List D) (strict:Bool) (s:Shared) (I:Addr) (s':Shared):Prop
 | mk (fp wr:List Addr) (vs:List Value) (es:List D) (St:Nat→Heap→Prop) (P Md:Nat→Value→Heap→Prop) (it:IterOK G A z tg I fp wr ds vs es St P Md) (st:St 0 s'.heap) (rv:VReps G.w O s'.heap vs es) (h1:∀ b∈wr,s.heap.get? b=none)
  (h2:∀ b∈fp,∃ o,s'.heap.get? b=some o) (h3:∀ b∈fp,s.heap.get? b=none∨(strict=true→b∉O)∨∃ vs,s'.heap.IsTuple b vs) (h4:z=true→∀ d∈es,zbm d=true)
structure Got (G:GC) (A:Around) (z:Bool) (O:List Addr) (tg:Expr) (ds:List D) (strict:Bool) (s:Shared) (I:Addr) (s':Shared):Prop where
 ext:Ext G s s'
 len:ds.length≤16777216
 it:GotIt G A z O tg ds strict s I s'
noncomputable def yon (G:GC) (A:Around) (z:Bool) (O:List Addr) (tg:Expr) (t:Sem Value) (s:Shared) (ds:List D) (strict:Bool):Prop :=
 ∀ (Q:Value→Shared→Prop) (E:Value→Shared→Prop),(∀ I s',Got G A z O tg ds strict s I s'→Q (.ref I) s')→wpAny (mdl G) A t (fun x s₁=>wpAny (mdl G) A (pyIter x) Q E s₁) E s
theorem zka {h:Heap} {a:Addr} {vs:Array Value} (l:h.IsList a vs) {o:Obj} (e:h.get? a=some o):o.cls=.type "list":=by
 obtain ⟨o',e',c,_⟩:=l;rw [e] at e';obtain rfl:=soi e';exact c
theorem ylk {h:Heap} {a:Addr} {vs:Array Value} (l:h.IsTuple a vs) {o:Obj} (e:h.get? a=some o):o.cls=.type "tuple":=by
 obtain ⟨o',e',c,_⟩:=l;rw [e] at e';obtain rfl:=soi e';exact c
theorem yrl {T:String} {o:Obj} {vs:Array Value} (h:o.cls=.type T) (hd:o.data=.fields vs) (h1:T ≠ "code" ∧ T ≠ "list" ∧ T ≠ "dict"):WrCls o :=
 ⟨⟨vs,hd⟩,fun e=>h1.1 (by rw [h] at e;exact Value.type.inj e),fun e=>(by rw [h] at e;cases e),fun e=>h1.2.1 (by rw [h] at e;exact Value.type.inj e),fun e=>h1.2.2 (by rw [h] at e;exact Value.type.inj e)⟩
theorem zgv {z:Bool} {T:String} {o:Obj} {vs:Array Value} (h:o.cls=.type T) (hd:o.data=.fields vs) (h1:T ≠ "code" ∧ T ≠ "list" ∧ T ≠ "dict"):WrZ z o:=.inl (yrl h hd h1)
theorem zaz {T:String} {o:Obj} (h:o.cls=.type T):zhj o:=.inl (by rw [h];nofun)
noncomputable def zbq (e:Expr):Bool:=(zcl e fun _ _=>true) || zfv e fun _ _ _=>true
noncomputable def IsNm (e:Expr):Bool:=zcl e fun _ _=>true
noncomputable def IsTp (e:Expr):Bool:=zfv e fun _ _ _=>true
theorem yqc {e:Expr} {P:Expr→Prop} (h:zbq e=true) (q1:∀ x p,P (.Name x p)) (q2:∀ es k p,P (.Tuple es k p)):P e :=
 (Bool.or_eq_true_iff.mp h).elim (fun h=>onName_elim h fun x p _=>q1 x p) fun h=>onTuple_elim h fun es k p _=>q2 es k p
theorem zmv {G:GC} {A:Around} {tg:Expr} (hn:IsNm tg=true) {it v:Value} {s:Shared} {Q:Unit→Shared→Prop} {E:Value→Shared→Prop} (h:Q () s):wpAny (mdl G) A (letOwnedTupleGo tg it v) Q E s:=by
 exact onName_elim (P:=fun tg=>wpAny (mdl G) A (letOwnedTupleGo tg it v) Q E s) hn fun _ _ _=>wpAny_pure h
theorem zmu {G:GC} {A:Around} {tg:Expr} (hn:zbq tg=true) {I l:Addr} {i:Nat} {v:Value} {s:Shared} {Q:Unit→Shared→Prop} {E:Value→Shared→Prop} (hit:s.heap.IsListIter I l i) (h:Q () s):wpAny (mdl G) A (letOwnedTupleGo tg (.ref I) v) Q E s:=by
 refine yqc (P:=fun tg=>wpAny (mdl G) A (letOwnedTupleGo tg (.ref I) v) Q E s) hn (fun _ _=>wpAny_pure h) fun es k p=>?_
 rcases v with ⟨⟩ | ⟨⟩
 case ref a=>exact wpAny_letOwnedTupleGo_listiter hit h
 all_goals exact wpAny_pure h
noncomputable def ownedNames:List String:=["enumerate", "zip", "dict_itemiterator", "dict_reverseitemiterator", "odict_iterator", "itertools.zip_longest", "itertools.pairwise"]
theorem zlm {G:GC} {A:Around} {tg:Expr} (hn:zbq tg=true) {I:Addr} {o:Obj} {T:String} {vs:Array Value} {v:Value} {s:Shared} {Q:Unit→Shared→Prop} {E:Value→Shared→Prop} (ho:s.heap.get? I=some o) (hc:o.cls=.type T) (hd:o.data=.fields vs) (hT:ownedNames.contains T=false) (h:Q () s) :
  wpAny (mdl G) A (letOwnedTupleGo tg (.ref I) v) Q E s:=by
 refine yqc (P:=fun tg=>wpAny (mdl G) A (letOwnedTupleGo tg (.ref I) v) Q E s) hn (fun _ _=>wpAny_pure h) fun es k p=>?_
 rcases v with ⟨⟩ | ⟨⟩
 any_goals exact wpAny_pure h
 rename_i a
 unfold letOwnedTupleGo
 refine wpAny_bind (wpAny_load ho ?_)
 rw [hc,hd]
 show wpAny _ A (if (ownedNames.contains T&&vs[0]?==some (rawInt a))=true then _ else _) Q E s
 rw [hT]
 exact wpAny_pure h
section
variable {G:GC} {A:Around} {O:List Addr} {s:Shared} {tg:Expr} {ds:List D}
theorem zqh (hh:A.handled=none) (B:Base G s.heap) (p:0<s.toks) (hn:zbq tg=true) (hlen:ds.length≤16777216) {a:Addr} {vs:Array Value} (l:s.heap.IsList a vs) (r:VReps G.w O s.heap vs.toList ds) {strict:Bool} (ha:strict=true→a∉O)
  {Q:Value→Shared→Prop} {E:Value→Shared→Prop} (q:∀ I s',Got G A false O tg ds strict s I s'→Q (.ref I) s'):wpAny (mdl G) A (pyIter (.ref a)) Q E s:=by
 have hk:∀ b o,s.heap.get? b=some o→(s.heap.push { cls:=.type "list_iterator",data:=.fields #[.ref a, .int 0 0] }).get? b=some o:=fun b o e=>Heap.get?_push_of_some _ e
 have hne:a≠s.heap.objs.size:=fun e=>by obtain ⟨o,e',_⟩:=l;rw [e,zak] at e';exact nn e'
 have hsz:vs.size=ds.length:=by rw [← r.length];simp
 have W:=Walks.list (prog:=G.prog) (w:=G.w) (A:=A) hh s.heap.objs.size a hne vs
 rw [hsz] at W
 refine wpAny_pyIter_list l (q _ _ ⟨.all B hk p,hlen,[s.heap.objs.size,a],[s.heap.objs.size],vs.toList,ds,_,_,_,
  ⟨KTurns.ofWalks W fun i v s' Q' E' st q'=>zmu hn st.1 q',W.self,fun O' h i v d r' hP e=>?_,fun i h st b hb o e=>?_,fun i h st b hb o e=>?_,fun i h st b hb=>(by rcases msp hb with rfl;obtain ⟨⟨o',e',_⟩,_⟩:=st;exact ⟨_,e'⟩)⟩, ?_,r.keep (.of hk),fun b hb=>?_,fun b hb=>?_,fun b hb=>?_,fun q=>Bool.noConfusion q⟩)
 ·obtain ⟨v',e',r''⟩:=r'.get i d e
  have hP:vs[i]?=some v:=hP
  rw [Array.getElem?_toList,hP] at e'
  obtain rfl:=soi e';exact r''
 ·rcases mcp hb with rfl | hb
  ·obtain ⟨⟨o',e',c,_⟩,_⟩:=st;rw [e] at e';obtain rfl:=soi e';exact zaz c
  ·rcases msp hb with rfl
   exact zaz (zka st.2 e)
 ·rcases msp hb with rfl
  obtain ⟨⟨o',e',c,dd⟩,_⟩:=st;rw [e] at e';obtain rfl:=soi e';exact zgv c dd (by decide)
 ·exact ⟨⟨_,Heap.get?_push_size _ rfl,rfl,rfl⟩,l.push _⟩
 ·rcases msp hb with rfl
  exact zak _
 ·rcases mcp hb with rfl | hb
  ·exact ⟨_,Heap.get?_push_size _ rfl⟩
  ·rcases msp hb with rfl
   obtain ⟨o,e,_⟩:=l;exact ⟨o,hk _ _ e⟩
 ·rcases mcp hb with rfl | hb
  ·exact .inl (zak _)
  ·rcases msp hb with rfl
   exact .inr (.inl ha)
theorem zxn (hh:A.handled=none) (B:Base G s.heap) (p:0<s.toks) (hn:zbq tg=true) (hlen:ds.length≤16777216) {a:Addr} {vs:Array Value} (l:s.heap.IsTuple a vs) (r:VReps G.w O s.heap vs.toList ds) {strict:Bool}
  {Q:Value→Shared→Prop} {E:Value→Shared→Prop} (q:∀ I s',Got G A false O tg ds strict s I s'→Q (.ref I) s'):wpAny (mdl G) A (pyIter (.ref a)) Q E s:=by
 have hk:∀ b o,s.heap.get? b=some o→(s.heap.push { cls:=.type "tuple_iterator",data:=.fields #[.ref a, .int 0 0] }).get? b=some o:=fun b o e=>Heap.get?_push_of_some _ e
 have hne:a≠s.heap.objs.size:=fun e=>by obtain ⟨o,e',_⟩:=l;rw [e,zak] at e';exact nn e'
 have hsz:vs.size=ds.length:=by rw [← r.length];simp
 have W:=Walks.tuple (prog:=G.prog) (w:=G.w) (A:=A) hh s.heap.objs.size a hne vs
 rw [hsz] at W
 refine wpAny_pyIter_tuple l (q _ _ ⟨.all B hk p,hlen,[s.heap.objs.size,a],[s.heap.objs.size],vs.toList,ds,_,_,_,
  ⟨KTurns.ofWalks W fun i v s' Q' E' st q'=>(let ⟨o,e,c,dd⟩:=st.1;zlm hn e c dd (by decide) q'),W.self,fun O' h i v d r' hP e=>?_,fun i h st b hb o e=>?_,fun i h st b hb o e=>?_,fun i h st b hb=>(by rcases msp hb with rfl;obtain ⟨⟨o',e',_⟩,_⟩:=st;exact ⟨_,e'⟩)⟩, ?_,r.keep (.of hk),fun b hb=>?_,fun b hb=>?_,fun b hb=>?_,fun q=>Bool.noConfusion q⟩)
 ·obtain ⟨v',e',r''⟩:=r'.get i d e
  have hP:vs[i]?=some v:=hP
  rw [Array.getElem?_toList,hP] at e'
  obtain rfl:=soi e';exact r''
 ·rcases mcp hb with rfl | hb
  ·obtain ⟨⟨o',e',c,_⟩,_⟩:=st;rw [e] at e';obtain rfl:=soi e';exact zaz c
  ·rcases msp hb with rfl
   exact zaz (ylk st.2 e)
 ·rcases msp hb with rfl
  obtain ⟨⟨o',e',c,dd⟩,_⟩:=st;rw [e] at e';obtain rfl:=soi e';exact zgv c dd (by decide)
 ·exact ⟨⟨_,Heap.get?_push_size _ rfl,rfl,rfl⟩,l.push _⟩
 ·rcases msp hb with rfl
  exact zak _
 ·rcases mcp hb with rfl | hb
  ·exact ⟨_,Heap.get?_push_size _ rfl⟩
  ·rcases msp hb with rfl
   obtain ⟨o,e,_⟩:=l;exact ⟨o,hk _ _ e⟩
 ·rcases mcp hb with rfl | hb
  ·exact .inl (zak _)
  ·rcases msp hb with rfl
   exact .inr (.inr ⟨_,l.push _⟩)
theorem ygt (hh:A.handled=none) (B:Base G s.heap) (p:0<s.toks) (hn:zbq tg=true) {x:Str} {t:Tok} (hx:sok (.str x)=true) {strict:Bool}
  {Q:Value→Shared→Prop} {E:Value→Shared→Prop} (q:∀ I s',Got G A false O tg (x.cps.toList.map fun c=>.str ⟨#[c]⟩) strict s I s'→Q (.ref I) s'):wpAny (mdl G) A (pyIter (.str x t)) Q E s:=by
 have fin:∀ (T:String) (St:Nat→Heap→Prop),(T ≠ "code" ∧ T ≠ "list" ∧ T ≠ "dict")→ownedNames.contains T=false→Walks G.prog G.w A s.heap.objs.size [s.heap.objs.size] [s.heap.objs.size] x.cps.size (SignAt x) St →
   (∀ i h,St i h↔h.IsStrIter s.heap.objs.size T x t i)→Q (.ref s.heap.objs.size) { s with heap:=s.heap.push { cls:=.type T,data:=.fields #[.str x t, .int 0 0] } }:=by
  intro T St h1 hT W hSt
  have hk:∀ b o,s.heap.get? b=some o→(s.heap.push { cls:=.type T,data:=.fields #[.str x t, .int 0 0] }).get? b=some o:=fun b o e=>Heap.get?_push_of_some _ e
  have hsz:x.cps.size=(x.cps.toList.map fun c=>(PyData.str ⟨#[c]⟩)).length:=by simp
  rw [hsz] at W
  refine q _ _ ⟨.all B hk p,by rw [List.length_map,Array.length_toList];exact (sok_str.mp hx).2,[s.heap.objs.size],[s.heap.objs.size],[],[],_,_,_,
   ⟨KTurns.ofWalks W fun i v s' Q' E' st q'=>(let ⟨o,e,c,dd⟩:=(hSt _ _).mp st;zlm hn e c dd hT q'),W.self,fun O' h i v d r' hP e=>?_,fun i h st b hb o e=>?_,fun i h st b hb o e=>?_,fun i h st b hb=>(by rcases msp hb with rfl;obtain ⟨o',e',_⟩:=(hSt i h).mp st;exact ⟨_,e'⟩)⟩, ?_, .nil,fun b hb=>?_,fun b hb=>?_,fun b hb=>?_,fun q=>Bool.noConfusion q⟩
  ·obtain ⟨c,u,e',rfl⟩:=hP
   have:(some (PyData.str ⟨#[c]⟩))=some d:=by
    rw [← e,List.getElem?_map,Array.getElem?_toList,e'];rfl
   obtain rfl:=soi this
   exact .str (yik hx e')
  ·rcases msp hb with rfl
   obtain ⟨o',e',c,_⟩:=(hSt i h).mp st;rw [e] at e';obtain rfl:=soi e';exact zaz c
  ·rcases msp hb with rfl
   obtain ⟨o',e',c,dd⟩:=(hSt i h).mp st;rw [e] at e';obtain rfl:=soi e';exact zgv c dd h1
  ·exact (hSt _ _).mpr ⟨_,Heap.get?_push_size _ rfl,rfl,rfl⟩
  ·rcases msp hb with rfl
   exact zak _
  ·rcases msp hb with rfl
   exact ⟨_,Heap.get?_push_size _ rfl⟩
  ·rcases msp hb with rfl
   exact .inl (zak _)
 cases ha:x.cps.all (· < 128)
 ·exact wpAny_pyIter_wide ha (fin _ _ (by decide) (by decide) (Walks.strWide hh _ x t) fun _ _=>Iff.rfl)
 ·exact wpAny_pyIter_ascii ha (fin _ _ (by decide) (by decide) (Walks.strAscii hh _ x t) fun _ _=>Iff.rfl)
theorem znd {a b c:Int} (hc:0<c) (hs:b-a≤16777216):Builtin.Range.rangeSize a b c=(((b-a+c-1) / c).toNat:Int):=by
 unfold Builtin.Range.rangeSize
 rw [if_pos hc]
 have e:(b-a+c-1) / c=(b-a-1) / c+1:=by
  rw [show b-a+c-1=(b-a-1)+c by omega,Int.add_ediv_of_dvd_right (Int.dvd_refl c),Int.ediv_self (Int.ne_of_gt hc)]
 by_cases h:a<b
 ·rw [if_pos h,e,Int.toNat_of_nonneg (Int.add_nonneg (Int.ediv_nonneg (Int.le_sub_one_of_lt (Int.sub_pos_of_lt h)) (Int.le_of_lt hc)) (by decide)),Int.add_comm]
 ·have:(b-a+c-1) / c<1:=Int.ediv_lt_of_lt_mul hc (by omega)
  rw [if_neg h,Int.toNat_of_nonpos (Int.le_of_lt_add_one this)];rfl
end
end Internal
namespace Internal
section
variable {G:GC} {A:Around} {O:List Addr} {s:Shared} {tg:Expr} {ds:List D}
theorem zrc {a b c:Int} (h0:0<c) (hs:b-a≤16777216):((b-a+c-1) / c).toNat≤16777216:=by
 have:(b-a+c-1) / c≤16777216:=by
  have:(b-a+c-1) / c<16777217:=Int.ediv_lt_of_lt_mul h0 (by
   have:(16777217:Int)*c=16777216*c+c:=by omega
   have h6:16777216*1≤16777216*c:=Int.mul_le_mul_of_nonneg_left (by omega) (by omega)
   omega)
  omega
 omega
theorem ztk {a b c:Int} (h0:0<c) (h1 : -1073741824≤a) (h2:a≤1073741824) (h3 : -1073741824≤b) (h4:b≤1073741824) (h5:c≤1073741824) (hs:b-a≤16777216):Builtin.Range.small a b c=true:=by
 have hz:=znd (a:=a) (b:=b) h0 hs
 have hle:=zrc (a:=a) (b:=b) h0 hs
 unfold Builtin.Range.small
 rw [hz]
 simp only [Builtin.Range.rangeFitsLong,Bool.and_eq_true,Bool.or_eq_true,decide_eq_true_eq,beq_iff_eq,h0,if_true]
 have e63:(2:Int)^63=9223372036854775808:=by decide
 refine ⟨⟨⟨⟨⟨?_, ?_⟩,⟨?_, ?_⟩⟩,⟨?_, ?_⟩⟩,⟨?_, ?_⟩⟩, .inr ⟨?_, ?_⟩⟩ <;> omega
theorem zja (hh:A.handled=none) (B:Base G s.heap) (p:0<s.toks) (hn:IsNm tg=true) {a b c:Int} {t u v:Tok} {r:Addr} (hr:IsRange s.heap r a b c t u v) (h:zdi a b c=some ds) {strict:Bool}
  {Q:Value→Shared→Prop} {E:Value→Shared→Prop} (q:∀ I s',Got G A false O tg ds strict s I s'→Q (.ref I) s'):wpAny (mdl G) A (pyIter (.ref r)) Q E s:=by
 unfold zdi at h
 split at h <;> cases h
 rename_i g
 simp only [Bool.and_eq_true,decide_eq_true_eq] at g
 obtain ⟨⟨⟨⟨⟨⟨h0,h1⟩,h2⟩,h3⟩,h4⟩,h5⟩,h6⟩:=g
 have hk:∀ b' o,s.heap.get? b'=some o→(s.heap.push { cls:=.type "range_iterator",data:=.fields #[rawInt a,rawInt (Builtin.Range.rangeSize a b c),rawInt c] }).get? b'=some o:=fun b o e=>Heap.get?_push_of_some _ e
 have hlen:((List.range ((b-a+c-1) / c).toNat).map fun k:Nat=>PyData.int (a+k*c)).length≤16777216:=by
  rw [List.length_map,List.length_range]
  exact zrc h0 h6
 have hsz:((b-a+c-1) / c).toNat=((List.range ((b-a+c-1) / c).toNat).map fun k:Nat=>PyData.int (a+k*c)).length:=by simp
 have W:=Walks.range (prog:=G.prog) (w:=G.w) (A:=A) hh s.heap.objs.size a c ((b-a+c-1) / c).toNat
 refine wpAny_pyIter_range hr (ztk h0 h1 h2 h3 h4 h5 h6) (q _ _ ⟨.all B hk p,hlen,[s.heap.objs.size],[s.heap.objs.size],[],[],_,_,_,
  ⟨(by
   have K:=KTurns.ofWalks W fun i v s' Q' E' st q'=>zmv hn q'
   rw [← hsz];exact K),W.self,fun O' h i v d r' hP e=>?_,fun i h st b hb o e=>?_,fun i h st b hb o e=>?_,fun i h st b hb=>(by rcases msp hb with rfl;exact ⟨_,st⟩)⟩, ?_, .nil,fun b hb=>?_,fun b hb=>?_,fun b hb=>?_,fun q=>Bool.noConfusion q⟩)
 ·obtain ⟨t',rfl⟩:=hP
  rw [List.getElem?_map,Option.map_eq_some_iff] at e
  obtain ⟨k,e,rfl⟩:=e
  have:k=i:=by
   rw [List.getElem?_eq_some_iff] at e
   obtain ⟨_,e⟩:=e
   simpa using e.symm
  subst this
  exact .int
 ·rcases msp hb with rfl
  have st:h.get? s.heap.objs.size=_:=st
  rw [st] at e;obtain rfl:=soi e;exact zaz rfl
 ·rcases msp hb with rfl
  have st:h.get? s.heap.objs.size=_:=st
  rw [st] at e;obtain rfl:=soi e;exact zgv rfl rfl (by decide)
 ·show (s.heap.push _).get? _=_
  rw [znd h0 h6,Heap.get?_push_size _ rfl]
  simp
 ·rcases msp hb with rfl
  exact zak _
 ·rcases msp hb with rfl
  exact ⟨_,Heap.get?_push_size _ rfl⟩
 ·rcases msp hb with rfl
  exact .inl (zak _)
theorem ygs (hh:A.handled=none) (B:Base G s.heap) (p:0<s.toks) (hn:IsNm tg=true) (hlen:ds.length≤16777216) {a:Addr} {vs:Array Value} (l:s.heap.IsList a vs) (r:VReps G.w O s.heap vs.toList ds) {strict:Bool} (ha:strict=true→a∉O)
  {Q:Value→Shared→Prop} {E:Value→Shared→Prop} (q:∀ I s',Got G A false O tg ds.reverse strict s I s'→Q (.ref I) s') :
  wpAny (mdl G) A (call (.type "reversed") [.ref a]) (fun x s₁=>wpAny (mdl G) A (pyIter x) Q E s₁) E s:=by
 have hk:∀ b o,s.heap.get? b=some o→(s.heap.push (revObj a ((vs.size:Int)-1))).get? b=some o:=fun b o e=>Heap.get?_push_of_some _ e
 have hne:a≠s.heap.objs.size:=fun e=>by obtain ⟨o,e',_⟩:=l;rw [e,zak] at e';exact nn e'
 have hsz:vs.size=ds.reverse.length:=by rw [List.length_reverse,← r.length];simp
 have W:=Walks.listRev (prog:=G.prog) (w:=G.w) (A:=A) hh s.heap.objs.size a hne vs
 have K:=KTurns.ofWalks (target:=tg) W fun i v s' Q' E' st q'=>zmv hn q'
 rw [hsz] at K
 refine call_reversed_list l (wpAny_pyIter_revIter (it:=s.heap.objs.size) (l:=a) (i:=(vs.size:Int)-1) ⟨_,Heap.get?_push_size _ rfl,rfl,rfl⟩ (q _ _ ⟨.all B hk p,by simpa using hlen,[s.heap.objs.size,a],[s.heap.objs.size],vs.toList,ds,_,_,_,
  ⟨K,(by have:=W.self;rw [hsz] at this;exact this),fun O' h i v d r' hP e=>?_,fun i h st b hb o e=>?_,fun i h st b hb o e=>?_,fun i h st b hb=>(by rcases msp hb with rfl;obtain ⟨_,⟨o',e',_⟩,_⟩:=st;exact ⟨_,e'⟩)⟩, ?_,r.keep (.of hk),fun b hb=>?_,fun b hb=>?_,fun b hb=>?_,fun q=>Bool.noConfusion q⟩))
 ·have hi:i<ds.length:=by
   have:=(List.getElem?_eq_some_iff.mp e).1;simpa using this
  rw [List.getElem?_reverse hi] at e
  obtain ⟨v',e',r''⟩:=r'.get _ d e
  have hP:vs[ds.reverse.length-1-i]?=some v:=hP
  rw [List.length_reverse] at hP
  rw [Array.getElem?_toList,hP] at e'
  obtain rfl:=soi e';exact r''
 ·obtain ⟨_,st1,st2⟩:=st
  rcases mcp hb with rfl | hb
  ·obtain ⟨o',e',c,_⟩:=st1;rw [e] at e';obtain rfl:=soi e';exact zaz c
  ·rcases msp hb with rfl
   exact zaz (zka st2 e)
 ·obtain ⟨_,st1,st2⟩:=st
  rcases msp hb with rfl
  obtain ⟨o',e',c,dd⟩:=st1;rw [e] at e';obtain rfl:=soi e';exact zgv c dd (by decide)
 ·refine ⟨Nat.zero_le _,⟨_,Heap.get?_push_size _ rfl,rfl, ?_⟩,l.push _⟩
  simp [revObj,hsz]
 ·rcases msp hb with rfl
  exact zak _
 ·rcases mcp hb with rfl | hb
  ·exact ⟨_,Heap.get?_push_size _ rfl⟩
  ·rcases msp hb with rfl
   obtain ⟨o,e,_⟩:=l;exact ⟨o,hk _ _ e⟩
 ·rcases mcp hb with rfl | hb
  ·exact .inl (zak _)
  ·rcases msp hb with rfl
   exact .inr (.inl ha)
theorem zsv {h:Heap} {e it:Addr} {i:Int} {old:Value} (he:IsEnum h e it i old) {o:Obj} (q:h.get? e=some o):∃ vs,o.data=.fields vs:=by
 have he:h.get? e=_:=he
 rw [he] at q;obtain rfl:=soi q;exact ⟨_,rfl⟩
theorem zmq {h:Heap} {e it:Addr} {i:Int} {old:Value} (he:IsEnum h e it i old) {o:Obj} (q:h.get? e=some o):o.cls=.type "enumerate":=by
 have he:h.get? e=_:=he
 rw [he] at q;obtain rfl:=soi q;rfl
theorem zqk {G:GC} {A:Around} {tg:Expr} (hn:IsTp tg=true):∃ es k p,tg=.Tuple es k p:=by
 exact onTuple_elim (P:=fun tg=>∃ es k p,tg=.Tuple es k p) hn fun es k p _=>⟨es,k,p,rfl⟩
theorem ybl (hh:A.handled=none) (B:Base G s.heap) (p:0<s.toks) (hn:IsTp tg=true) (hlen:ds.length≤16777216) {a:Addr} {vs:Array Value} (l:s.heap.IsList a vs) (r:VReps G.w O s.heap vs.toList ds) {strict:Bool} (ha:strict=true→a∉O)
  {Q:Value→Shared→Prop} {E:Value→Shared→Prop} (q:∀ I s',Got G A false O tg (zxe ds) strict s I s'→Q (.ref I) s') :
  wpAny (mdl G) A (call (.type "enumerate") [.ref a]) (fun x s₁=>wpAny (mdl G) A (pyIter x) Q E s₁) E s:=by
 obtain ⟨es,k,pp,rfl⟩:=zqk (G:=G) (A:=A) hn
 have hlt:a<s.heap.objs.size:=by obtain ⟨o,e,_⟩:=l;exact Heap.lt_size e
 have hsz:vs.size=(zxe ds).length:=by unfold zxe;rw [List.length_map,List.length_zipIdx,← r.length];simp
 refine call_enumerate_list l fun h' he hit hz hk=>?_
 have W:=(WalksT.enumerate (prog:=G.prog) (w:=G.w) (A:=A) hh (s.heap.objs.size+1) s.heap.objs.size a (Nat.succ_ne_self _) (Nat.ne_of_lt (Nat.lt_succ_of_lt hlt)) (Nat.ne_of_lt hlt) vs).toU
 have K:=KTurns.ofWalksU (elts:=es) (k:=k) (pos:=pp) W
 have hself:=W.self
 rw [hsz] at K
 have nw:s.heap.get? (s.heap.objs.size+1)=none:=by
  cases e:s.heap.get? (s.heap.objs.size+1) with
  | none=>rfl
  | some o=>exact absurd (Heap.lt_size e) (Nat.not_lt.mpr (Nat.le_succ _))
 refine wpAny_pyIter_enum he (q _ _ ⟨.all B hk p,by rw [← hsz,← Array.length_toList,r.length];exact hlen,[s.heap.objs.size+1,s.heap.objs.size,a],[s.heap.objs.size+1,s.heap.objs.size],vs.toList,ds,_,_,_,
  ⟨K,hself,fun O' h i v d r' hP e=>?_,fun i h st b hb o e=>?_,fun i h st b hb o e=>?_,fun i h st b hb=>(by
   obtain ⟨⟨old,st0⟩,⟨o',e',_⟩,_⟩:=st
   rcases mcp hb with rfl | hb
   ·exact ⟨_,st0⟩
   ·rcases msp hb with rfl;exact ⟨_,e'⟩)⟩, ?_,r.keep (.of hk),fun b hb=>?_,fun b hb=>?_,fun b hb=>?_,fun q=>Bool.noConfusion q⟩)
 ·obtain ⟨T,vals,rfl,⟨t,x,hx,rfl⟩,hT⟩:=hP
  unfold zxe at e
  rw [List.getElem?_map,List.getElem?_zipIdx] at e
  cases e1:ds[i]? with
  | none=>rw [e1] at e;exact nn e
  | some d' =>
   rw [e1] at e
   simp only [Option.map_some,Option.some.injEq,Nat.zero_add] at e
   subst e
   obtain ⟨v',e',r''⟩:=r'.get i d' e1
   rw [Array.getElem?_toList,hx] at e'
   obtain rfl:=soi e'
   exact .tuple_of (by simp) hT (.cons .int (.cons r'' .nil))
 ·obtain ⟨⟨old,st0⟩,st1,st2⟩:=st
  rcases mcp hb with rfl | hb
  ·exact zaz (zmq st0 e)
  ·rcases mcp hb with rfl | hb
   ·obtain ⟨o',e',c,_⟩:=st1;rw [e] at e';obtain rfl:=soi e';exact zaz c
   ·rcases msp hb with rfl
    exact zaz (zka st2 e)
 ·obtain ⟨⟨old,st0⟩,st1,st2⟩:=st
  rcases mcp hb with rfl | hb
  ·obtain ⟨_,dd⟩:=zsv st0 e;exact zgv (zmq st0 e) dd (by decide)
  ·rcases msp hb with rfl
   obtain ⟨o',e',c,dd⟩:=st1;rw [e] at e';obtain rfl:=soi e';exact zgv c dd (by decide)
 ·obtain ⟨o,e,c⟩:=l
  exact ⟨⟨.none,he⟩,hit,⟨o,hk _ _ e,c⟩⟩
 ·rcases mcp hb with rfl | hb
  ·exact nw
  ·rcases msp hb with rfl
   exact zak _
 ·rcases mcp hb with rfl | hb
  ·exact ⟨_,he⟩
  ·rcases mcp hb with rfl | hb
   ·obtain ⟨o,e,_⟩:=hit;exact ⟨_,e⟩
   ·rcases msp hb with rfl
    obtain ⟨o,e,_⟩:=l;exact ⟨o,hk _ _ e⟩
 ·rcases mcp hb with rfl | hb
  ·exact .inl nw
  ·rcases mcp hb with rfl | hb
   ·exact .inl (zak _)
   ·rcases msp hb with rfl
    exact .inr (.inl ha)
theorem ycp {K:Type} {h:Heap} {enc:K→D} {kvs:List (K × Value)} {dd:List (D × D)} {bs:List Addr} (x:PyProof.V.PairsRead h enc kvs dd bs):dd.map (·.1)=kvs.map fun q=>enc q.1:=by
 induction x with
 | nil=>rfl
 | cons _ _ ih=>rw [List.map_cons,List.map_cons,ih]
theorem zrj:∀ {kvs:List (D × D)},zyh kvs=true→∀ k∈kvs.map (·.1),sok k=true
 | [],_,_,m=>nomatch m
 | p::kvs,h,k,m=>by
  obtain ⟨h1,h2⟩:=bap (show (sok p.1&&sok p.2&&zyh kvs)=true from h)
  rcases mcp m with rfl | m
  ·exact (bap h1).1
  ·exact zrj h2 k m
theorem ybk (hh:A.handled=none) (B:Base G s.heap) (p:0<s.toks) (hn:zbq tg=true) {v:Value} {kvs:List (D × D)} (r:VRep G.w O s.heap v (.dict kvs)) (hlen:kvs.length≤16777216) {strict:Bool}
  {Q:Value→Shared→Prop} {E:Value→Shared→Prop} (q:∀ I s',Got G A false O tg (kvs.map (·.1)) strict s I s'→Q (.ref I) s'):wpAny (mdl G) A (pyIter v) Q E s:=by
 obtain ⟨a,bs,rfl,nsys,qs,dof,pr⟩:=zie r (zia r)
 have ho:a∉O:=by
  obtain ⟨as,x,y,z⟩:=r
  cases x with
  | dict h1 h2 h3 h4 h5=>exact (y a mch).1
 have hsok:=zrj (show zyh kvs=true from r.sok)
 obtain ⟨ep,dat⟩:=dof.dictAt
 have hk:∀ b o,s.heap.get? b=some o→(s.heap.push { cls:=.type "dict_keyiterator",data:=.fields #[.ref a, .int 0 0, .int qs.length 0, .int ep 0] }).get? b=some o:=fun b o e=>Heap.get?_push_of_some _ e
 have hne:a≠s.heap.objs.size:=Nat.ne_of_lt dat.lt_size
 have hm:=ycp pr
 have hsz:qs.length=(kvs.map (·.1)).length:=by rw [hm,List.length_map]
 have W:=Walks.dictKeys (prog:=G.prog) (w:=G.w) (knd:=PySem.strKind G.prog G.w) (A:=A) hh s.heap.objs.size a hne qs ep
 rw [hsz] at W
 refine wpAny_pyIter_dict nsys dat (q _ _ ⟨.all B hk p,by rw [List.length_map];exact hlen,[s.heap.objs.size,a],[s.heap.objs.size],[],[],_,_,_,
  ⟨KTurns.ofWalks W fun i v s' Q' E' st q'=>(let ⟨o,e,c,dd⟩:=st.1;zlm hn e c dd (by decide) q'),W.self,fun O' h i v d r' hP e=>?_,fun i h st b hb o e=>?_,fun i h st b hb o e=>?_,fun i h st b hb=>(by rcases msp hb with rfl;obtain ⟨⟨o',e',_⟩,_⟩:=st;exact ⟨_,e'⟩)⟩, ?_, .nil,fun b hb=>?_,fun b hb=>?_,fun b hb=>?_,fun q=>Bool.noConfusion q⟩)
 ·obtain ⟨k,x,e1,e2⟩:=hP
  have e3:d=.str k:=by
   rw [hm,List.getElem?_map,e1] at e
   exact (soi e).symm
  subst e3
  obtain ⟨t,rfl⟩:=Value.isStrOf_shape e2
  exact .str (hsok _ (List.mem_of_getElem? e))
 ·rcases mcp hb with rfl | hb
  ·obtain ⟨⟨o',e',c,_⟩,_⟩:=st;rw [e] at e';obtain rfl:=soi e';exact zaz c
  ·rcases msp hb with rfl
   obtain ⟨_,⟨o',es,e',c,_⟩⟩:=st;rw [e] at e';obtain rfl:=soi e';exact zaz c.1
 ·rcases msp hb with rfl
  obtain ⟨⟨o',e',c,dd⟩,_⟩:=st;rw [e] at e';obtain rfl:=soi e';exact zgv c dd (by decide)
 ·rw [hsz];exact ⟨⟨_,Heap.get?_push_size _ rfl,rfl,rfl⟩,dat.push _⟩
 ·rcases msp hb with rfl
  exact zak _
 ·rcases mcp hb with rfl | hb
  ·exact ⟨_,Heap.get?_push_size _ rfl⟩
  ·rcases msp hb with rfl
   obtain ⟨o,es,e,_⟩:=dat;exact ⟨o,hk _ _ e⟩
 ·rcases mcp hb with rfl | hb
  ·exact .inl (zak _)
  ·rcases msp hb with rfl
   exact .inr (.inl fun _=>ho)
theorem ygu (hh:A.handled=none) (B:Base G s.heap) (p:0<s.toks) {v:Value} {d:D} (r:VRep G.w O s.heap v d) (h:ziz d=some ds)
  (hn:zbq tg=true)
  {strict:Bool} {Q:Value→Shared→Prop} {E:Value→Shared→Prop} (q:∀ I s',Got G A false O tg ds strict s I s'→Q (.ref I) s'):wpAny (mdl G) A (pyIter v) Q E s:=by
 cases d <;> simp only [ziz,Option.some.injEq,reduceCtorEq] at h
 case list xs =>
  subst h
  obtain ⟨a,vs,rfl,ha,l,rr⟩:=r.list_inv
  exact zqh hh B p hn r.list_len l rr (fun _=>ha) q
 case tuple xs =>
  subst h
  obtain ⟨a,vs,rfl,l,rr⟩:=r.tuple_inv
  exact zxn hh B p hn r.tuple_len l rr q
 case str x =>
  subst h
  obtain ⟨t,rfl⟩:=r.str_inv
  exact ygt hh B p hn r.sok q
 case dict kvs =>
  exact zfd (P:=fun ds=>(∀ I s',Got G A false O tg ds strict s I s'→Q (.ref I) s')→_) h (fun c q=>ybk hh B p hn r (of_decide_eq_true c) q) q
end
end Internal
namespace Internal
noncomputable abbrev EvOK (G:GC) (A:Around) (x:Expr) (env:Env) (own:Own) (O:List Addr) (ρ:Rho) (d:D):Prop:=∀ s,Inv G A env own O ρ s→Sat G A O (eval x env) s d
noncomputable abbrev TrOK (G:GC) (A:Around) (x:Expr) (env:Env) (own:Own) (O:List Addr) (ρ:Rho) (b:Bool):Prop:=∀ s,Inv G A env own O ρ s→SatB G A (isTrue x env (eval x env)) s b
noncomputable abbrev EsOK (G:GC) (A:Around) (xs:List Expr) (env:Env) (own:Own) (O:List Addr) (ρ:Rho) (ds:List D):Prop:=∀ s pos,Inv G A env own O ρ s→SatL G A O (spliced (backTo pos (starEach xs env))) s ds
section
variable {G:GC} {A:Around} {env:Env} {own:Own} {O:List Addr} {ρ:Rho} {d:D}
theorem yfd {k:Nat} {pos:Pos}:EvOK G A (.Constant .none k pos) env own O ρ .none:=fun s I Q E q=>wpAny_Constant_none (q _ s (.refl I.base I.pos) .none)
theorem yez {b:Bool} {k:Nat} {pos:Pos}:EvOK G A (.Constant (.bool b) k pos) env own O ρ (.bool b):=fun s I Q E q=>wpAny_Constant_bool (q _ s (.refl I.base I.pos) .bool)
theorem zrw {i:Int} {k:Nat} {pos:Pos}:EvOK G A (.Constant (.int i) k pos) env own O ρ (.int i):=fun s I Q E q=>wpAny_Constant_int (q _ _ ((Ext.refl I.base I.pos).tok (Nat.succ_pos _)) .int)
theorem ylc {x:Str} {k:Nat} {pos:Pos} (h:sok (.str x)=true):EvOK G A (.Constant (.str x) k pos) env own O ρ (.str x):=fun s I Q E q=>wpAny_Constant_str (q _ _ ((Ext.refl I.base I.pos).tok (Nat.succ_pos _)) (.str h))
theorem ylf {n:Nat} {x:Str} {k:NameKind} {pos:Pos} (hn:G.names[n]?=some x) (hk:env.kindOf x=some k) (hkk:k=.local∨k=.cell∨k=.free) (hx:(x==("__classdict__" : Str))=false) (hd:(x==("__debug__" : Str))=false)
  (ho:n∉own.ns) (hg:ρ.get n=some d):EvOK G A (.Name x pos) env own O ρ d:=fun s I Q E q=>by
 refine wpAny_Name (zlo I hn hk hkk hx hg fun v r=>?_) hd
 unfold SRep at r
 rw [if_neg ho] at r
 exact q v s (.refl I.base I.pos) r
theorem zln {x:Str} {v:Value} {s:Shared} {pos:Pos} {Q:Value→Shared→Prop} {E:Value→Shared→Prop} (I:Inv G A env own O ρ s) (hk:env.kindOf x=some .globalImplicit) (hd:(x==("__debug__" : Str))=false) (hv:G.mg x=some v) (q:Q v s) :
  wpAny (mdl G) A (eval (.Name x pos) env) Q E s:=by
 refine Name_function_global I.envr.fn hk (loadGlobal_global (mg:=G.mg) ?_ hv q) hd
 rw [I.envr.gl]
 exact I.ok.g.at' fun o e=>I.base.keep _ o e
theorem zes {x:Str} {v:Value} {s:Shared} {pos:Pos} {Q:Value→Shared→Prop} {E:Value→Shared→Prop} (I:Inv G A env own O ρ s) (hk:env.kindOf x=some .globalImplicit) (hd:(x==("__debug__" : Str))=false) (hm:G.mg x=none) (hv:bootBuiltins x=some v)
  (hne:x ≠ "__name__") (q:Q v s):wpAny (mdl G) A (eval (.Name x pos) env) Q E s:=by
 refine Name_function_global I.envr.fn hk (loadGlobal_builtin (mg:=G.mg) (mb:=G.mb) ?_ hm ?_ ((I.ok.bt x hne).trans hv) q) hd
 ·rw [I.envr.gl]
  exact I.ok.g.at' fun o e=>I.base.keep _ o e
 ·rw [I.envr.bi]
  exact I.ok.b.at' fun o e=>I.base.keep _ o e
theorem ykx {l r:Expr} {o:Operator} {pos:Pos} {a b:D} (hl:EvOK G A l env own O ρ a) (hr:EvOK G A r env own O ρ b) (h:zez o a b=some d):EvOK G A (.BinOp l o r pos) env own O ρ d:=fun s I Q E q =>
 wpAny_BinOp (hl s I _ _ fun v s1 x1 r1=>hr s1 (I.ext x1) _ _ fun u s2 x2 r2=>zkm x2.base x2.pos (I.ext (x1.trans x2)).ov (r1.keep x2.keep) r2 h _ _ fun z s3 x3 r3=>q z s3 ((x1.trans x2).trans x3) r3)
theorem zzb {l:Expr} {pos:Pos} {i:Int} (hl:EvOK G A l env own O ρ (.int i)):EvOK G A (.UnaryOp .USub l pos) env own O ρ (.int (-i)):=fun s I Q E q =>
 wpAny_UnaryOp (hl s I _ _ fun v s1 x1 r1=>by
  obtain ⟨t,rfl⟩:=r1.int_inv
  exact ycc x1.base x1.pos _ _ fun z s3 x3 r3=>q z s3 (x1.trans x3) r3)
theorem yla {l:Expr} {pos:Pos} {i:Int} (hl:EvOK G A l env own O ρ (.int i)):EvOK G A (.UnaryOp .Invert l pos) env own O ρ (.int (Builtin.bitNot i)):=fun s I Q E q =>
 wpAny_UnaryOp (hl s I _ _ fun v s1 x1 r1=>by
  obtain ⟨t,rfl⟩:=r1.int_inv
  exact ybi x1.base x1.pos _ _ fun z s3 x3 r3=>q z s3 (x1.trans x3) r3)
theorem ykz (hu:A.units+100<cLine) {l r:Expr} {o:CmpOp} {pos:Pos} {a b:D} (hm:behindInMarks o r=false) (hl:EvOK G A l env own O ρ a) (hr:EvOK G A r env own O ρ b) (h:zdq o a b=some d):EvOK G A (.Compare l [o] [r] pos) env own O ρ d:=fun s I Q E q =>
 wpAny_Compare1 (hl s I _ _ fun v s1 x1 r1=>hr s1 (I.ext x1) _ _ fun u s2 x2 r2=>zpm x2.base x2.pos hu (r1.keep x2.keep) r2 h _ _ fun z s3 x3 r3=>q z s3 ((x1.trans x2).trans x3) r3) hm
theorem zza {c l r:Expr} {pos:Pos} {b:Bool} (hc:TrOK G A c env own O ρ b) (hl:b=true→EvOK G A l env own O ρ d) (hr:b=false→EvOK G A r env own O ρ d):EvOK G A (.IfExp c l r pos) env own O ρ d:=fun s I Q E q =>
 wpAny_IfExp (hc s I _ _ fun s1 x1=>by
  cases b
  ·exact hr rfl s1 (I.ext x1) _ _ fun z s3 x3 r3=>q z s3 (x1.trans x3) r3
  ·exact hl rfl s1 (I.ext x1) _ _ fun z s3 x3 r3=>q z s3 (x1.trans x3) r3)
theorem zzc:EsOK G A [] env own O ρ []:=fun s pos I Q E q=>spliced_nil (q [] s (.refl I.base I.pos) .nil)
theorem ztu {x:Expr} {xs:List Expr} {ds:List D} (hx:EvOK G A x env own O ρ d) (hxs:EsOK G A xs env own O ρ ds) (hs:∀ env,starEach (x::xs) env=(false,eval x env)::starEach xs env):EsOK G A (x::xs) env own O ρ (d::ds):=fun s pos I Q E q=>by
 rw [hs]
 exact spliced_cons (hx s I _ _ fun v s1 x1 r1=>hxs s1 pos (I.ext x1) _ _ fun vs s2 x2 r2=>q _ s2 (x1.trans x2) (.cons (r1.keep x2.keep) r2))
noncomputable def zbh (x:Expr):Bool:=!(x.ctorIdx==22)
theorem zch {x:Expr} (h:zbh x=true) (xs:List Expr) (env:Env):starEach (x::xs) env=(false,eval x env)::starEach xs env:=by
 cases x <;> first | rfl | exact ff h
theorem yfc {xs:List Expr} {pos:Pos} {ds:List D} (h:EsOK G A xs env own O ρ ds) (hl:ds.length≤1000):EvOK G A (.List xs pos) env own O ρ (.list ds):=fun s I Q E q=>by
 rw [arm_eval_List]
 exact wpAny_bind (wpAny_standAt (wpAny_bind (h s pos I _ _ fun vs s1 x1 r1=>yhh x1.base x1.pos (I.ext x1).ov r1 (by omega) _ _ fun z s3 x3 r3=>q z s3 (x1.trans x3) r3)))
theorem yle {xs:List Expr} {k:Nat} {pos:Pos} {ds:List D} (h:EsOK G A xs env own O ρ ds) (hl:ds.length≤1000):EvOK G A (.Tuple xs k pos) env own O ρ (.tuple ds):=fun s I Q E q=>by
 rw [arm_eval_Tuple]
 exact wpAny_bind (wpAny_standAt (wpAny_bind (h s pos I _ _ fun vs s1 x1 r1=>yce x1.base x1.pos r1 (by omega) _ _ fun z s3 x3 r3=>q z s3 (x1.trans x3) r3)))
theorem yld {value slice:Expr} {pos:Pos} {a i:D} (hs:zfu slice=true) (ha:EvOK G A value env own O ρ a) (hi:EvOK G A slice env own O ρ i) (h:zkz a i=some d):EvOK G A (.Subscript value slice pos) env own O ρ d:=fun s I Q E q =>
 Subscript_ (ha s I _ _ fun v s1 x1 r1=>hi s1 (I.ext x1) _ _ fun u s2 x2 r2=>ydx x2.base x2.pos hs (r1.keep x2.keep) r2 h _ _ fun z s3 x3 r3=>q z s3 ((x1.trans x2).trans x3) r3)
noncomputable def PRep (w:World) (O:List Addr) (h:Heap) (v:Value):Option D→Prop
 | none=>v=.none
 | some d=>VRep w O h v d
noncomputable abbrev zmi (G:GC) (A:Around) (x:Option Expr) (env:Env) (own:Own) (O:List Addr) (ρ:Rho) (od:Option D):Prop:=∀ s,Inv G A env own O ρ s→∀ (Q E:Value→Shared→Prop),
 (∀ v s',Ext G s s'→PRep G.w O s'.heap v od→Q v s')→wpAny (mdl G) A (evalPart x env) Q E s
theorem ycq:zmi G A none env own O ρ none:=fun s I Q E q=>wpAny_pure (q _ s (.refl I.base I.pos) rfl)
theorem ycr {x:Expr} (h:EvOK G A x env own O ρ d):zmi G A (some x) env own O ρ (some d):=fun s I Q E q=>h s I _ _ fun v s1 x1 r1=>q v s1 x1 r1
theorem zgq {od:Option D} {v:Value} {h h':Heap} (x:PRep G.w O h v od) (k:Keep h h'):PRep G.w O h' v od:=by
 cases od with
 | none=>exact x
 | some d=>exact VRep.keep x k
theorem zjg {lo hi st:Option Expr} {p:Pos} {o i:Value}:subscripted (.Slice lo hi st p) false o i=operate (match st with | none=>[i,o] | some _=>[o,i]) (getItem o i):=by
 cases st <;> rfl
theorem ylb {value:Expr} {lo hi st:Option Expr} {p pos:Pos} {a:D} {l h' t:Option D} (ha:EvOK G A value env own O ρ a) (h1:zmi G A lo env own O ρ l) (h2:zmi G A hi env own O ρ h') (h3:zmi G A st env own O ρ t) (h:zei a l h' t=some d) :
  EvOK G A (.Subscript value (.Slice lo hi st p) pos) env own O ρ d:=fun s I Q E q=>by
 refine Subscript_ (ha s I _ _ fun v s1 x1 r1=>wpAny_Slice (h1 s1 (I.ext x1) _ _ fun u2 s2 x2 r2=>h2 s2 (I.ext (x1.trans x2)) _ _ fun u3 s3 x3 r3=>h3 s3 (I.ext ((x1.trans x2).trans x3)) _ _ fun u4 s4 x4 r4=>?_))
 have hk:∀ b o,s4.heap.get? b=some o→(s4.heap.push { cls:=.type "slice",data:=.fields #[u2,u3,u4] }).get? b=some o:=fun b o e=>Heap.get?_push_of_some _ e
 have x5:=((x1.trans x2).trans x3).trans x4
 have B5:=x5.base.all hk
 have p2:=zgq (od:=l) (zgq (od:=l) r2 (x3.trans x4).keep) (.of hk)
 have p3:=zgq (od:=h') (zgq (od:=h') r3 x4.keep) (.of hk)
 have p4:=zgq (od:=t) r4 (.of hk)
 refine zrh (lo:=value) (hi:=value) (st:=value) (s:={ s4 with heap:=s4.heap.push { cls:=.type "slice",data:=.fields #[u2,u3,u4] } }) B5 x5.pos ((I.ext x5).ov.keep (.of hk)) (((r1.keep ((x2.trans x3).trans x4).keep)).keep (.of hk)) (vl:=u2) (vh:=u3) (vs:=u4) ?_
  (by cases l <;> exact p2) (by cases h' <;> exact p3) (by cases t <;> exact p4) h zjg _ _ fun z s6 x6 r6=>q z s6 (x5.trans (Ext.trans (.all x5.base hk x5.pos) x6)) r6
 exact ⟨_,Heap.get?_push_size _ rfl,rfl,rfl⟩
end
end Internal
namespace Internal
structure FunOK (G:GC) (A:Around) (cal:Nat→List D→Option D):Prop where
 go:∀ f x ds d,G.names[f]?=some x→cal f ds=some d→∃ a o fd,G.mg x=some (.ref a)∧G.h₀.get? a=some o∧o.data=.func fd ∧
  ∀ O s vs,Base G s.heap→0<s.toks→OVal O s.heap→VReps G.w O s.heap vs ds→Sat G A O (call (.ref a) vs) s d
noncomputable def zhf (G:GC) (gl:Nat→Option D):Prop:=∀ n x d,G.names[n]?=some x→gl n=some d→∃ v,G.mg x=some v∧∀ O h,VRep G.w O h v d
noncomputable def Bf.nm:Bf→Str
 | .len => "len" | .sum => "sum" | .max => "max" | .chr => "chr" | .divmod => "divmod" | .sorted => "sorted"
theorem Bf.boot (f:Bf):bootBuiltins f.nm=some f.val:=by cases f <;> decide +kernel
theorem Bf.mem (f:Bf):f.nm∈bltNames:=by cases f <;> decide +kernel
theorem zjk {x:Str} (h:x∈bltNames):x ≠ "__name__":=fun e=>by subst e;revert h;decide +kernel
theorem zjj {x:Str} (h:x∈bltNames):(x==("__debug__" : Str))=false:=by
 cases e:x==("__debug__" : Str) with
 | false=>rfl
 | true=>rw [bqp e] at h;revert h;decide +kernel
noncomputable def zci (xs:List Expr):Bool:=xs.all zbh
theorem zdh {xs:List Expr} (h:zci xs=true) (pos:Pos) (env:Env):(backTo pos (starEach xs env)).any (·.1)=false:=by
 induction xs with
 | nil=>rfl
 | cons x r ih =>
  obtain ⟨h1,h2⟩:=bap (show (zbh x&&zci r)=true from h)
  rw [zch h1]
  show (false || (backTo pos (starEach r env)).any (·.1))=false
  rw [ih h2];rfl
theorem ycu {xs:List Expr} (h:zci xs=true) (pos:Pos) (env:Env):(backTo pos (starEach xs env)).all (fun x=>!x.1)=true:=by
 induction xs with
 | nil=>rfl
 | cons x r ih =>
  obtain ⟨h1,h2⟩:=bap (show (zbh x&&zci r)=true from h)
  rw [zch h1]
  show (true&&(backTo pos (starEach r env)).all (fun x=>!x.1))=true
  rw [ih h2];rfl
theorem zbg {M:Model} {A:Around} {E:Value→Shared→Prop} {s:Shared} {f:Value} {xs:List Expr} {pos:Pos} {env:Env} {Q:Args→Shared→Prop} (hst:zci xs=true)
  (h:wpAny M A (spliced (backTo pos (starEach xs env))) (fun vs s'=>Q ⟨vs,[]⟩ s') E s):wpAny M A (evalArgs f true (backTo pos (starEach xs env)) []) Q E s:=by
 cases xs with
 | nil =>
  unfold evalArgs
  show wpAny M A (spliced [] >>= _) Q E s
  refine wpAny_bind (wpAny_mono h (fun vs s' h'=>?_) fun _ _ x=>x)
  refine wpAny_bind (wpAny_pure (wpAny_holding ?_))
  exact wpAny_bind (wpAny_pure (wpAny_bind (wpAny_pure (wpAny_pure h'))))
 | cons x r =>
  obtain ⟨h1,h2⟩:=bap (show (zbh x&&zci r)=true from hst)
  rw [zch h1] at h ⊢
  exact evalArgs_plain h
section
variable {G:GC} {A:Around} {env:Env} {own:Own} {O:List Addr} {ρ:Rho} {d:D}
theorem yfa {cal:Nat→List D→Option D} (F:FunOK G A cal) {f:Nat} {x:Str} {np pos:Pos} {args:List Expr} {ds:List D} (hn:G.names[f]?=some x) (hk:env.kindOf x=some .globalImplicit) (hd:(x==("__debug__" : Str))=false)
  (hst:zci args=true) (ha:EsOK G A args env own O ρ ds) (h:cal f ds=some d):EvOK G A (.Call (.Name x np) args [] pos) env own O ρ d:=fun s I Q E q=>by
 obtain ⟨a,o,fd,h1,h2,h3,h4⟩:=F.go f x ds d hn h
 refine wpAny_Call_Name_kw (zln I hk hd h1 ?_)
 refine callWith_function_kw (o:=o) (fd:=fd) (zbg hst (ha s pos I _ _ fun vs s1 x1 r1=>⟨⟨x1.base.keep _ _ h2,h3⟩, ?_⟩))
 exact h4 O s1 vs x1.base x1.pos (I.ext x1).ov r1 _ _ fun v s2 x2 r2=>q v s2 (x1.trans x2) r2
theorem yoq (hh:A.handled=none) {f:Bf} {np pos:Pos} {args:List Expr} {ds:List D} (hk:env.kindOf f.nm=some .globalImplicit)
  (hst:zci args=true) (ha:EsOK G A args env own O ρ ds) (h:evBf f ds=some d):EvOK G A (.Call (.Name f.nm np) args [] pos) env own O ρ d:=fun s I Q E q=>by
 refine wpAny_Call_Name_kw (zes I hk (zjj f.mem) (I.ok.nb _ f.mem) f.boot (zjk f.mem) ?_)
 have key:∀ v,f.val=v→wpAny (mdl G) A (evalArgs v true (backTo pos (starEach args env)) []) (fun a s₁=>wpAny (mdl G) A (call v ([]++a.pos) a.kw) Q E s₁) E s:=by
  rintro v rfl
  refine zbg hst (ha s pos I _ _ fun vs s1 x1 r1=>?_)
  exact yfi x1.base x1.pos (I.ext x1).ov hh r1 h _ _ fun v s2 x2 r2=>q v s2 (x1.trans x2) r2
 cases f
 all_goals exact Calls.callWith_builtin (zdh hst pos env) (key _ rfl)
noncomputable def zgo (e:Expr):Bool:=!(zvw e fun f as ks _=>zcl f fun _ _=>zcz as (zcz ks true))
theorem ylg {o:Expr} (h:zgo o=true) (n:Str) (env:Env) (w:Sem Value):attributeBase o n env w=w:=by
 rcases o with ⟨⟩ | ⟨⟩
 case Call f as ks p =>
  rcases f with ⟨⟩ | ⟨⟩
  case Name id np =>
   rcases as with ⟨⟩ | ⟨⟩
   ·rcases ks with ⟨⟩ | ⟨⟩
    ·exact absurd h Bool.false_ne_true
    ·rfl
   ·rfl
  all_goals rfl
 all_goals rfl
theorem zgl {o:Expr} {n:Str} {apos pos:Pos} {args:List Expr} {s:Shared} {Q E:Value→Shared→Prop} (hb:zgo o=true) (hst:zci args=true) (hl:args.length<30) (hp:(apos.endLine==pos.line)=true)
  (h:wpAny (mdl G) A (eval o env) (fun u s1=>∀ pl,wpAny (mdl G) A (getMethod u n pl) (fun r s2=>∃ id,r=(.builtin id,[u]) ∧
   wpAny (mdl G) A (spliced (backTo pos (starEach args env))) (fun vs s3=>wpAny (mdl G) A (call (.builtin id) (u::vs)) Q E s3) E s2) E s1) E s) :
  wpAny (mdl G) A (eval (.Call (.Attribute o n apos) args [] pos) env) Q E s:=by
 rw [arm_eval_Call,ylg hb]
 refine wpAny_bind (wpAny_mono h (fun ov s₁ h₁=>?_) fun _ _ e=>e)
 refine wpAny_bind (wpAny_standAt ?_)
 have hform:methodCallForm (args.length+([]:List Keyword).length) (backTo pos (starEach args env)) (backToKw pos (keywordEach [] env))=true:=by
  show ((backTo pos (starEach args env)).all (fun x=>!x.1)&&([]:List (Option Str × Sem Value)).all (fun x=>x.1.isSome)&&decide (args.length+0+0<30))=true
  rw [ycu hst]
  simpa using hl
 have hpos:methodCallPos true o env apos pos=pure pos:=by unfold methodCallPos;simp [hp]
 unfold methodCall
 rw [hform]
 refine wpAny_bind (wpAny_holding (wpAny_mono (h₁ _) (fun r s2 h2=>?_) fun _ _ e=>e))
 obtain ⟨id,rfl,h2⟩:=h2
 refine wpAny_bind (wpAny_of_eq hpos ?_)
 exact Calls.callWith_builtin (zdh hst pos env) (zbg hst h2)
theorem yor (hu:A.units+100<cLine) {m:Mt} {o:Expr} {a:D} {apos pos:Pos} {args:List Expr} {ds:List D} (hb:zgo o=true) (hst:zci args=true) (hl:args.length<30) (hp:(apos.endLine==pos.line)=true)
  (ho:EvOK G A o env own O ρ a) (ha:EsOK G A args env own O ρ ds) (h:evMt m a ds=some d):EvOK G A (.Call (.Attribute o m.name apos) args [] pos) env own O ρ d:=fun s I Q E q =>
 zgl hb hst hl hp (ho s I _ _ fun u s1 x1 r1 pl=>yhd hu r1 h pl _ _ fun id hc=>⟨id,rfl,ha s1 pos (I.ext x1) _ _ fun vs s3 x3 r3=>hc s3 vs x3 r3 _ _ fun v s4 x4 r4=>q v s4 ((x1.trans x3).trans x4) r4⟩)
theorem yfg {o:Expr} {x y z:Str} {k1 k2:Nat} {p1 p2 apos pos:Pos} (hb:zgo o=true) (hp:(apos.endLine==pos.line)=true) (hyz:(y==z)=false)
  (ho:EvOK G A o env own O ρ (.str x)) (h1:x.length+(x.length+1)*z.length≤16777216) (h2:sok (.str (Txt.replace x y z))=true) :
  EvOK G A (.Call (.Attribute o "replace" apos) [.Constant (.str y) k1 p1, .Constant (.str z) k2 p2] [] pos) env own O ρ (.str (Txt.replace x y z)):=fun s I Q E q =>
 zgl hb rfl (show 2<30 by omega) hp (ho s I _ _ fun u s1 x1 r1 pl=>by
  obtain ⟨t,rfl⟩:=r1.str_inv
  refine GM.replace ⟨_,rfl, ?_⟩
  show wpAny _ _ (spliced [(false,eval (.Constant (.str y) k1 p1) env),(false,eval (.Constant (.str z) k2 p2) env)]) _ _ _
  refine spliced_cons (wpAny_Constant_str (spliced_cons (wpAny_Constant_str (spliced_nil ?_))))
  have hp:=x1.pos
  have x2:Ext G s1 { s1 with toks:=s1.toks+1+1 }:=(Ext.refl x1.base hp).tok (Nat.succ_pos _)
  have S:Sat G A O (call (.builtin "str.replace") [.str x t, .str y s1.toks, .str z (s1.toks+1)]) { s1 with toks:=s1.toks+1+1 } (.str (Txt.replace x y z)) :=
   Sat.of0 x2.base x2.pos fun Q E q=>SC.replace (Nat.ne_of_gt hp) (Nat.succ_ne_zero _) (Nat.ne_of_lt (Nat.lt_succ_self _)) hyz h1 fun t' k=>q _ _ (.str h2)
  exact S _ _ fun v s3 x3 r3=>q v s3 ((x1.trans x2).trans x3) r3)
end
end Internal
namespace Internal
section
variable {G:GC} {A:Around} {env:Env} {own:Own} {O:List Addr} {ρ:Rho} {d:D}
noncomputable def zyf (o:BoolOp) (b:Bool):Bool:=(o==.And&&!b) || (o==.Or&&b)
noncomputable abbrev zyy (G:GC) (A:Around) (o:BoolOp) (xs:List Expr) (env:Env) (own:Own) (O:List Addr) (ρ:Rho) (d:D):Prop:=∀ s pos,Inv G A env own O ρ s→Sat G A O (boolOp pos o (evalEach xs env)) s d
theorem yky {o:BoolOp} {xs:List Expr} {pos:Pos} (h:zyy G A o xs env own O ρ d):EvOK G A (.BoolOp o xs pos) env own O ρ d:=fun s I Q E q=>by
 rw [arm_eval_BoolOp];exact h s pos I Q E q
theorem yli {o:BoolOp} {x:Expr} (h:EvOK G A x env own O ρ d):zyy G A o [x] env own O ρ d:=fun s pos I Q E q=>h s I Q E q
theorem yfk {o:BoolOp} {x y:Expr} {xs:List Expr} {a:D} {b:Bool} (hx:EvOK G A x env own O ρ a) (ht:truth a=some b) (h1:zyf o b=true→a=d) (h2:zyf o b=false→zyy G A o (y::xs) env own O ρ d) :
  zyy G A o (x::y::xs) env own O ρ d:=fun s pos I Q E q=>by
 show wpAny (mdl G) A (boolOp pos o (eval x env::eval y env::evalEach xs env)) Q E s
 unfold boolOp
 refine wpAny_bind (hx s I _ _ fun v s1 x1 r1=>wpAny_bind (wpAny_standAt (wpAny_bind (wpAny_holding (zgu x1.base x1.pos r1 ht _ _ fun s2 x2=>?_)))))
 have fin1:a=d→Q v s2:=fun e=>q v s2 (x1.trans x2) (e▸r1.keep x2.keep)
 have fin2:zyf o b=false→wpAny (mdl G) A (boolOp pos o (evalEach (y::xs) env)) Q E s2:=fun e=>h2 e s2 pos (I.ext (x1.trans x2)) _ _ fun v s3 x3 r3=>q v s3 ((x1.trans x2).trans x3) r3
 cases o <;> cases b <;> first | exact wpAny_pure (fin1 (h1 rfl)) | exact fin2 rfl
noncomputable def zrt (G:GC) (A:Around) (env:Env) (own:Own) (O:List Addr) (ρ:Rho) (o:BoolOp):List Expr→Bool→Prop
 | [],b=>b=(o==.And)
 | x::xs,b=>∃ c,TrOK G A x env own O ρ c∧(zyf o c=true→b=c)∧(zyf o c=false→zrt G A env own O ρ o xs b)
theorem yja {o:BoolOp}:∀ {xs:List Expr} {b:Bool},zrt G A env own O ρ o xs b→∀ s,Inv G A env own O ρ s→SatB G A (allTrue o xs env) s b
 | [],b,h,s,I,Q,E,q=>by
  have h:b=(o==.And):=h
  subst h
  exact wpAny_pure (q s (.refl I.base I.pos))
 | x::xs,b,⟨c,h1,h2,h3⟩,s,I,Q,E,q=>by
  rw [arm_allTrue_cons]
  refine wpAny_bind (h1 s I _ _ fun s1 x1=>?_)
  have fin1:b=c→Q c s1:=fun e=>e▸q s1 x1
  have fin2:zyf o c=false→wpAny (mdl G) A (allTrue o xs env) Q E s1:=fun e=>yja (h3 e) s1 (I.ext x1) _ _ fun s2 x2=>q s2 (x1.trans x2)
  cases o <;> cases c <;> first | exact wpAny_pure (fin1 (h2 rfl)) | exact fin2 rfl
theorem znj {env:Env} {Q:Bool→Shared→Prop} {E:Value→Shared→Prop} {s:Shared} (h:Q false s):∀ xs:List Expr,
  wpAny (mdl G) A (forIn xs false fun c r=>if r=true then do let ok ← isTrue c env (eval c env);pure (ForInStep.yield ok) else pure (ForInStep.yield r)) Q E s
 | []=>wpAny_pure h
 | x::xs=>by
  rw [List.forIn_cons]
  exact wpAny_bind (wpAny_pure (znj h xs))
theorem zwl:∀ {xs:List Expr} {b:Bool},zrt G A env own O ρ .And xs b→∀ s,Inv G A env own O ρ s →
  SatB G A (forIn xs true fun c r=>if r=true then do let ok ← isTrue c env (eval c env);pure (ForInStep.yield ok) else pure (ForInStep.yield r)) s b
 | [],b,h,s,I,Q,E,q=>by
  have h:b=true:=h
  subst h
  exact wpAny_pure (q s (.refl I.base I.pos))
 | x::xs,b,⟨c,h1,h2,h3⟩,s,I,Q,E,q=>by
  rw [List.forIn_cons]
  refine wpAny_bind ?_
  rw [if_pos rfl]
  refine wpAny_bind (h1 s I _ _ fun s1 x1=>wpAny_pure ?_)
  cases c with
  | false=>exact znj (by have:=h2 rfl;subst this;exact q s1 x1) xs
  | true=>exact zwl (h3 rfl) s1 (I.ext x1) _ _ fun s2 x2=>q s2 (x1.trans x2)
theorem yrh {o:BoolOp} {xs:List Expr} {pos:Pos} {b:Bool} (h:zrt G A env own O ρ o xs b):TrOK G A (.BoolOp o xs pos) env own O ρ b:=fun s I Q E q=>by
 exact wpAny_isTrue_BoolOp (yja h s I Q E q)
theorem ykq {c l r:Expr} {pos:Pos} {a b:Bool} (hc:TrOK G A c env own O ρ a) (hl:a=true→TrOK G A l env own O ρ b) (hr:a=false→TrOK G A r env own O ρ b):TrOK G A (.IfExp c l r pos) env own O ρ b:=fun s I Q E q=>by
 rw [arm_isTrue_IfExp]
 refine wpAny_bind (hc s I _ _ fun s1 x1=>?_)
 cases a
 ·exact hr rfl s1 (I.ext x1) _ _ fun s2 x2=>q s2 (x1.trans x2)
 ·exact hl rfl s1 (I.ext x1) _ _ fun s2 x2=>q s2 (x1.trans x2)
theorem yri (hu:A.units+100<cLine) {l r:Expr} {o:CmpOp} {pos:Pos} {a b:D} {c:Bool} (hm:behindInMarks o r=false) (hl:EvOK G A l env own O ρ a) (hr:EvOK G A r env own O ρ b) (h:zdq o a b=some d) (ht:truth d=some c) :
  TrOK G A (.Compare l [o] [r] pos) env own O ρ c:=fun s I Q E q =>
 wpAny_isTrue_Compare1 (hl s I _ _ fun v s1 x1 r1=>hr s1 (I.ext x1) _ _ fun u s2 x2 r2=>zpm x2.base x2.pos hu (r1.keep x2.keep) r2 h _ _ fun z s3 x3 r3=>zgu x3.base x3.pos r3 ht _ _ fun s4 x4=>q s4 (((x1.trans x2).trans x3).trans x4)) hm
noncomputable def yct (e:Expr):Bool:=!(zik e fun o _ _=>onEq o .Not true)&&!(e.ctorIdx==0)&&!(e.ctorIdx==5)&&!(e.ctorIdx==15)
theorem yrj {x:Expr} {b:Bool} (hp:yct x=true) (h:EvOK G A x env own O ρ d) (ht:truth d=some b):TrOK G A x env own O ρ b:=fun s I Q E q=>by
 refine wpAny_isTrue_value (h s I _ _ fun v s1 x1 r1=>zgu x1.base x1.pos r1 ht _ _ fun s2 x2=>q s2 (x1.trans x2)) ?_
 cases x <;> first | rfl | (exact ff hp;done) | skip
 rename_i op _ _
 cases op <;> first | rfl | exact ff hp
theorem ygz {n:Nat} {x:Str} {k:NameKind} {pos:Pos} {xs:List D} {s:Shared} {Q:Value→Shared→Prop} {E:Value→Shared→Prop} (I:Inv G A env own O ρ s) (hn:G.names[n]?=some x) (hk:env.kindOf x=some k) (hkk:k=.local∨k=.cell∨k=.free)
  (hx:(x==("__classdict__" : Str))=false) (hd:(x==("__debug__" : Str))=false) (ho:n∈own.ns) (hg:ρ.get n=some (.list xs))
  (q:∀ a vs,own.at' n=some a→a∈O→xs.length≤16777216→s.heap.PlainList a vs→VReps G.w O s.heap vs.toList xs→Q (.ref a) s):wpAny (mdl G) A (eval (.Name x pos) env) Q E s:=by
 refine wpAny_Name (zlo I hn hk hkk hx hg fun v r=>?_) hd
 unfold SRep at r
 rw [if_pos ho] at r
 obtain ⟨a,vs,ys,y,rfl,m,e,z,l,r⟩:=r
 cases e
 exact q a vs y m z l r
theorem VRep.of_scalar {w:World} {O O':List Addr} {h:Heap} {v:Value} {d:D} (hs:zwb d=true) (r:VRep w O h v d):VRep w O' h v d:=by
 rcases d with ⟨⟩ | ⟨⟩ <;> first | exact absurd hs Bool.false_ne_true | skip
 ·obtain rfl:=r.none_inv;exact .none
 ·obtain rfl:=r.bool_inv;exact .bool
 ·obtain ⟨t,rfl⟩:=r.int_inv;exact .int
 ·have:=r.sok;obtain ⟨t,rfl⟩:=r.str_inv;exact .str this
theorem ycv {w:World} {O:List Addr} {h:Heap} {a:Addr} {vs:Array Value} {xs:List D} (z:xs.length≤16777216) (l:h.PlainList a vs) (r:VReps w O h vs.toList xs):VRep w (O.filter (· != a)) h (.ref a) (.list xs) :=
 .list_of z (by simp) l.isList (fun o e=>by obtain ⟨n,e'⟩:=l;rw [e] at e';obtain rfl:=soi e';rfl) (r.sub fun b m=>(List.mem_filter.mp m).1)
end
end Internal
namespace Internal
section
variable {G:GC} {A:Around} {env:Env} {own:Own} {O:List Addr} {ρ:Rho} {d:D}
structure NameOK (G:GC) (env:Env) (n:Nat) (x:Str):Prop where
 nm:G.names[n]?=some x
 kd:∃ k,env.kindOf x=some k∧(k=.local∨k=.cell∨k=.free)
 h1:(x==("__classdict__" : Str))=false
 h2:(x==("__debug__" : Str))=false
theorem zim {n:Nat} {x:Str} {pos:Pos} {xs:List D} {s:Shared} {Q:Value→Shared→Prop} {E:Value→Shared→Prop} (N:NameOK G env n x) (I:Inv G A env own O ρ s) (ho:n∈own.ns) (hg:ρ.get n=some (.list xs))
  (q:∀ a vs,own.at' n=some a→a∈O→xs.length≤16777216→s.heap.PlainList a vs→VReps G.w O s.heap vs.toList xs→Q (.ref a) s):wpAny (mdl G) A (eval (.Name x pos) env) Q E s:=by
 obtain ⟨k,hk,hkk⟩:=N.kd
 exact ygz I N.nm hk hkk N.h1 N.h2 ho hg q
theorem yff {n:Nat} {x:Str} {np p2 pos:Pos} {xs:List D} (N:NameOK G env n x) (ho:n∈own.ns) (hg:ρ.get n=some (.list xs)) (hk:env.kindOf "len" = some .globalImplicit) :
  EvOK G A (.Call (.Name "len" np) [.Name x p2] [] pos) env own O ρ (.int xs.length):=fun s I Q E q=>by
 have hm:("len" : Str)∈bltNames:=Bf.len.mem
 refine wpAny_Call_Name_kw (zes I hk (zjj hm) (I.ok.nb _ hm) Bf.len.boot (zjk hm) ?_)
 refine Calls.callWith_builtin (zdh (xs:=[.Name x p2]) rfl pos env) (zbg rfl ?_)
 show wpAny _ _ (spliced [(false,eval (.Name x p2) env)]) _ _ _
 refine spliced_cons (zim N I ho hg fun a vs y m z l r=>spliced_nil ?_)
 have e:=r.length
 simp only [Array.length_toList] at e
 have S:Sat G A O (call (.builtin "len") [.ref a]) s (.int xs.length):=Sat.of0 I.base I.pos fun Q E q=>len_list l.isList (by rw [e];omega) (by rw [e];exact q _ _ .int)
 exact S _ _ q
theorem yfe {n:Nat} {x:Str} {np pos:Pos} {slice:Expr} {xs:List D} {i:D} (hs:zfu slice=true) (N:NameOK G env n x) (ho:n∈own.ns) (hg:ρ.get n=some (.list xs)) (hi:EvOK G A slice env own O ρ i) (h:zkz (.list xs) i=some d) :
  EvOK G A (.Subscript (.Name x np) slice pos) env own O ρ d:=fun s I Q E q=>by
 refine Subscript_ (zim N I ho hg fun a vs y m z l r=>hi s I _ _ fun u s2 x2 r2=>?_)
 obtain ⟨k,rfl,h⟩:=zas h
 obtain ⟨j,h1,h2⟩:=Option.bind_eq_some_iff.mp h
 obtain ⟨t,rfl⟩:=r2.int_inv
 have e:=r.length
 simp only [Array.length_toList] at e
 obtain ⟨v,hv,rv⟩:=(r.keep x2.keep).get j _ h2
 exact zwj hs (zbd l x2.keep).isList (by omega) (by rw [e];exact h1) (by simpa using hv) (q v s2 x2 rv)
theorem zzd {cal:Nat→List D→Option D} (F:FunOK G A cal) {f n:Nat} {x y:Str} {np yp pos:Pos} {args:List Expr} {xs ds:List D} (hn:G.names[f]?=some x) (hk:env.kindOf x=some .globalImplicit) (hd:(x==("__debug__" : Str))=false)
  (hst:zci args=true) (N:NameOK G env n y) (ho:n∈own.ns) (hg:ρ.get n=some (.list xs)) (ha:EsOK G A args env own O ρ ds) (h:cal f (.list xs::ds)=some d) (hsc:zwb d=true) :
  EvOK G A (.Call (.Name x np) (.Name y yp::args) [] pos) env own O ρ d:=fun s I Q E q=>by
 obtain ⟨a,o,fd,h1,h2,h3,h4⟩:=F.go f x _ d hn h
 refine wpAny_Call_Name_kw (zln I hk hd h1 ?_)
 refine callWith_function_kw (o:=o) (fd:=fd) (zbg (xs:=.Name y yp::args) hst ?_)
 show wpAny _ _ (spliced ((false,eval (.Name y yp) env)::backTo pos (starEach args env))) _ _ _
 refine spliced_cons (zim N I ho hg fun b vs y m z l r=>ha s pos I _ _ fun us s1 x1 r1=>⟨⟨x1.base.keep _ _ h2,h3⟩, ?_⟩)
 refine h4 (O.filter (· != b)) s1 _ x1.base x1.pos (fun c m=>(I.ext x1).ov c (List.mem_filter.mp m).1) (.cons (ycv z (zbd l x1.keep) (r.keep x1.keep)) (r1.sub fun c m=>(List.mem_filter.mp m).1)) _ _ fun v s2 x2 r2=>?_
 exact q v s2 (x1.trans x2) (r2.of_scalar hsc)
theorem Value.isStrOf_refl (x:Str) (t:Tok):Value.isStrOf x (.str x t)=true:=by simp [Value.isStrOf]
theorem zqn {K:Type} [DecidableEq K]:∀ (more acc:List (K × Value)),((acc++more).map (·.1)).Nodup→merged acc more=acc++more
 | [],acc,_=>by simp [merged]
 | kv::more,acc,h=>by
  have e:stored acc kv.1 kv.2=acc++[kv]:=by
   unfold stored
   rw [if_neg]
   intro c
   obtain ⟨q,hq,e⟩:=List.any_eq_true.mp c
   have e:=of_decide_eq_true e
   rw [List.map_append,List.nodup_append] at h
   exact h.2.2 q.1 (List.mem_map_of_mem hq) kv.1 (by simp) e
  show merged (stored acc kv.1 kv.2) more=_
  rw [e,zqn more (acc++[kv]) (by simpa using h)]
  simp
noncomputable def KV (p:Str × Str) (q:Str × Value):Prop:=q.1=p.1∧∃ t,q.2=.str p.2 t
inductive KVs:List (Str × Str)→List (Str × Value)→Prop
 | nil:KVs [] []
 | cons {p q ps qs}:KV p q→KVs ps qs→KVs (p::ps) (q::qs)
theorem KVs.keys {ps:List (Str × Str)} {qs:List (Str × Value)} (x:KVs ps qs):qs.map (·.1)=ps.map (·.1):=by
 induction x with
 | nil=>rfl
 | cons h t ih=>rw [List.map_cons,List.map_cons,h.1,ih]
theorem zxt {kvs:List (Str × Str)}:∀ {keys:List (Option Expr)} {values:List Expr},(keys.length=kvs.length∧values.length=kvs.length∧∀ i:Nat,∀ p,kvs[i]?=some p→(∃ k pp,keys[i]?=some (some (.Constant (.str p.1) k pp)))∧∃ k pp,values[i]?=some (.Constant (.str p.2) k pp)) →
  ∀ pos:Pos,∃ pairs:List (Sem Value × Sem Value),(evalEachOpt keys env).zip ((evalEach values env).map fun v=>do let x ← v;standAt pos;pure x)=pairs.map (fun p=>(some p.1,p.2))∧pairs.length=kvs.length ∧
   ∀ (s:Shared) (Q:List (Value × Value)→Shared→Prop) (E:Value→Shared→Prop),(∀ vs qs tk,Carries (strKind G.prog G.w) vs qs→KVs kvs qs→Q vs { s with toks:=tk })→wpAny (mdl G) A (evalPairs pairs) Q E s:=by
 induction kvs with
 | nil =>
  intro keys values ⟨h1,h2,_⟩ pos
  cases keys <;> cases values <;> simp at h1 h2
  exact ⟨[],rfl,rfl,fun s Q E q=>wpAny_pure (q [] [] s.toks trivial .nil)⟩
 | cons p r ih =>
  intro keys values ⟨h1,h2,h3⟩ pos
  cases keys with
  | nil=>simp at h1
  | cons ke keys =>
   cases values with
   | nil=>simp at h2
   | cons va values =>
    obtain ⟨⟨k,pp,e1⟩,k',pp',e2⟩:=h3 0 p rfl
    simp at e1 e2
    subst e1 e2
    obtain ⟨pairs,g1,g2,g3⟩:=ih (keys:=keys) (values:=values) ⟨by simpa using h1,by simpa using h2,fun i q hq=>by simpa using h3 (i+1) q (by simpa using hq)⟩ pos
    refine ⟨(eval (.Constant (.str p.1) k pp) env,do let x ← eval (.Constant (.str p.2) k' pp') env;standAt pos;pure x)::pairs, ?_,by simp [g2],fun s Q E q=>?_⟩
    ·show (some (eval (.Constant (.str p.1) k pp) env),_)::((evalEachOpt keys env).zip ((evalEach values env).map fun v=>do let x ← v;standAt pos;pure x))=_
     rw [g1];rfl
    ·unfold evalPairs
     refine wpAny_bind (wpAny_Constant_str (wpAny_bind (wpAny_holding (wpAny_bind (wpAny_Constant_str (wpAny_bind (wpAny_standAt (wpAny_pure ?_))))))))
     refine wpAny_bind (wpAny_holding (g3 _ _ _ fun vs qs tk c kv=>wpAny_pure ?_))
     refine q _ ((p.1, .str p.2 (s.toks+1))::qs) tk ⟨?_,rfl,c⟩ (.cons ⟨rfl,_,rfl⟩ kv)
     exact Value.isStrOf_refl p.1 s.toks
noncomputable def zzw (kvs:List (Str × Str)):Bool:=decide ((kvs.map (·.1)).Nodup)&&decide (0<kvs.length)&&decide (kvs.length≤15)&&sok (.dict (kvs.map fun p=>(.str p.1, .str p.2)))
theorem zlt {w:World} {prog:Program} {h:Heap} {es:List DictEntry} {qs:List (Str × Value)} (hp:Pairs (strKind prog w) es qs):∀ {ps:List (Str × Str)},KVs ps qs →
  ReadsAll h (es.map (·.key)) (ps.map fun p=>.str p.1) []∧ReadsAll h (es.map (·.val)) (ps.map fun p=>.str p.2) []:=by
 induction hp with
 | nil=>intro ps kv;cases kv;exact ⟨.nil, .nil⟩
 | cons h1 h2 h3 ih =>
  intro ps kv
  cases kv with
  | cons k kv =>
   obtain ⟨a,b⟩:=ih kv
   obtain ⟨u,hu⟩:=Value.isStrOf_shape h1
   obtain ⟨k1,t,k2⟩:=k
   refine ⟨?_, ?_⟩
   ·rw [List.map_cons,List.map_cons,hu,k1]
    exact ReadsAll.cons (as:=[]) (.str _ _) a
   ·rw [List.map_cons,List.map_cons,h2,k2]
    exact ReadsAll.cons (as:=[]) (.str _ _) b
theorem zxs {w:World} {prog:Program} {es:List DictEntry} {qs:List (Str × Value)} (hp:Pairs (strKind prog w) es qs):∀ f∈es,∃ q∈qs,Value.isStrOf q.1 f.key=true:=by
 induction hp with
 | nil=>intro f hf;cases hf
 | cons a b c ih =>
  intro f hf
  rcases mcp hf with rfl | hf
  ·exact ⟨_,mch,a⟩
  ·obtain ⟨q,m,y⟩:=ih f hf
   exact ⟨q,mct _ m,y⟩
theorem zls {w:World} {prog:Program} {es:List DictEntry} {qs:List (Str × Value)} (hp:Pairs (strKind prog w) es qs):(qs.map (·.1)).Nodup→es.Pairwise fun e f=>∀ x t u,e.key=.str x t→f.key≠.str x u:=by
 induction hp with
 | nil=>intro _;exact .nil
 | cons h1 h2 h3 ih =>
  intro hn
  obtain ⟨n1,n2⟩:=List.nodup_cons.mp hn
  refine List.pairwise_cons.mpr ⟨fun f hf x t u ex fx=>n1 ?_,ih n2⟩
  obtain ⟨q,m,y⟩:=zxs h3 f hf
  have e1:=Value.isStrOf_inj _ _ x h1 (ex▸Value.isStrOf_refl _ _)
  have e2:q.1=x:=Value.isStrOf_inj f.key q.1 x y (fx▸Value.isStrOf_refl _ _)
  exact List.mem_map.mpr ⟨q,m,e2.trans e1.symm⟩
theorem yfb {kvs:List (Str × Str)} {keys:List (Option Expr)} {values:List Expr} {pos:Pos} (hs:keys.length=kvs.length∧values.length=kvs.length∧∀ i:Nat,∀ p,kvs[i]?=some p→(∃ k pp,keys[i]?=some (some (.Constant (.str p.1) k pp)))∧∃ k pp,values[i]?=some (.Constant (.str p.2) k pp))
  (hd:zzw kvs=true):EvOK G A (.Dict keys values pos) env own O ρ (.dict (kvs.map fun p=>(.str p.1, .str p.2))):=fun s I Q E q=>by
 unfold zzw at hd
 simp only [Bool.and_eq_true,decide_eq_true_eq] at hd
 obtain ⟨⟨⟨d1,d2⟩,d3⟩,d4⟩:=hd
 obtain ⟨pairs,g1,g2,g3⟩:=zxt (G:=G) (A:=A) (env:=env) hs pos
 refine wpAny_with_toks (n:=1) I.pos (wpAny_Dict_pairs (knd:=strKind G.prog G.w) g1 (fun e=>by rw [e] at g2;simp at g2;omega) (by omega) (g3 _ _ _ fun vs qs tk c kv=>⟨qs,c, ?_,fun h' hm hs'=>?_⟩))
 ·exact ⟨_,_,_,Heap.get?_push_size _ rfl,⟨rfl,rfl,rfl⟩,rfl,fun e he=>by simp at he, .nil,by simp⟩
 ·intro p'
  have hn:(qs.map (·.1)).Nodup:=by rw [kv.keys];exact d1
  rw [zqn qs [] (by simpa using hn),List.nil_append] at hm
  obtain ⟨o,es,ep,e1,e2,e3,e4,e5,e6⟩:=hm
  have hk:∀ b o,s.heap.get? b=some o→h'.get? b=some o:=fun b o e=>hs'.extBut b o (fun e'=>by rw [e',zak] at e;exact nn e) (Heap.get?_push_of_some _ e)
  have ex:Ext G s { s with heap:=h',toks:=tk+vs.length }:=.all I.base hk p'
  refine q _ _ ex ?_
  obtain ⟨r1,r2⟩:=zlt (h:=h') e5 kv
  have rd:Reads h' (.ref s.heap.objs.size) (.dict (kvs.map fun p=>(.str p.1, .str p.2))) (s.heap.objs.size::[]++[]):=by
   refine .dict e1 e2.1 e3 ?_ ?_
   ·rw [List.map_map];exact r1
   ·rw [List.map_map];exact r2
  refine ⟨_,rd,fun a m=>?_,d4⟩
  rcases mcp m with rfl | m
  ·refine ⟨I.ov.new (zak _),fun o' e'=>?_⟩
   rw [e1] at e';obtain rfl:=soi e'
   refine ⟨e2.2.1,fun es' n' q'=>?_⟩
   rw [e3] at q';cases q'
   refine ⟨?_,e2,fun e he=>?_,zls e5 hn⟩
   ·obtain ⟨om,_,_,em,_⟩:=I.ok.g
    have:mainGlobals<s.heap.objs.size:=Heap.lt_size (I.base.keep _ _ em)
    have h1:sysModules<mainGlobals:=by decide
    refine beq_eq_false_iff_ne.mpr fun e=>?_
    have h2:sysModules<s.heap.objs.size:=Nat.lt_trans h1 this
    rw [← e] at h2
    exact Nat.lt_irrefl _ h2
   ·obtain ⟨k,k1,k2⟩:=e4 e (Array.mem_toList_iff.mp he)
    obtain ⟨t,ht⟩:=Value.isStrOf_shape k1
    exact ⟨k,t,ht,k2⟩
  ·simp at m
end
end Internal
namespace Internal
section
variable {G:GC} {A:Around} {env:Env} {own:Own} {O:List Addr} {ρ:Rho} {d:D}
theorem zig (h:G.names.Nodup) {n m:Nat} {x:Str} (h1:G.names[n]?=some x) (h2:G.names[m]?=some x):n=m:=by
 obtain ⟨l1,e1⟩:=List.getElem?_eq_some_iff.mp h1
 exact (List.getElem?_inj l1 h).mp (h1.trans h2.symm)
theorem zgx {o:Obj} {es:Array DictEntry} {ep:Nat} (h:o.data=.dict es ep):Mut o:=⟨fun xs n _ e=>(by rw [h] at e;cases e),fun vs _ e=>(by rw [h] at e;cases e)⟩
theorem zkf {o:Obj} {v:Option Value} (h:o.data=.cell v):Mut o:=⟨fun xs n _ e=>(by rw [h] at e;cases e),fun vs _ e=>(by rw [h] at e;cases e)⟩
theorem zft {o:Obj} {vs:Array Value} {n:Nat} (h:o.data=.seq vs n) (hc:o.cls=.type "list"):Mut o:=⟨fun xs n e _=>(by rw [hc] at e;exact absurd (Value.type.inj e) (by decide)),fun vs _ e=>(by rw [h] at e;cases e)⟩
theorem ypz {o:Obj} (h:WrCls o):Mut o:=by
 obtain ⟨⟨vs,h1⟩,h2,h3,_⟩:=h
 exact ⟨fun xs n _ e=>(by rw [h1] at e;cases e),fun vs e _=>e.elim h2 h3⟩
theorem zat {a:Addr} {h h':Heap} (hs:Heap.SameBut a h h'):∀ b o,b∉[a]→h.get? b=some o→h'.get? b=some o:=fun b o m e=>hs.extBut b o (fun q=>m (by simp [q])) e
theorem zdm {W:List Addr} {h h':Heap} (k:∀ b o,b∉W→h.get? b=some o→h'.get? b=some o):KeepBut W h h':=fun b o m e _=>k b o m e
theorem OVal.but {h h':Heap} {W:List Addr} (x:OVal O h) (k:KeepBut W h h') (n:∀ a∈W,∃ o,h'.get? a=some o∧zhj o):OVal O h':=fun a m=>by
 by_cases c:a∈W
 ·exact n a c
 ·obtain ⟨o,e,q⟩:=x a m;exact ⟨o,k a o c e q,q⟩
theorem zfz {A₂:Around} {n:Nat} {x:Str} {k:NameKind} {v:Value} {s:Shared} {W:List Addr} (I:Inv G A env own O ρ s) (nm:G.names[n]?=some x) (hk:env.kindOf x=some k) (hkk:k=.local∨k=.cell) (r:SRep G.w own n O s.heap v d)
  (hW:env.locals∈W∧(env.kindOf x=some .cell→∀ c,env.cells.lookup x=some c→c∈W)) {Q:Unit→Shared→Prop} {E:Value→Shared→Prop} (q:∀ s',SExt G W s s'→(∀ vs ds,VReps G.w O s.heap vs ds→VReps G.w O s'.heap vs ds)→Inv G A env own O (ρ.set n d) s'→Q () s'):wpAny (mdl G) A₂ (storeName env x v) Q E s:=by
 obtain ⟨m,hm,hmv⟩:=I.envr.ns
 have hi:∀ {n' y},G.names[n']?=some y→y=x→n'=n:=fun h e=>zig I.ok.nd (e▸h) nm
 have plain_ne:∀ {a b vs},s.heap.PlainList a vs→(∃ o,s.heap.get? b=some o∧∀ vs n,o.data≠.seq vs n)→a∉[b]:=by
  intro a b vs ⟨n,e⟩ ⟨o,e',h⟩ m
  rcases msp m with rfl
  rw [e] at e';obtain rfl:=soi e';exact h _ _ rfl
 rcases hkk with rfl | rfl
 ·refine wpAny_storeName_local hk hm (fun h' hn' hs'=>?_) (by rw [I.envr.fn];rfl)
  obtain ⟨ol,es,ep,e1,e2,_⟩:=id hm
  have ht:zcc O [env.locals] s.heap:=fun a ma o e=>by
   rcases msp ma with rfl
   rw [e1] at e;obtain rfl:=soi e
   exact ⟨zgx e2,fun _=>I.envr.lin⟩
  have hkb:KeepBut [env.locals] s.heap h':=zdm (zat hs')
  have B:Base G h':=I.base.but (zat hs') (fun a ma=>by rcases msp ma with rfl;exact I.envr.lfr) fun a ma o e=>(ht a ma o e).1
  have ov:OVal O h':=I.ov.but hkb fun a ma=>by
   rcases msp ma with rfl
   obtain ⟨o,es,ep,e1,e2,_⟩:=hn'
   exact ⟨o,e1, .inr fun vs q=>by rw [e2] at q;cases q⟩
  have hp:∀ n a vs,own.at' n=some a→s.heap.PlainList a vs→a∉[env.locals]:=fun n a vs _ l=>plain_ne l ⟨ol,e1,fun vs n q=>by rw [e2] at q;cases q⟩
  have cells_ne:∀ {c v},s.heap.IsCell c v→c∉[env.locals]:=fun {c v} ⟨o,e,dd⟩ m=>by
   rcases msp m with rfl
   rw [e1] at e;obtain rfl:=soi e;rw [e2] at dd;cases dd
  refine q _ ⟨⟨_,_,rfl⟩,hkb.mono fun a ma=>?_,B,Nat.succ_pos _,fun b mb e=>zby (fun o q=>zat hs' b o (fun mm=>by rcases msp mm with rfl;exact mb hW.1) q) e⟩ (fun vs ds r=>r.but hkb ht) ⟨I.ok,I.hh,B,Nat.succ_pos _,ov,⟨I.envr.fn,I.envr.gl,I.envr.bi,I.envr.lin,I.envr.lfr,I.envr.oin,I.envr.cin,I.envr.inj, ?_,⟨_,hn', ?_⟩, ?_⟩⟩
  ·rcases msp ma with rfl;exact hW.1
  ·intro y hy
   obtain ⟨c,v',e,qc⟩:=I.envr.ce y hy
   exact ⟨c,v',e,hkb.cell (cells_ne qc) qc⟩
  ·intro n' y d' h1 h2 h3
   rw [Rho.get_set] at h3
   by_cases hy:y=x
   ·have:=hi h1 hy
    subst this
    rw [if_pos rfl] at h3;obtain rfl:=soi h3
    exact ⟨v,by simp [hy],r.but hkb ht (hp _)⟩
   ·rw [if_neg (fun e=>hy (by rw [e,nm] at h1;exact (soi h1).symm))] at h3
    obtain ⟨v',e,r'⟩:=hmv n' y d' h1 h2 h3
    exact ⟨v',by simp [hy,e],r'.but hkb ht (hp _)⟩
  ·intro n' y d' h1 h2 h3
   have hy:y≠x:=fun e=>by rw [e,hk] at h2;rcases h2 with h2 | h2 <;> cases h2
   rw [Rho.get_set,if_neg (fun e=>hy (by rw [e,nm] at h1;exact (soi h1).symm))] at h3
   obtain ⟨c,v',e,qc,r'⟩:=I.envr.cl n' y d' h1 h2 h3
   exact ⟨c,v',e,hkb.cell (cells_ne qc) qc,r'.but hkb ht (hp _)⟩
 ·obtain ⟨c,v0,hc,hq⟩:=I.envr.ce x (.inl hk)
  refine wpAny_storeName_cell I.envr.fn hk hc hq fun h' hn' hs'=>?_
  obtain ⟨oc,e1,e2⟩:=id hq
  have ht:zcc O [c] s.heap:=fun a ma o e=>by
   rcases msp ma with rfl
   rw [e1] at e;obtain rfl:=soi e
   exact ⟨zkf e2,fun _=>(I.envr.cin _ _ hc).1⟩
  have hkb:KeepBut [c] s.heap h':=zdm (zat hs')
  have B:Base G h':=I.base.but (zat hs') (fun a ma=>by rcases msp ma with rfl;exact (I.envr.cin _ _ hc).2) fun a ma o e=>(ht a ma o e).1
  have ov:OVal O h':=I.ov.but hkb fun a ma=>by
   rcases msp ma with rfl
   obtain ⟨o,e1,e2⟩:=hn'
   exact ⟨o,e1, .inr fun vs q=>by rw [e2] at q;cases q⟩
  have hp:∀ n a vs,own.at' n=some a→s.heap.PlainList a vs→a∉[c]:=fun n a vs _ l=>plain_ne l ⟨oc,e1,fun vs n q=>by rw [e2] at q;cases q⟩
  have loc_ne:env.locals∉[c]:=fun ma=>by
   rcases msp ma with e
   obtain ⟨o,es,ep,e3,e4,_⟩:=hm
   rw [e,e1] at e3;obtain rfl:=soi e3;rw [e2] at e4;cases e4
  refine q _ ⟨⟨_,_,rfl⟩,hkb.mono fun a ma=>?_,B,I.pos,fun b mb e=>zby (fun o q=>zat hs' b o (fun mm=>by rcases msp mm with rfl;exact mb (hW.2 hk _ hc)) q) e⟩ (fun vs ds r=>r.but hkb ht) ⟨I.ok,I.hh,B,I.pos,ov,⟨I.envr.fn,I.envr.gl,I.envr.bi,I.envr.lin,I.envr.lfr,I.envr.oin,I.envr.cin,I.envr.inj, ?_,⟨m,hkb.ns loc_ne hm, ?_⟩, ?_⟩⟩
  ·rcases msp ma with rfl;exact hW.2 hk _ hc
  ·intro y hy
   obtain ⟨c',v',e,qc⟩:=I.envr.ce y hy
   by_cases hcc:c'=c
   ·subst hcc;exact ⟨_,_,e,hn'⟩
   ·exact ⟨c',v',e,hkb.cell (by simpa using hcc) qc⟩
  ·intro n' y d' h1 h2 h3
   have hy:y≠x:=fun e=>by rw [e,hk] at h2;cases h2
   rw [Rho.get_set,if_neg (fun e=>hy (by rw [e,nm] at h1;exact (soi h1).symm))] at h3
   obtain ⟨v',e,r'⟩:=hmv n' y d' h1 h2 h3
   exact ⟨v',e,r'.but hkb ht (hp _)⟩
  ·intro n' y d' h1 h2 h3
   rw [Rho.get_set] at h3
   by_cases hy:y=x
   ·have:=hi h1 hy
    subst this
    rw [if_pos rfl] at h3;obtain rfl:=soi h3
    exact ⟨c,v,hy▸hc,hn',r.but hkb ht (hp _)⟩
   ·rw [if_neg (fun e=>hy (by rw [e,nm] at h1;exact (soi h1).symm))] at h3
    obtain ⟨c',v',e,qc,r'⟩:=I.envr.cl n' y d' h1 h2 h3
    have hcc:c'∉[c]:=fun ma=>by
     rcases msp ma with rfl
     exact hy (I.envr.inj _ _ _ e hc)
    exact ⟨c',v',e,hkb.cell hcc qc,r'.but hkb ht (hp _)⟩
inductive TgOK (G:GC) (env:Env) (own:Own):List Expr→List Nat→Prop
 | nil:TgOK G env own [] []
 | cons {x pos n k es ns}:G.names[n]?=some x→env.kindOf x=some k→(k=.local∨k=.cell)→n∉own.ns→TgOK G env own es ns→TgOK G env own (.Name x pos::es) (n::ns)
noncomputable def WOK (env:Env) (G:GC) (W:List Addr) (ns:List Nat):Prop:=env.locals∈W∧∀ n∈ns,∀ x c,G.names[n]?=some x→env.kindOf x=some .cell→env.cells.lookup x=some c→c∈W
theorem zhr {w:World} {own:Own} {n:Nat} {O:List Addr} {h:Heap} {v:Value} {d:D} (hn:n∉own.ns) (r:VRep w O h v d):SRep w own n O h v d:=by
 unfold SRep;rw [if_neg hn];exact r
theorem zkl {n:Nat} {x:Str} {k:NameKind} {v:Value} {s:Shared} {W:List Addr} {pos:Pos} (I:Inv G A env own O ρ s) (nm:G.names[n]?=some x) (hk:env.kindOf x=some k) (hkk:k=.local∨k=.cell) (hno:n∉own.ns) (r:VRep G.w O s.heap v d)
  (hW:WOK env G W [n]) {Q:Unit→Shared→Prop} {E:Value→Shared→Prop} (q:∀ s',SExt G W s s'→(∀ vs ds,VReps G.w O s.heap vs ds→VReps G.w O s'.heap vs ds)→Inv G A env own O (ρ.set n d) s'→Q () s'):wpAny (mdl G) A (assign (.Name x pos) env v) Q E s :=
 wpAny_assign_Name (zfz I nm hk hkk (zhr hno r) ⟨hW.1,fun hk c hc=>hW.2 n (by simp) x c nm hk hc⟩ q)
theorem zwu {W:List Addr}:∀ {es:List Expr} {ns:List Nat},TgOK G env own es ns→∀ {ρ:Rho} {vs:List Value} {ds:List D} {s:Shared},Inv G A env own O ρ s→VReps G.w O s.heap vs ds→ds.length=ns.length→WOK env G W ns →
  ∀ {Q:Unit→Shared→Prop} {E:Value→Shared→Prop},(∀ s',SExt G W s s'→(∀ vs ds,VReps G.w O s.heap vs ds→VReps G.w O s'.heap vs ds)→Inv G A env own O (zbl ρ ns ds) s'→Q () s') →
  wpAny (mdl G) A (assignInOrder ((assignEach es env).map (·.2)) vs) Q E s:=by
 intro es ns h
 induction h with
 | nil =>
  intro ρ vs ds s I r hl hW Q E q
  obtain rfl:ds=[]:=List.length_eq_zero_iff.mp hl
  exact assignInOrder_nil (q s (.refl I.base I.pos) (fun _ _ r=>r) I)
 | cons h1 h2 h3 h4 h5 ih =>
  intro ρ vs ds s I r hl hW Q E q
  cases ds with
  | nil=>simp at hl
  | cons d ds =>
   obtain ⟨v,vs,rfl,r1,r2⟩:=r.cons_inv
   refine assignInOrder_cons (zkl (W:=W) I h1 h2 h3 h4 r1 ⟨hW.1,fun m hm=>hW.2 m (by rcases msp hm with rfl;simp)⟩ fun s1 x1 k1 I1=>?_)
   exact ih I1 (k1 _ _ r2) (by simpa using hl) ⟨hW.1,fun m hm=>hW.2 m (mct _ hm)⟩ fun s2 x2 k2 I2=>q s2 (x1.trans x2) (fun vs ds r=>k2 _ _ (k1 _ _ r)) I2
inductive TargetOK (G:GC) (env:Env) (own:Own):Expr→List Nat→Prop
 | name {x pos n}:TgOK G env own [.Name x pos] [n]→TargetOK G env own (.Name x pos) [n]
 | tup {es k pos ns}:TgOK G env own es ns→2≤ns.length→TargetOK G env own (.Tuple es k pos) ns
theorem ykp {es:List Expr} {ns:List Nat} (h:TgOK G env own es ns):(assignEach es env).length=ns.length∧(assignEach es env).findIdx? (·.1)=none:=by
 induction h with
 | nil=>exact ⟨rfl,rfl⟩
 | cons h1 h2 h3 h4 h5 ih =>
  rename_i x pos n k es ns
  have e:assignEach (.Name x pos::es) env=(false,assign (.Name x pos) env)::assignEach es env:=rfl
  rw [e]
  refine ⟨by simp [ih.1], ?_⟩
  rw [List.findIdx?_cons,ih.2];rfl
theorem zfj {W:List Addr} {tg:Expr} {ns:List Nat} (h:TargetOK G env own tg ns) {v:Value} {s:Shared} {ρ':Rho} (I:Inv G A env own O ρ s) (r:VRep G.w O s.heap v d) (hb:zcn ρ ns d=some ρ') (hW:WOK env G W ns)
  {Q:Unit→Shared→Prop} {E:Value→Shared→Prop} (q:∀ s',SExt G W s s'→(∀ vs ds,VReps G.w O s.heap vs ds→VReps G.w O s'.heap vs ds)→Inv G A env own O ρ' s'→Q () s'):wpAny (mdl G) A (assign tg env v) Q E s:=by
 cases h with
 | name h =>
  cases h with
  | cons h1 h2 h3 h4 h5 => 
   have hb:some (Rho.set ρ _ d)=some ρ':=hb
   obtain rfl:=soi hb
   exact zkl I h1 h2 h3 h4 r hW q
 | tup h h2 =>
  rename_i es k pos
  have key:∃ xs,d=.tuple xs∧xs.length=ns.length∧ρ'=zbl ρ ns xs:=by
   rcases zpj hb with ⟨n,_,_⟩ | ⟨_,xs,_,hl,e⟩
   ·simp at h2
   ·exact ⟨xs,rfl,hl,e⟩
  obtain ⟨xs,rfl,hl,rfl⟩:=key
  obtain ⟨a,vs,rfl,lt,rr⟩:=r.tuple_inv
  have e:=rr.length
  simp only [Array.length_toList] at e
  refine wpAny_assign_Tuple I.hh lt ((ykp h).1.trans (hl.symm.trans e.symm)) (ykp h).2 fun h' hk=>?_
  have hk':∀ b o,s.heap.get? b=some o→h'.get? b=some o:=fun b o e=>hk b o (fun q=>by rw [q,zak] at e;exact nn e) e
  have x0:Ext G s { s with heap:=h' }:=.all (t:=s.toks) I.base hk' I.pos
  refine zwu h (I.ext x0) (rr.keep x0.keep) hl hW fun s1 x1 k1 I1=>q s1 (x0.sext.trans x1) (fun vs ds r=>k1 _ _ (r.keep x0.keep)) I1
end
end Internal
namespace Internal
theorem zgc {env:Env} (f:Str × NameKind→List (Str × Addr)→Sem (ForInStep (List (Str × Addr))))
  (hf:∀ name kind cells,f (name,kind) cells=if kind==.free then (do let a ← cellOf env name;pure (.yield ((name,a)::cells))) else pure (.yield cells)) :
  ∀ (names:List (Str × NameKind)) (acc:List (Str × Addr)),(∀ p∈names,p.2=.free→∃ c,env.cells.lookup p.1=some c) →
   ∃ cl,forIn names acc f=pure cl∧(∀ p∈cl,p∈acc∨(env.cells.lookup p.1=some p.2∧(p.1, .free)∈names))∧(∀ p∈acc,p∈cl)∧∀ p∈names,p.2=.free→∃ c,(p.1,c)∈cl
 | [],acc,_=>⟨acc,by rw [List.forIn_nil],fun p m=>.inl m,fun p m=>m,by simp⟩
 | (name,kind)::r,acc,h=>by
  rw [List.forIn_cons,hf]
  by_cases hk:kind=.free
  ·subst hk
   obtain ⟨c,hc⟩:=h (name, .free) mch rfl
   have e:cellOf env name=pure c:=by unfold cellOf;rw [hc]
   obtain ⟨cl,e1,e2,e3,e4⟩:=zgc f hf r ((name,c)::acc) fun p m=>h p (mct _ m)
   refine ⟨cl, ?_,fun p m=>?_,fun p m=>e3 p (mct _ m),fun p m hp=>?_⟩
   ·simp only [beq_self_eq_true,if_true,e,pure_bind];exact e1
   ·rcases e2 p m with m | m
    ·rcases mcp m with rfl | m
     ·exact .inr ⟨hc,mch⟩
     ·exact .inl m
    ·exact .inr ⟨m.1,mct _ m.2⟩
   ·rcases mcp m with rfl | m
    ·exact ⟨c,e3 _ mch⟩
    ·exact e4 p m hp
  ·obtain ⟨cl,e1,e2,e3,e4⟩:=zgc f hf r acc fun p m=>h p (mct _ m)
   refine ⟨cl, ?_,fun p m=>(e2 p m).imp id fun q=>⟨q.1,mct _ q.2⟩,e3,fun p m hp=>?_⟩
   ·have:(kind==NameKind.free)=false:=by simpa using hk
    simp only [this,Bool.false_eq_true,if_false,pure_bind];exact e1
   ·rcases mcp m with rfl | m
    ·exact absurd hp hk
    ·exact e4 p m hp
theorem zxa {scope:Scope} {env:Env} (h:∀ p∈scope.names,p.2=.free→∃ c,env.cells.lookup p.1=some c) :
  ∃ cl,closureFor scope env=pure cl∧(∀ p∈cl,env.cells.lookup p.1=some p.2∧(p.1, .free)∈scope.names)∧∀ p∈scope.names,p.2=.free→∃ c,(p.1,c)∈cl:=by
 obtain ⟨cl,e1,e2,e3,e4⟩:=zgc (env:=env) (fun x cells=>if x.2==.free then (do let a ← cellOf env x.1;pure (.yield ((x.1,a)::cells))) else pure (.yield cells)) (fun _ _ _=>rfl) scope.names [] h
 refine ⟨cl, ?_,fun p m=>by rcases e2 p m with m | m;cases m;exact m,e4⟩
 unfold closureFor
 rw [← bind_pure (forIn scope.names [] _)] at e1
 rw [← e1]
theorem zbp:∀ (names:List (Str × NameKind)) (n:Nat) (acc:List (Str × Addr)),cellsFrom n names acc=cellsFrom n names []++acc
 | [],n,acc=>rfl
 | (name,kind)::r,n,acc=>by
  unfold cellsFrom
  split
  ·rw [zbp r (n+1) ((name,n)::acc),zbp r (n+1) [(name,n)]];simp
  ·exact zbp r n acc
theorem zdd:∀ (names:List (Str × NameKind)) (n:Nat) (x:Str) (c:Addr),(x,c)∈cellsFrom n names []→(x, .cell)∈names∧n≤c
 | [],n,x,c,m=>by cases m
 | (name,kind)::r,n,x,c,m=>by
  unfold cellsFrom at m
  split at m
  ·rename_i hk
   rw [zbp] at m
   rcases map2 m with m | m
   ·obtain ⟨a,b⟩:=zdd r (n+1) x c m
    exact ⟨mct _ a,Nat.le_of_succ_le b⟩
   ·rcases msp m with e
    cases e
    exact ⟨by rw [bqp hk];exact mch,Nat.le_refl _⟩
  ·obtain ⟨a,b⟩:=zdd r n x c m
   exact ⟨mct _ a,b⟩
theorem zbr:∀ (names:List (Str × NameKind)) (n:Nat) (x:Str),(x, .cell)∈names→∃ c,(x,c)∈cellsFrom n names []
 | [],n,x,m=>by cases m
 | (name,kind)::r,n,x,m=>by
  unfold cellsFrom
  split
  ·rename_i hk
   rw [zbp]
   rcases mcp m with e | m
   ·cases e;exact ⟨n,List.mem_append_right _ (by simp)⟩
   ·obtain ⟨c,hc⟩:=zbr r (n+1) x m;exact ⟨c,List.mem_append_left _ hc⟩
  ·rename_i hk
   rcases mcp m with e | m
   ·cases e;exact absurd (by rfl:(NameKind.cell==NameKind.cell)=true) hk
   ·exact zbr r n x m
theorem zbs {α:Type}:∀ {l:List (Str × α)} {n:Str} {c:α},(n,c)∈l→∃ c',l.lookup n=some c'
 | (k,v)::r,n,c,h=>by
  rw [List.lookup_cons]
  cases hb:n==k with
  | true=>exact ⟨_,rfl⟩
  | false =>
   rcases mcp h with e | h
   ·cases e;simp at hb
   ·exact zbs h
theorem zsf {M:Model} {A:Around} {E:Value→Shared→Prop} {s:Shared} {scope:Scope} {globals:Addr} {cl:List (Str × Addr)} {qual:Str} {outer:Env} {Q:Env→Shared→Prop}
  (q:Q { scope:=scope,locals:=s.heap.objs.size,globals:=globals,cells:=cellsFrom (s.heap.objs.size+1) scope.names cl,qual:=qual,func:=none,code:=outer.code,frame:=outer.frame,builtins:=outer.builtins }
   { s with heap:=pushCells (s.heap.push { cls:=.type "dict",data:=.dict #[] }) scope.names }) :
  wpAny M A (newFunctionEnv scope globals cl [] qual none .none (some outer)) Q E s:=by
 simp only [newFunctionEnv,Option.isSome_some,if_true]
 refine wpAny_bind (wpAny_alloc ?_)
 refine wpAny_bind (wpAny_layCells _ (fun name kind cells=>by cases hkc:kind==NameKind.cell <;> simp [hkc]) _ _ _ _ ?_)
 rw [show ({ s with heap:=s.heap.push { cls:=.type "dict",data:=.dict #[] } }:Shared).heap.objs.size=s.heap.objs.size+1 from Heap.size_push ..]
 exact wpAny_bind (wpAny_pure (wpAny_pure q))
noncomputable def relN (names sc:List (Str × NameKind)):List (Str × NameKind):=names.map fun p=>if p.2==.free&&sc.lookup p.1==some .cell then (p.1, .cell) else p
theorem zec {scope:Scope} {env:Env} (h:env.scope.kind=.function):(relabel scope env).names=relN scope.names env.scope.names:=by
 unfold relabel relN
 dsimp only
 refine List.map_congr_left fun p _=>?_
 obtain ⟨n,k⟩:=p
 dsimp only
 rw [h]
 simp [Env.kindOf]
theorem zfw (sc:List (Str × NameKind)) (x:Str):∀ names:List (Str × NameKind),(relN names sc).lookup x=(names.lookup x).map fun k=>if k==.free&&sc.lookup x==some .cell then .cell else k
 | []=>rfl
 | (n,k)::r=>by
  show List.lookup x ((if k==.free&&sc.lookup n==some .cell then (n,NameKind.cell) else (n,k))::relN r sc)=_
  have ih:=zfw sc x r
  by_cases c:x=n
  ·subst c
   by_cases c2:(k==.free&&sc.lookup x==some .cell)=true
   ·rw [if_pos c2,List.lookup_cons_self,List.lookup_cons_self]
    show _=some (if _ then _ else _)
    rw [if_pos c2]
   ·rw [if_neg c2,List.lookup_cons_self,List.lookup_cons_self]
    show _=some (if _ then _ else _)
    rw [if_neg c2]
  ·have hb:(x==n)=false:=by simpa using c
   by_cases c2:(k==.free&&sc.lookup n==some .cell)=true
   ·rw [if_pos c2];simp [List.lookup_cons,hb,ih]
   ·rw [if_neg c2];simp [List.lookup_cons,hb,ih]
noncomputable def isTg (nm:List Str) (T:List Nat) (x:Str):Bool:=T.any fun n=>nm[n]?==some x
noncomputable def zed (nm:List Str) (sc names:List (Str × NameKind)) (T:List Nat) (p:Str × NameKind):Bool:=match p.2 with
 | .free=>sc.lookup p.1==some .cell || sc.lookup p.1==some .free
 | .local=>names.lookup p.1==some .local&&(p.1==(".0" : Str) || isTg nm T p.1)
 | .cell=>names.lookup p.1==some .cell&&isTg nm T p.1
 | _=>true
noncomputable def zfx (nm:List Str) (sc names:List (Str × NameKind)) (T:List Nat):Bool:=names.all (zed nm sc names T)&&!nm.contains (".0" : Str)
theorem Rho.get_del (ρ:Rho) (T:List Nat) (n:Nat):(Rho.del ρ T).get n=if T.contains n then none else ρ.get n:=by
 induction ρ with
 | nil=>simp [Rho.del,Rho.get]
 | cons p r ih =>
  unfold Rho.del at *
  rw [List.filter_cons]
  by_cases c:T.contains p.1=true
  ·simp only [c,Bool.not_true,Bool.false_eq_true,if_false]
   rw [ih,Rho.get_cons]
   by_cases e:n=p.1
   ·subst e;simp only [c,if_true]
   ·simp [e]
  ·have c':T.contains p.1=false:=by simpa using c
   simp only [c',Bool.not_false,if_true]
   rw [Rho.get_cons,ih,Rho.get_cons]
   by_cases e:n=p.1
   ·subst e;simp only [c',if_true];simp
   ·simp [e]
section
variable {G:GC} {A:Around} {env:Env} {own:Own} {O:List Addr} {ρ:Rho} {d:D}
theorem VRep.news {w:World} {h:Heap} {v:Value}:∀ {N:List Addr},VRep w O h v d→(∀ a∈N,h.get? a=Option.none)→VRep w (N++O) h v d
 | [],r,_=>r
 | a::N,r,k=>(r.news (N:=N) fun b m=>k b (mct _ m)).new (k a mch)
theorem VReps.news {w:World} {h:Heap} {vs:List Value} {ds:List D}:∀ {N:List Addr},VReps w O h vs ds→(∀ a∈N,h.get? a=Option.none)→VReps w (N++O) h vs ds
 | [],r,_=>r
 | a::N,r,k=>(r.news (N:=N) fun b m=>k b (mct _ m)).new (k a mch)
theorem SRep.news {w:World} {h:Heap} {v:Value} {n:Nat} {N:List Addr} (r:SRep w own n O h v d) (k:∀ a∈N,h.get? a=none):SRep w own n (N++O) h v d:=by
 unfold SRep at *
 split at r
 ·rename_i q;rw [if_pos q]
  obtain ⟨a,vs,xs,y,e,m,q,z,l,r⟩:=r
  exact ⟨a,vs,xs,y,e,List.mem_append_right _ m,q,z,l,r.news k⟩
 ·rename_i q;rw [if_neg q];exact r.news k
theorem zfn {h:Heap} {a:Addr} (q:h.objs.size≤a):h.get? a=none:=by
 cases e:h.get? a with
 | none=>rfl
 | some o=>exact absurd (Heap.lt_size e) (Nat.not_lt.mpr q)
theorem zzm {s:Shared} {scope:Scope} {cl:List (Str × Addr)} {T:List Nat} {D:Addr} {h3 h4:Heap} {cenv:Env} (I:Inv G A env own O ρ s) (hs:zfx G.names env.scope.names scope.names T=true) (hk:scope.kind=.function)
  (cl1:∀ p∈cl,env.cells.lookup p.1=some p.2∧(p.1, .free)∈scope.names) (cl2:∀ p∈scope.names,p.2=.free→∃ c,(p.1,c)∈cl)
  (hD:s.heap.get? D=none) (k3:∀ b o,s.heap.get? b=some o→h3.get? b=some o) (hD3:D<h3.objs.size) (hle:s.heap.objs.size≤h3.objs.size) (e4:h4=pushCells (h3.push { cls:=.type "dict",data:=.dict #[] }) scope.names)
  (hc:cenv.scope=relabel scope env∧cenv.locals=h3.objs.size∧cenv.globals=env.globals∧cenv.cells=cellsFrom (h3.objs.size+1) scope.names cl∧cenv.builtins=env.builtins) :
  ∃ N:List Addr,(∀ a∈N,h3.objs.size≤a)∧h3.objs.size∈N ∧
   (∀ x c,(x, .cell)∈scope.names→cenv.cells.lookup x=some c→c∈N) ∧ 
   EnvR G cenv own (N++D::O) (ρ.del T) h4∧h4.Ns h3.objs.size (fun _=>none)∧(∀ x c,cenv.cells.lookup x=some c→c≠D)∧(∀ a∈N,∃ o,h4.get? a=some o∧zhj o):=by
 obtain ⟨c1,c2,c3,c4,c5⟩:=hc
 have k4:∀ b o,h3.get? b=some o→h4.get? b=some o:=fun b o e=>by rw [e4];exact pushCells_keeps _ _ _ _ (Heap.get?_push_of_some _ e)
 have ok:=cellsFrom_ok scope.names (h3.push { cls:=.type "dict",data:=.dict #[] }) (h3.objs.size+1) [] ⟨fun _ _ hm=>(nomatch hm),List.Pairwise.nil⟩ (by rw [Heap.size_push];exact Nat.le_refl _)
 rw [Heap.size_push,← e4] at ok
 rw [zbp] at c4
 obtain ⟨so,dot⟩:=bap hs
 have so:∀ p∈scope.names,zed G.names env.scope.names scope.names T p=true:=latp so
 have dot:(".0" : Str)∉G.names:=by simpa using dot
 let oc:=cellsFrom (h3.objs.size+1) scope.names []
 have hoc:∀ x c,(x,c)∈oc→h4.IsCell c none∧h3.objs.size+1≤c∧(x, .cell)∈scope.names:=fun x c m=>⟨(ok.empty x c m).1,(ok.empty x c m).2,(zdd _ _ _ _ m).1⟩
 have hcell:∀ x c,cenv.cells.lookup x=some c→(x,c)∈oc∨(x,c)∈cl:=fun x c e=>by rw [c4] at e;exact map2 (mem_of_lookup e)
 have free_kind:∀ x,(x,NameKind.free)∈scope.names→env.kindOf x=some .cell∨env.kindOf x=some .free:=fun x m=>by
  have:=so _ m
  simpa [zed,Env.kindOf] using this
 have cl_lt:∀ x c,(x,c)∈cl→c<s.heap.objs.size:=fun x c m=>by
  obtain ⟨o,e,_⟩:=I.ov c (I.envr.cin _ _ (cl1 _ m).1).1
  exact Heap.lt_size e
 have tg_in:∀ n x,G.names[n]?=some x→isTg G.names T x=true→T.contains n=true:=fun n x e q=>by
  obtain ⟨m,hm,e'⟩:=List.any_eq_true.mp q
  have:=zig I.ok.nd e (bqp e')
  subst this
  simpa using hm
 have fr:∀ a,h3.objs.size≤a→s.heap.get? a=none:=fun a q=>zfn (Nat.le_trans hle q)
 have base_fr:∀ a,s.heap.get? a=none→G.h₀.get? a=none:=fun a q=>by
  cases e:G.h₀.get? a with
  | none=>rfl
  | some o=>rw [I.base.keep _ _ e] at q;cases q
 have kk:∀ b o,s.heap.get? b=some o→h4.get? b=some o:=fun b o e=>k4 b o (k3 b o e)
 have names_eq:∀ x,cenv.kindOf x=(scope.names.lookup x).map fun k=>if k==.free&&env.scope.names.lookup x==some .cell then .cell else k:=by
  intro x
  show cenv.scope.names.lookup x=_
  rw [c1,zec I.envr.fn,zfw]
 have hns:h4.Ns h3.objs.size (fun _=>none):=by
  rw [e4];exact (Heap.Ns.new h3 (.type "dict")).keeps (pushCells_keeps _ _)
 have hN:∀ a∈h3.objs.size::oc.map (·.2),h3.objs.size≤a:=fun a m=>by
  rcases mcp m with rfl | m
  ·exact Nat.le_refl _
  ·obtain ⟨p,hp,rfl⟩:=mmp m
   exact Nat.le_of_succ_le (hoc p.1 p.2 hp).2.1
 have grow:∀ a∈(h3.objs.size::oc.map (·.2))++[D],s.heap.get? a=none:=fun a m=>by
  rcases map2 m with m | m
  ·exact fr a (hN a m)
  ·rcases msp m with rfl;exact hD
 have assoc:((h3.objs.size::oc.map (·.2))++[D])++O=(h3.objs.size::oc.map (·.2))++D::O:=by simp
 have inl:∀ a,a∈O→a∈(h3.objs.size::oc.map (·.2))++D::O:=fun a m=>List.mem_append_right _ (mct _ m)
 have hinj:∀ x y c,cenv.cells.lookup x=some c→cenv.cells.lookup y=some c→x=y:=fun x y c ex ey=>by
  rcases hcell _ _ ex with mx | mx <;> rcases hcell _ _ ey with my | my
  ·exact name_of_addr ok.apart mx my
  ·have h1:=(hoc _ _ mx).2.1;have h2:=cl_lt _ _ my
   exact absurd h2 (Nat.not_lt.mpr (Nat.le_trans hle (Nat.le_of_succ_le h1)))
  ·have h1:=(hoc _ _ my).2.1;have h2:=cl_lt _ _ mx
   exact absurd h2 (Nat.not_lt.mpr (Nat.le_trans hle (Nat.le_of_succ_le h1)))
  ·exact I.envr.inj _ _ _ (cl1 _ mx).1 (cl1 _ my).1
 refine ⟨h3.objs.size::oc.map (·.2),hN,mch,fun x c m e=>?_,⟨?_, ?_, ?_, ?_, ?_, ?_, ?_,hinj, ?_,⟨_,c2▸hns, ?_⟩, ?_⟩,hns,fun x c e q=>?_,fun a m=>?_⟩
 ·obtain ⟨c0,h0⟩:=zbr _ (h3.objs.size+1) _ m
  obtain ⟨c',e'⟩:=zbs (l:=oc) h0
  rw [c4,List.lookup_append] at e
  have e:(oc.lookup x).or (cl.lookup x)=some c:=e
  rw [e'] at e
  obtain rfl:=soi e
  exact mct _ (List.mem_map_of_mem (f:=(·.2)) (mem_of_lookup e'))
 ·rw [c1];exact hk
 ·rw [c3];exact I.envr.gl
 ·rw [c5];exact I.envr.bi
 ·rw [c2];exact List.mem_append_left _ mch
 ·rw [c2];exact base_fr _ (fr _ (Nat.le_refl _))
 ·exact fun n a e=>inl a (I.envr.oin n a e)
 ·intro x c e
  rcases hcell _ _ e with m | m
  ·exact ⟨List.mem_append_left _ (mct _ (List.mem_map_of_mem (f:=(·.2)) m)),base_fr _ (fr _ (Nat.le_of_succ_le (hoc _ _ m).2.1))⟩
  ·have:=I.envr.cin _ _ (cl1 _ m).1
   exact ⟨inl _ this.1,this.2⟩
 ·intro x hx
  have:∃ c,(x,c)∈oc++cl:=by
   rw [names_eq] at hx
   cases e:scope.names.lookup x with
   | none=>rw [e] at hx;simp at hx
   | some k =>
    have mk:=mem_of_lookup e
    rw [e] at hx
    cases k with
    | cell=>obtain ⟨c,hc⟩:=zbr _ (h3.objs.size+1) _ mk;exact ⟨c,List.mem_append_left _ hc⟩
    | free=>obtain ⟨c,hc⟩:=cl2 _ mk rfl;exact ⟨c,List.mem_append_right _ hc⟩
    | «local»=>simp at hx
    | globalExplicit=>simp at hx
    | globalImplicit=>simp at hx
  obtain ⟨c,hc⟩:=this
  obtain ⟨c',e'⟩:=zbs (l:=cenv.cells) (by rw [c4];exact hc)
  rcases hcell _ _ e' with m | m
  ·exact ⟨c',none,e',(hoc _ _ m).1⟩
  ·obtain ⟨c'',v,e2,q⟩:=I.envr.ce x (free_kind _ (cl1 _ m).2)
   rw [(cl1 _ m).1] at e2;obtain rfl:=soi e2
   exact ⟨_,v,e',q.keeps kk⟩
 ·intro n x d' h1 h2 h3'
  rw [names_eq] at h2
  cases e:scope.names.lookup x with
  | none=>rw [e] at h2;simp at h2
  | some k =>
   have mk:=mem_of_lookup e
   rw [e] at h2
   have hkl:k=.local:=by
    cases k with
    | free=>simp only [Option.map_some,Option.some.injEq] at h2;split at h2 <;> cases h2
    | cell=>simp at h2
    | «local»=>rfl
    | globalExplicit=>simp at h2
    | globalImplicit=>simp at h2
   subst hkl
   have q:=so _ mk
   simp only [zed,Bool.and_eq_true,Bool.or_eq_true,beq_iff_eq] at q
   rcases q.2 with q | q
   ·exact absurd (List.mem_of_getElem? (q▸h1)) dot
   ·rw [Rho.get_del,tg_in n x h1 q] at h3'
    simp at h3'
 ·intro n x d' h1 h2 h3'
  rw [Rho.get_del] at h3'
  have hT:T.contains n=false:=by
   cases c:T.contains n with
   | false=>rfl
   | true=>rw [c] at h3';simp at h3'
  rw [hT] at h3'
  have h3':ρ.get n=some d':=by simpa using h3'
  rw [names_eq] at h2
  have hmem:(x,NameKind.free)∈scope.names:=by
   cases e:scope.names.lookup x with
   | none=>rw [e] at h2;simp at h2
   | some k =>
    have mk:=mem_of_lookup e
    rw [e] at h2
    cases k with
    | free=>exact mk
    | cell =>
     have q:=so _ mk
     simp only [zed,Bool.and_eq_true] at q
     have:=tg_in n x h1 q.2
     rw [hT] at this;exact ff this
    | «local»=>simp at h2
    | globalExplicit=>simp at h2
    | globalImplicit=>simp at h2
  obtain ⟨c,hc⟩:=cl2 _ hmem rfl
  obtain ⟨c',e'⟩:=zbs (l:=cenv.cells) (by rw [c4];exact List.mem_append_right _ hc)
  rcases hcell _ _ e' with m | m
  ·have q:=so _ (hoc _ _ m).2.2
   simp only [zed,Bool.and_eq_true] at q
   have:=tg_in n x h1 q.2
   rw [hT] at this;exact ff this
  ·obtain ⟨c2',v,e2,q,r⟩:=I.envr.cl n x d' h1 (free_kind _ hmem) h3'
   rw [(cl1 _ m).1] at e2;obtain rfl:=soi e2
   refine ⟨_,v,e',q.keeps kk, ?_⟩
   have:=(r.news grow).keep (.of kk)
   rw [assoc] at this
   exact this
 ·subst q
  rcases hcell _ _ e with m | m
  ·exact absurd hD3 (Nat.not_lt.mpr (Nat.le_of_succ_le (hoc _ _ m).2.1))
  ·obtain ⟨o,e',_⟩:=I.ov c (I.envr.cin _ _ (cl1 _ m).1).1
   rw [hD] at e';exact nn e'
 ·rcases mcp m with rfl | m
  ·obtain ⟨o,es,ep,e,dd,_⟩:=hns
   exact ⟨o,e, .inr fun vs q=>by rw [dd] at q;cases q⟩
  ·obtain ⟨p,hp,rfl⟩:=mmp m
   obtain ⟨o,e,dd⟩:=(hoc p.1 p.2 hp).1
   exact ⟨o,e, .inr fun vs q=>by rw [dd] at q;cases q⟩
theorem EnvR.news {h:Heap} {N:List Addr} (x:EnvR G env own O ρ h) (k:∀ a∈N,h.get? a=none):EnvR G env own (N++O) ρ h where
 fn:=x.fn
 gl:=x.gl
 bi:=x.bi
 lin:=List.mem_append_right _ x.lin
 lfr:=x.lfr
 oin:=fun n a e=>List.mem_append_right _ (x.oin n a e)
 cin:=fun y c e=>⟨List.mem_append_right _ (x.cin y c e).1,(x.cin y c e).2⟩
 inj:=x.inj
 ce:=x.ce
 ns:=let ⟨m,a,b⟩:=x.ns;⟨m,a,fun n y d h1 h2 h3=>let ⟨v,e,r⟩:=b n y d h1 h2 h3;⟨v,e,r.news k⟩⟩
 cl:=fun n y d h1 h2 h3=>let ⟨c,v,e,q,r⟩:=x.cl n y d h1 h2 h3;⟨c,v,e,q,r.news k⟩
end
end Internal
namespace Internal
noncomputable def yko (ifs:List Expr) (env:Env):Sem Bool:=forIn ifs true fun c r=>if r=true then do let ok ← isTrue c env (eval c env);pure (ForInStep.yield ok) else pure (ForInStep.yield r)
inductive CK where
 | list (elt:Expr) | dict (k v:Expr)
noncomputable def CK.expr (c:CK) (gens:List Comprehension) (scope:Scope) (pos:Pos):Expr:=match c with
 | .list elt=>.ListComp elt gens scope pos
 | .dict k v=>.DictComp k v gens scope pos
theorem CK.clauses (c:CK) (gens:List Comprehension) (scope:Scope) (pos:Pos):clausesOf (c.expr gens scope pos)=gens:=by cases c <;> rfl
noncomputable def CK.emit (c:CK) (D:Addr) (env:Env):Sem Unit:=match c with
 | .list elt=>eval elt env >>= fun x=>call (.builtin "list.append") [.ref D,x] >>= fun _=>pure ()
 | .dict k v=>eval k env >>= fun kv=>holding [kv] (eval v env) >>= fun vv=>standAt { k.pos with endLine:=v.pos.endLine,endCol:=v.pos.endCol } >>= fun _=>holding [kv,vv] (dictSet D kv vv)
noncomputable def zjn (c:CK) (gens:List Comprehension) (scope:Scope) (pos:Pos) (k:Nat) (D:Addr) (env:Env):Sem Unit :=
 match gens[k+1]? with
 | some g'=>eval g'.iter env >>= fun x=>standAt g'.iter.pos >>= fun _=>foldedSetIterable g'.iter env x >>= fun x=>holding [x] (pyIter x) >>= fun it =>
  runOwn (.compStart (c.expr gens scope pos) (k+1) it (.ref D) env) env >>= fun _=>pure ()
 | none=>c.emit D env
theorem zse {M:Model} {A:Around} {E:Value→Shared→Prop} {s:Shared} {c:CK} {gens:List Comprehension} {scope:Scope} {pos:Pos} {k:Nat} {target iter:Expr} {ifs:List Expr} {it:Value} {D:Addr} {env:Env} {Q:Fin→Shared→Prop}
  (hg:gens[k]?=some ⟨target,iter,ifs,0⟩) (hg':∀ g',gens[k+1]?=some g'→g'.is_async=0)
  (h:wpAny M A (pyNext it) (fun r s1=>match r with
   | none=>Q (.done .next) s1
   | some v=>wpAny M A (letOwnedTupleGo target it v) (fun _ s2=>wpAny M A (assign target env v) (fun _ s3=>wpAny M A (yko ifs env) (fun ok s4 =>
     if ok=true then wpAny M A (zjn c gens scope pos k D env) (fun _ s5=>wpAny M A (again (.compLoop (c.expr gens scope pos) k it (.ref D) env)) Q E s5) E s4
     else wpAny M A (again (.compLoop (c.expr gens scope pos) k it (.ref D) env)) Q E s4) E s3) E s2) E s1) E s) :
  wpAny M A (compTurn (c.expr gens scope pos) k it (.ref D) env) Q E s:=by
 have e0:((0:Int) != 0)=false:=rfl
 have main:∀ (emit:Sem Unit),emit=c.emit D env→wpAny M A (do
   let some g:=gens[k]? | unsupported "internal:comprehension-depth"
   standAt (if g.is_async != 0 then (c.expr gens scope pos).pos else g.iter.pos)
   match ← if g.is_async != 0 then asyncNext it else pyNext it with
   | none=>pure (.done .next)
   | some v =>
    letOwnedTupleGo g.target it v
    assign g.target env v
    let mut ok:=true
    for c in g.ifs do
     if ok then ok ← isTrue c env (eval c env)
    if ok then
     match gens[k+1]? with
     | some g' =>
      let x ← eval g'.iter env
      standAt g'.iter.pos
      let x ← if g'.is_async != 0 then foldedIterable g'.iter x else foldedSetIterable g'.iter env x
      let _ ← runOwn (.compStart (c.expr gens scope pos) (k+1) (← holding [x] (if g'.is_async != 0 then asyncIter x else pyIter x)) (.ref D) env) env
     | none=>emit
    again (.compLoop (c.expr gens scope pos) k it (.ref D) env)) Q E s:=by
  rintro emit rfl
  simp only [hg]
  simp only [e0,Bool.false_eq_true,if_false]
  refine wpAny_bind (wpAny_standAt (wpAny_bind (wpAny_mono h (fun r s1 h1=>?_) fun _ _ e=>e)))
  cases r with
  | none=>exact wpAny_pure h1
  | some v =>
   refine wpAny_bind (wpAny_mono h1 (fun _ s2 h2=>wpAny_bind (wpAny_mono h2 (fun _ s3 h3=>wpAny_bind (wpAny_mono h3 (fun ok s4 h4=>?_) fun _ _ e=>e)) fun _ _ e=>e)) fun _ _ e=>e)
   cases ok with
   | false=>exact wpAny_bind (wpAny_pure h4)
   | true =>
    have h4:wpAny M A (zjn c gens scope pos k D env) (fun _ s5=>wpAny M A (again (.compLoop (c.expr gens scope pos) k it (.ref D) env)) Q E s5) E s4:=h4
    unfold zjn at h4
    cases e:gens[k+1]? with
    | none =>
     rw [e] at h4
     simp only [if_true]
     exact wpAny_bind h4
    | some g' =>
     rw [e] at h4
     have e1:(g'.is_async != 0)=false:=by rw [hg' _ e];rfl
     simp only [if_true,e1,Bool.false_eq_true,if_false]
     have h5:=wpAny_bind h4
     simpa only [bind_assoc,pure_bind] using h5
 cases c with
 | list elt=>exact main _ rfl
 | dict kx vx=>exact main _ rfl
theorem CK.under_start {A:Around} (c:CK) {gens:List Comprehension} {scope:Scope} {pos:Pos} {k:Nat} {it acc:Value} {env:Env}:A.under (.compStart (c.expr gens scope pos) k it acc env)=A:=by cases c <;> rfl
theorem CK.under_loop {A:Around} (c:CK) {gens:List Comprehension} {scope:Scope} {pos:Pos} {k:Nat} {it acc:Value} {env:Env}:A.under (.compLoop (c.expr gens scope pos) k it acc env)=A:=by cases c <;> rfl
theorem CK.den_start {prog:Program} {w:World} (c:CK) {gens:List Comprehension} {scope:Scope} {pos:Pos} {k:Nat} {it acc:Value} {env:Env} :
  (model prog w).den (.compStart (c.expr gens scope pos) k it acc env)=(compStart (c.expr gens scope pos) k it acc env).onRaise (fun x=>do noteFrame x env;standAt theWindowsPlace):=by cases c <;> rfl
theorem CK.den_loop {prog:Program} {w:World} (c:CK) {gens:List Comprehension} {scope:Scope} {pos:Pos} {k:Nat} {it acc:Value} {env:Env} :
  (model prog w).den (.compLoop (c.expr gens scope pos) k it acc env)=(compTurn (c.expr gens scope pos) k it acc env).onRaise (fun x=>do noteFrame x env;theTreesLotGoes x):=by cases c <;> rfl
theorem zgd {prog:Program} {w:World} {A:Around} {R:Result→Shared→Prop} {s:Shared} {c:CK} {gens:List Comprehension} {scope:Scope} {pos:Pos} {k:Nat} {g:Comprehension} {it acc:Value} {env:Env}
  (hg:gens[k]?=some g) (ha:g.is_async=0)
  (h0:codeAny (model prog w) A (.compLoop (c.expr gens scope pos) k it acc env) R s)
  (h:wpAny (model prog w) A (pyIter it) (fun it' s'=>codeAny (model prog w) A (.compLoop (c.expr gens scope pos) k it' acc env) R s')
   (notedBy (model prog w) A env fun x s'=>R (.error x) s') s) :
  codeAny (model prog w) A (.compStart (c.expr gens scope pos) k it acc env) R s:=by
 refine codeAny_of_tree ?_
 rw [c.den_start,c.under_start]
 refine wpAny_notedAt ?_
 unfold compStart
 have e1:((clausesOf (c.expr gens scope pos))[k]?).elim false (·.is_async != 0)=false:=by
  rw [c.clauses,hg]
  show (g.is_async != 0)=false
  rw [ha];rfl
 simp only [e1,Bool.false_eq_true,if_false]
 refine wpAny_bind (wpAny_askSetting (wpAny_ite ?_))
 split
 ·first
   | exact wpAny_bind (wpAny_pure (wpAny_pure (And.intro rfl h0)))
   | exact wpAny_pure (And.intro rfl h0)
 ·refine wpAny_bind (wpAny_rule ?_)
  have e2:(clausesOf (c.expr gens scope pos))[k]?=some g:=by rw [c.clauses];exact hg
  simp only [e2]
  exact wpAny_bind (wpAny_standAt (wpAny_bind (wpAny_mono h (fun it' s' h'=>wpAny_pure (And.intro rfl h')) fun _ _ x=>x)))
theorem zgn:∀ {xs:List D},zaw xs=true→∀ d∈xs,zbm d=true
 | [],_,_,m=>nomatch m
 | x::xs,h,d,m=>by
  obtain ⟨h1,h2⟩:=bap (h:(zbm x&&zaw xs)=true)
  rcases mcp m with rfl | m
  ·exact h1
  ·exact zgn h2 d m
theorem zhp:∀ {kvs:List (PyData × PyData)},zoo kvs=true→zaw (kvs.map (·.1))=true∧zaw (kvs.map (·.2))=true
 | [],_=>⟨rfl,rfl⟩
 | (k,v)::r,h=>by
  obtain ⟨h1,h2⟩:=bap (h:(zbm k&&zbm v&&zoo r)=true)
  obtain ⟨h3,h4⟩:=bap h1
  obtain ⟨h5,h6⟩:=zhp h2
  exact ⟨Bool.and_eq_true_iff.mpr ⟨h3,h5⟩,Bool.and_eq_true_iff.mpr ⟨h4,h6⟩⟩
noncomputable def zru (O W:List Addr) (h:Heap):Prop:=∀ a∈W,∀ o,h.get? a=some o→LD o→a∈O
theorem zxw {h h':Heap} {O W:List Addr} (hk:KeepBut W h h') (hn:zru O W h) {v:Value} {d:PyData} {as:List Addr} (r:Reads h v d as):zbm d=true→(∀ a∈as,a∉O)→Reads h' v d as :=
 Reads.rec (motive_1:=fun v d as _=>zbm d=true→(∀ a∈as,a∉O)→Reads h' v d as) (motive_2:=fun vs ds as _=>zaw ds=true→(∀ a∈as,a∉O)→ReadsAll h' vs ds as)
  (fun _ _=>.none) (fun b _ _=>.bool b) (fun i t _ _=>.int i t) (fun x t _ _=>.str x t)
  (fun h1 h2 h3 _ ih t q=>.list (hk _ _ (fun m=>q _ mch (hn _ m _ h1 (.inl h2))) h1 (.inl (by rw [h2];nofun))) h2 h3 (ih t fun a m=>q a (mct _ m)))
  (fun _ _ _ _ _ t=>Bool.noConfusion t)
  (fun h1 h2 h3 _ _ ih1 ih2 t q=>.dict (hk _ _ (fun m=>q _ mch (hn _ m _ h1 (.inr h2))) h1 (.inl (by rw [h2];nofun))) h2 h3 (ih1 (zhp t).1 fun a m=>q a (mct _ (List.mem_append_left _ m))) (ih2 (zhp t).2 fun a m=>q a (mct _ (List.mem_append_right _ m))))
  (fun _ _=>.nil) (fun _ _ ih1 ih2 t q=>.cons (ih1 (bap t).1 fun a m=>q a (List.mem_append_left _ m)) (ih2 (bap t).2 fun a m=>q a (List.mem_append_right _ m))) r
section
variable {w:World} {O:List Addr} {h h':Heap} {W:List Addr}
theorem VRep.butT {v:Value} {d:D} (r:VRep w O h v d) (hk:KeepBut W h h') (hn:zru O W h) (ht:zbm d=true):VRep w O h' v d :=
 let ⟨as,x,y,z⟩:=r
 ⟨as,zxw hk hn x ht fun a m=>(y a m).1,fun b m=>⟨(y b m).1,(y b m).2.same (fun o e=>let ⟨o',e',c⟩:=zcp x b m;by rw [e] at e';obtain rfl:=soi e';exact hk b o (fun q=>(y b m).1 (hn b q o e c)) e (zio c)) (let ⟨o,e,_⟩:=zcp x b m;⟨o,e⟩)⟩,z⟩
theorem VReps.butT {ds:List D}:∀ {vs:List Value},VReps w O h vs ds→KeepBut W h h'→zru O W h→(∀ d∈ds,zbm d=true)→VReps w O h' vs ds:=by
 induction ds with
 | nil=>intro vs r _ _ _;rw [r.nil_inv];exact .nil
 | cons d ds ih =>
  intro vs r hk hn ht
  obtain ⟨u,us,rfl,r1,r2⟩:=r.cons_inv
  exact .cons (r1.butT hk hn (ht d mch)) (ih r2 hk hn fun d m=>ht d (mct _ m))
theorem SRep.butT {own:Own} {n:Nat} {v:Value} {d:D} (x:SRep w own n O h v d) (k:KeepBut W h h') (hn:zru O W h) (ht:zbm d=true) (ho:∀ a vs,own.at' n=some a→h.PlainList a vs→a∉W):SRep w own n O h' v d:=by
 unfold SRep at *;split at x
 ·rename_i q;rw [if_pos q]
  obtain ⟨a,vs,xs,y,e,m,rfl,z,l,r⟩:=x
  exact ⟨a,vs,xs,y,e,m,rfl,z,k.plain (ho a _ y l) l,r.butT k hn (zgn ht)⟩
 ·rename_i q;rw [if_neg q];exact VRep.butT x k hn ht
theorem EnvR.butT {G:GC} {env:Env} {own:Own} {ρ:Rho} (x:EnvR G env own O ρ h) (k:KeepBut W h h') (hn:zru O W h) (ht:∀ n d,ρ.get n=some d→zbm d=true) (hl:env.locals∉W) (hc:∀ y c,env.cells.lookup y=some c→c∉W)
  (ho:∀ n a vs,own.at' n=some a→h.PlainList a vs→a∉W):EnvR G env own O ρ h' where
 fn:=x.fn
 gl:=x.gl
 bi:=x.bi
 lin:=x.lin
 lfr:=x.lfr
 oin:=x.oin
 cin:=x.cin
 inj:=x.inj
 ce:=fun y hy=>let ⟨c,v,e,q⟩:=x.ce y hy;⟨c,v,e,k.cell (hc _ _ e) q⟩
 ns:=let ⟨m,a,b⟩:=x.ns;⟨m,k.ns hl a,fun n y d h1 h2 h3=>let ⟨v,e,r⟩:=b n y d h1 h2 h3;⟨v,e,r.butT k hn (ht n d h3) (ho n)⟩⟩
 cl:=fun n y d h1 h2 h3=>let ⟨c,v,e,q,r⟩:=x.cl n y d h1 h2 h3;⟨c,v,e,k.cell (hc _ _ e) q,r.butT k hn (ht n d h3) (ho n)⟩
end
theorem Rho.get_of_del {ρ:Rho} {T:List Nat} {n:Nat} {d:D} (h:(ρ.del T).get n=some d):ρ.get n=some d:=by
 rw [Rho.get_del] at h
 by_cases c:T.contains n=true
 ·rw [if_pos c] at h;exact nn h
 ·rw [if_neg c] at h;exact h
theorem WrZ.plain {o:Obj} (h:WrZ false o):WrCls o:=h.resolve_right fun q=>Bool.noConfusion q.1
theorem WrCls.turn {O wr:List Addr} {h:Heap} (hw:∀ b∈wr,∀ o,h.get? b=some o→WrCls o):zcc O wr h:=fun a m o e=>⟨ypz (hw a m o e),fun l=>by
 obtain ⟨_,_,_,h4,h5⟩:=hw a m o e
 rcases l with l | l
 ·exact absurd l h4
 ·exact absurd l h5⟩
theorem WrZ.turn {z:Bool} {O wr:List Addr} {h:Heap} (hw:∀ b∈wr,∀ o,h.get? b=some o→WrZ z o):zru O wr h:=fun a m o e l=>by
 rcases hw a m o e with ⟨_,_,_,h4,h5⟩ | ⟨_,c,_⟩
 ·rcases l with l | l
  ·exact absurd l h4
  ·exact absurd l h5
 ·rcases l with l | l <;> exact absurd (Value.type.inj (c.symm.trans l)) (by decide)
section
variable {G:GC} {A:Around} {env:Env} {own:Own} {O:List Addr} {ρ:Rho} {z:Bool}
theorem Inv.iterZ {s:Shared} {wr:List Addr} {h':Heap} {tk:Nat} (I:Inv G A env own O ρ s) (hw:∀ b∈wr,∀ o,s.heap.get? b=some o→WrZ z o) (hz:z=true→∀ n d,ρ.get n=some d→zbm d=true) (hO:∀ b∈wr,b∉O) (h0:∀ b∈wr,G.h₀.get? b=none)
  (k:∀ b o,b∉wr→s.heap.get? b=some o→h'.get? b=some o) (p:0<tk):Inv G A env own O ρ { s with heap:=h',toks:=tk }∧SExt G wr s { s with heap:=h',toks:=tk }∧∀ vs ds,(z=true→∀ d∈ds,zbm d=true)→VReps G.w O s.heap vs ds→VReps G.w O h' vs ds:=by
 have kb:KeepBut wr s.heap h':=zdm k
 have B:Base G h':=⟨fun b o e=>k b o (fun q=>by rw [h0 b q] at e;exact nn e) (I.base.keep b o e),I.base.memo.keep fun b o vs e q f=>k b o (fun r=>(by
  rcases hw b r o e with ⟨_,h2,h3,_⟩ | ⟨_,_,xs,n,d⟩
  ·exact q.elim h2 h3
  ·rw [f] at d;cases d)) e⟩
 have ov:OVal O h':=fun a m=>by
  obtain ⟨o,e,q⟩:=I.ov a m
  exact ⟨o,k a o (fun m'=>hO a m' m) e,q⟩
 have l1:env.locals∉wr:=fun m=>hO _ m I.envr.lin
 have l2:∀ y c,env.cells.lookup y=some c→c∉wr:=fun y c e m=>hO _ m (I.envr.cin y c e).1
 have l3:∀ n a vs,own.at' n=some a→s.heap.PlainList a vs→a∉wr:=fun n a vs e _ m=>hO _ m (I.envr.oin n a e)
 have sx:SExt G wr s { s with heap:=h',toks:=tk }:=⟨⟨_,_,rfl⟩,kb,B,p,fun b m e=>zby (fun o q=>k b o m q) e⟩
 cases z with
 | false =>
  have t:zcc O wr s.heap:=WrCls.turn fun b m o e=>(hw b m o e).plain
  exact ⟨⟨I.ok,I.hh,B,p,ov,I.envr.but kb t l1 l2 l3⟩,sx,fun vs ds _ r=>r.but kb t⟩
 | true =>
  have t:zru O wr s.heap:=WrZ.turn hw
  exact ⟨⟨I.ok,I.hh,B,p,ov,I.envr.butT kb t (hz rfl) l1 l2 l3⟩,sx,fun vs ds q r=>r.butT kb t (q rfl)⟩
end
end Internal
namespace Internal
inductive SV:List (Str × Value)→List (Str × Str)→Prop
 | nil:SV [] []
 | cons {k v t a b}:SV a b→SV ((k, .str v t)::a) ((k,v)::b)
theorem SV.keys {a:List (Str × Value)} {b:List (Str × Str)} (x:SV a b):a.map (·.1)=b.map (·.1):=by
 induction x with
 | nil=>rfl
 | cons _ ih=>rw [List.map_cons,List.map_cons,ih]
theorem SV.append {a c:List (Str × Value)} {b d:List (Str × Str)} (x:SV a b) (y:SV c d):SV (a++c) (b++d):=by
 induction x with
 | nil=>exact y
 | cons _ ih=>exact .cons ih
theorem SV.upd {a:List (Str × Value)} {b:List (Str × Str)} {k v:Str} {t:Tok} (x:SV a b):SV (a.map fun kv=>if kv.1=k then (kv.1, .str v t) else kv) (b.map fun p=>if p.1=k then (p.1,v) else p):=by
 induction x with
 | nil=>exact .nil
 | @cons k' v' t' a b _ ih =>
  rw [List.map_cons,List.map_cons]
  by_cases c:k'=k
  ·rw [if_pos c,if_pos c];exact .cons ih
  ·rw [if_neg c,if_neg c];exact .cons ih
theorem zts {α β:Type} {k:Str}:∀ {a:List (Str × α)} {b:List (Str × β)},a.map (·.1)=b.map (·.1)→a.any (fun p=>decide (p.1=k))=b.any (fun p=>decide (p.1=k))
 | [],[],_=>rfl
 | [],_::_,e=>by cases e
 | _::_,[],e=>by cases e
 | p::a,q::b,e=>by
  rw [List.map_cons,List.map_cons] at e
  obtain ⟨e1,e2⟩:=List.cons.inj e
  rw [List.any_cons,List.any_cons,e1,zts e2]
theorem SV.put {a:List (Str × Value)} {b:List (Str × Str)} {k v:Str} {t:Tok} (x:SV a b):SV (stored a k (.str v t)) (putS b k v):=by
 unfold stored putS
 rw [zts x.keys]
 by_cases c:b.any (fun p=>decide (p.1=k))=true
 ·rw [if_pos c,if_pos c];exact x.upd
 ·rw [if_neg c,if_neg c];exact x.append (.cons .nil)
theorem yhu {b:List (Str × Str)} {k v:Str}:(putS b k v).length≤b.length+1:=by
 unfold putS
 by_cases c:b.any (fun p=>decide (p.1=k))=true
 ·rw [if_pos c,List.length_map];exact Nat.le_succ _
 ·rw [if_neg c,List.length_append];exact Nat.le_refl _
theorem SV.len {a:List (Str × Value)} {b:List (Str × Str)} (x:SV a b):a.length=b.length:=by
 have:=congrArg List.length x.keys
 rwa [List.length_map,List.length_map] at this
theorem yds (kv:List (Str × Str)) (d:D):(zox kv d).length≤kv.length+1:=by
 unfold zox
 cases yhr d with
 | some p=>exact yhu
 | none=>exact Nat.le_succ _
theorem zld:∀ (pre:List D) (kv:List (Str × Str)),(pre.foldl zox kv).length≤kv.length+pre.length
 | [],_=>Nat.le_refl _
 | d::pre,kv=>Nat.le_trans (zld pre _) ((Nat.le_trans (Nat.add_le_add_right (yds kv d) _) (Nat.le_of_eq (Nat.add_assoc _ 1 _ |>.trans (congrArg (kv.length + ·) (Nat.add_comm 1 _))))))
theorem ydt (l:List Str) (d:D):(zyq l d).length≤l.length+1:=by
 unfold zyq
 split
 ·split
  ·exact Nat.le_succ _
  ·rw [List.length_append];exact Nat.le_refl _
 ·exact Nat.le_succ _
theorem zpy:∀ (pre:List D) (l:List Str),(pre.foldl zyq l).length≤l.length+pre.length
 | [],_=>Nat.le_refl _
 | d::pre,l=>Nat.le_trans (zpy pre _) (by rw [List.length_cons];have:=ydt l d;omega)
section
variable {G:GC} {c:CK} {O:List Addr} {h h':Heap} {Dd:Addr} {pre:List D}
noncomputable def AccAt (G:GC) (c:CK) (O:List Addr) (h:Heap) (Dd:Addr) (pre:List D):Prop:=match c with
 | .list _=>∃ vs:Array Value,h.PlainList Dd vs∧VReps G.w O h vs.toList pre
 | .dict _ _=>(∃ kvs:List (Str × Value),h.DictOf (PySem.strKind G.prog G.w) Dd kvs∧SV kvs (znx pre))∧pre.all zlj=true∧(Dd==sysModules)=false
noncomputable def zsx (c:CK):Nat:=match c with
 | .list _=>16777216
 | _=>1000
theorem AccAt.obj (x:AccAt G c O h Dd pre):∃ o,h.get? Dd=some o∧Mut o∧zhj o:=by
 cases c with
 | list elt=>obtain ⟨vs,⟨n,e⟩,_⟩:=x;exact ⟨_,e,zft rfl rfl, .inl nofun⟩
 | dict kx vx=>obtain ⟨⟨kvs,⟨o,es,ep,e,c,d,_⟩,_⟩,_⟩:=x;exact ⟨o,e,zgx d, .inl (by rw [c.1];nofun)⟩
theorem AccAt.move (x:AccAt G c O h Dd pre) (e:∀ o,h.get? Dd=some o→h'.get? Dd=some o) (r:∀ vs,VReps G.w O h vs pre→VReps G.w O h' vs pre):AccAt G c O h' Dd pre:=by
 cases c with
 | list elt=>obtain ⟨vs,⟨n,q⟩,y⟩:=x;exact ⟨vs,⟨n,e _ q⟩,r _ y⟩
 | dict kx vx=>obtain ⟨⟨kvs,q,y⟩,z⟩:=x;exact ⟨⟨kvs,q.at e,y⟩,z⟩
theorem AccAt.sub {O':List Addr} (x:AccAt G c O h Dd pre) (k:∀ a∈O',a∈O):AccAt G c O' h Dd pre:=by
 cases c with
 | list elt=>obtain ⟨vs,q,y⟩:=x;exact ⟨vs,q,y.sub k⟩
 | dict kx vx=>exact x
theorem AccAt.keep (x:AccAt G c O h Dd pre) (k:Keep h h'):AccAt G c O h' Dd pre:=by
 obtain ⟨o,e,_,q⟩:=x.obj
 exact x.move (fun o' e'=>by rw [e] at e';obtain rfl:=soi e';exact k _ _ e q) fun vs r=>r.keep k
theorem AccAt.but {W:List Addr} (x:AccAt G c O h Dd pre) (k:KeepBut W h h') (hn:zcc O W h) (m:Dd∉W):AccAt G c O h' Dd pre:=by
 obtain ⟨o,e,_,q⟩:=x.obj
 exact x.move (fun o' e'=>by rw [e] at e';obtain rfl:=soi e';exact k _ _ m e q) fun vs r=>r.but k hn
end
end Internal
namespace Internal
section
variable {G:GC} {A:Around} {z:Bool} {env:Env} {own:Own} {O:List Addr} {ρ:Rho} {d:D}
theorem Inv.iter {s:Shared} {wr:List Addr} {h':Heap} {tk:Nat} (I:Inv G A env own O ρ s) (hw:∀ b∈wr,∀ o,s.heap.get? b=some o→WrZ false o) (hO:∀ b∈wr,b∉O) (h0:∀ b∈wr,G.h₀.get? b=none)
  (k:∀ b o,b∉wr→s.heap.get? b=some o→h'.get? b=some o) (p:0<tk):Inv G A env own O ρ { s with heap:=h',toks:=tk }∧zcc O wr s.heap∧SExt G wr s { s with heap:=h',toks:=tk }:=by
 obtain ⟨a,b,_⟩:=I.iterZ (z:=false) hw (fun q=>Bool.noConfusion q) hO h0 k p
 exact ⟨a,WrCls.turn fun b m o e=>(hw b m o e).plain,b⟩
noncomputable def zkc (G:GC) (A:Around) (c:CK) (gens:List Comprehension) (scope:Scope) (pos:Pos) (k:Nat) (ifs:List Expr) (Dd:Addr) (env:Env) (K:Shared→Prop) (E:Value→Shared→Prop) (s:Shared):Prop :=
 wpAny (mdl G) A (yko ifs env) (fun ok s4=>if ok=true then wpAny (mdl G) A (zjn c gens scope pos k Dd env) (fun _ s5=>K s5) E s4 else K s4) E s
noncomputable def ztq (G:GC) (A:Around) (c:CK) (body:(Shared→Prop)→(Value→Shared→Prop)→Shared→Prop) (env:Env) (own:Own) (O W:List Addr) (Dd:Addr) (ρ:Rho) (out:List D):Prop :=
 ∀ (s:Shared) (pre:List D),Inv G A env own O ρ s→AccAt G c O s.heap Dd pre→pre.length+out.length≤zsx c →
  ∀ (K:Shared→Prop) (E:Value→Shared→Prop),(∀ s',SExt G W s s'→Inv G A env own O ρ s'→AccAt G c O s'.heap Dd (pre++out)→K s')→body K E s
theorem zlf {f:D→Option (List D)} {x:D} {xs out:List D} (h:zcs f (x::xs)=some out):∃ a b,f x=some a∧zcs f xs=some b∧out=a++b:=by
 unfold zcs at h
 cases h1:f x with
 | none=>rw [h1] at h;exact nn h
 | some a =>
  rw [h1] at h
  cases h2:zcs f xs with
  | none=>rw [h2] at h;exact nn h
  | some b=>rw [h2] at h;obtain rfl:=soi h;exact ⟨a,b,rfl,rfl,rfl⟩
inductive CompI (G:GC) (A:Around) (c:CK) (env:Env) (own:Own) (O wW:List Addr) (Dd:Addr) (ρ:Rho) (St:Nat→Heap→Prop) (f:D→Option (List D)) (ds es out pre:List D) (vs:List Value) (s:Shared) (n:Nat) (s':Shared):Prop
 | mk (i:Nat) (a b:List D) (hi:i≤ds.length) (hn:n=ds.length+1-i) (hgb:zcs f (ds.drop i)=some b) (hab:out=a++b) (sx:SExt G wW s s') (Iv':Inv G A env own O ρ s') (st':St i s'.heap) (rv':VReps G.w O s'.heap vs es)
  (ac':AccAt G c O s'.heap Dd (pre++a))
theorem zzn {c:CK} {gens:List Comprehension} {scope:Scope} {pos:Pos} {k:Nat} {target iter:Expr} {ifs:List Expr} {tg:List Nat} {I Dd:Addr} {fp wr WC W:List Addr} {ds es:List D} {vs:List Value} {St:Nat→Heap→Prop} {P Md:Nat→Value→Heap→Prop}
  {f:D→Option (List D)} {out pre:List D} {s:Shared} {R:Result→Shared→Prop}
  (hg:gens[k]?=some ⟨target,iter,ifs,0⟩) (hg':∀ g',gens[k+1]?=some g'→g'.is_async=0)
  (ht:TargetOK G env own target tg) (hno:∀ n∈tg,ρ.get n=none) (hWC:WOK env G WC tg) (hDW:Dd∉WC) (hsub:∀ a∈WC,a∈W)
  (it:IterOK G A z target I fp wr ds vs es St P Md) (st:St 0 s.heap) (rv:VReps G.w O s.heap vs es) (hfp:∀ b∈fp,b∉W) (hwO:∀ b∈wr,b∉O) (hw0:∀ b∈wr,G.h₀.get? b=none) (hfe:∀ b∈fp,∃ o,s.heap.get? b=some o)
  (hDO:Dd∈O) (hWO:∀ a∈W,a∈O) (hWM:∀ s pre,Inv G A env own O ρ s→AccAt G c O s.heap Dd pre→zcc O W s.heap)
  (hbody:∀ x ρ' a,x∈ds→zcn ρ tg x=some ρ'→f x=some a→ztq G A c (zkc G A c gens scope pos k ifs Dd env) env own O W Dd ρ' a) (hf:zcs f ds=some out) (hf':∀ x∈ds,(f x).isSome→∃ ρ',zcn ρ tg x=some ρ')
  (hsub':∀ x ρ',zcn ρ tg x=some ρ'→∀ n d,ρ.get n=some d→ρ'.get n=some d)
  (hz:z=true→(∀ n d,ρ.get n=some d→zbm d=true)∧(∀ d∈es,zbm d=true)∧∀ d∈pre++out,zbm d=true)
  (Iv:Inv G A env own O ρ s) (ac:AccAt G c O s.heap Dd pre) (hlen:pre.length+out.length≤zsx c)
  (q:∀ s',SExt G (wr++W) s s'→Inv G A env own O ρ s'→AccAt G c O s'.heap Dd (pre++out)→R (.ok .next) s') :
  codeAny (mdl G) A (.compLoop (c.expr gens scope pos) k (.ref I) (.ref Dd) env) R s:=by
 have T:=it.turns
 refine codeAny_loop (by cases c <;> rfl)
  (CompI G A c env own O (wr++W) Dd ρ St f ds es out pre vs s) (fun n s' hI=>?_) (ds.length+1)
  ⟨0,[],out,Nat.zero_le _,rfl,by simpa using hf,rfl, .refl Iv.base Iv.pos,Iv,st,rv,by simpa using ac⟩
 obtain ⟨i,a,b,hi,rfl,hgb,hab,sx,Iv',st',rv',ac'⟩:=hI
 rw [c.den_loop,c.under_loop]
 refine wpAny_noted (zse hg hg' ?_)
 by_cases hlt:i<ds.length
 ·refine wpAny_with_toks (n:=1) Iv'.pos (T.item i _ _ _ hlt st' fun v h1 tk hMd hk1 p1=>?_)
  refine wpAny_with_toks (n:=1) p1 (T.go i v _ _ _ hMd fun h2 hP st2 hk2 p2=>?_)
  have hk:∀ b o,b∉wr→s'.heap.get? b=some o→h2.get? b=some o:=fun b o m e=>hk2 b o m (hk1 b o m e)
  obtain ⟨Iv2,sx2,t2⟩:=Iv'.iterZ (fun b m=>it.wrc i _ st' b m) (fun q=>(hz q).1) hwO hw0 hk p2
  have rv2:VReps G.w O h2 vs es:=t2 _ _ (fun q=>(hz q).2.1) rv'
  have hDwr:Dd∉wr:=fun m=>hwO _ m hDO
  have ac2:AccAt G c O h2 Dd (pre++a):=ac'.move (fun o e=>hk _ o hDwr e) fun vs=>t2 _ _ fun q d m=>(hz q).2.2 d (by rw [hab,← List.append_assoc];exact List.mem_append_left _ m)
  have hx:ds[i]?=some ds[i]:=List.getElem?_eq_getElem hlt
  have ri:=it.item O h2 i v _ rv2 hP hx
  have hdrop:ds.drop i=ds[i]::ds.drop (i+1):=List.drop_eq_getElem_cons hlt
  rw [hdrop] at hgb
  obtain ⟨a1,b1,hfa,hgb1,rfl⟩:=zlf hgb
  have hmem:ds[i]∈ds:=List.getElem_mem hlt
  obtain ⟨ρ',hb⟩:=hf' _ hmem (by rw [hfa];rfl)
  refine zfj ht Iv2 ri hb hWC fun s3 x3 k3 Iv3=>?_
  have frame:∀ (t t':Shared),(∀ j,St j t.heap→KeepBut W t.heap t'.heap→St j t'.heap):=fun t t' j hst hkb =>
   T.frame j _ _ hst fun b hb o e=>hkb b o (hfp b hb) e (it.solid j _ hst b hb o e)
  have st3:=frame { s' with heap:=h2,toks:=tk } s3 _ st2 (x3.keep.mono hsub)
  have rv3:=k3 _ _ rv2
  have ac3:AccAt G c O s3.heap Dd (pre++a):=by
   obtain ⟨o,e,_,sd⟩:=ac2.obj
   exact ac2.move (fun o' e'=>by rw [e] at e';obtain rfl:=soi e';exact x3.keep _ _ hDW e sd) fun vs r=>k3 _ _ r
  have hl1:out.length=a.length+(a1.length+b1.length):=by rw [hab];simp
  have hbd:=hbody _ ρ' a1 hmem hb hfa s3 (pre++a) Iv3 ac3 (by rw [List.length_append];exact Nat.le_trans (Nat.le_of_eq (Nat.add_assoc _ _ _)) (Nat.le_trans (Nat.add_le_add_left (by rw [hl1];exact Nat.add_le_add_left (Nat.le_add_right _ _) _) _) hlen))
  have fin:∀ s5,SExt G W s3 s5→Inv G A env own O ρ' s5→AccAt G c O s5.heap Dd (pre++a++a1) →
    (∃ m,m<ds.length+1-i∧CompI G A c env own O (wr++W) Dd ρ St f ds es out pre vs s m s5):=fun s5 x5 Iv5 ac5=>by
   have tW:zcc O W s3.heap:=hWM s3 (pre++a) ⟨Iv3.ok,Iv3.hh,Iv3.base,Iv3.pos,Iv3.ov,Iv3.envr.weaken (hsub' _ _ hb)⟩ ac3
   refine ⟨ds.length+1-(i+1),Nat.sub_lt_sub_left (Nat.lt_succ_of_lt hlt) (Nat.lt_succ_self i),i+1,a++a1,b1,hlt,rfl,hgb1,by rw [hab];simp, ?_,⟨Iv5.ok,Iv5.hh,Iv5.base,Iv5.pos,Iv5.ov,Iv5.envr.weaken (hsub' _ _ hb)⟩,frame s3 s5 _ st3 x5.keep,rv3.but x5.keep tW,by simpa using ac5⟩
   exact sx.trans (((sx2.mono fun a m=>List.mem_append_left _ m).trans (x3.mono fun a m=>List.mem_append_right _ (hsub a m))).trans (x5.mono fun a m=>List.mem_append_right _ m))
  exact hbd _ _ fun s5 x5 Iv5 ac5=>wpAny_pure ⟨by cases c <;> rfl,fin s5 x5 Iv5 ac5⟩
 ·have hi':i=ds.length:=Nat.le_antisymm hi (Nat.not_lt.mp hlt)
  subst hi'
  have hb0:b=[]:=by
   rw [List.drop_length] at hgb
   obtain rfl:=soi hgb;rfl
  subst hb0
  refine wpAny_with_toks (n:=1) Iv'.pos (T.done _ _ _ st' fun h1 tk hk p1=>?_)
  obtain ⟨Iv2,sx2,t2⟩:=Iv'.iterZ (fun b m=>it.wrc _ _ st' b m) (fun q=>(hz q).1) hwO hw0 hk p1
  have hDwr:Dd∉wr:=fun m=>hwO _ m hDO
  rw [List.append_nil] at hab
  subst hab
  exact q _ (sx.trans (sx2.mono fun a m=>List.mem_append_left _ m)) Iv2 (ac'.move (fun o e=>hk _ o hDwr e) fun vs=>t2 _ _ fun q=>(hz q).2.2)
end
end Internal
namespace Internal
structure Col where
 I:Addr
 l:Addr
 xs:Array Value
noncomputable abbrev zeo (arr:Array Value):Obj:={ cls:=.type "tuple",data:=.seq arr }
noncomputable def zoi (i:Nat):Array Value→Nat→List Col→Array Value
 | arr,_,[]=>arr
 | arr,k,c::cs=>zoi i (arr.setIfInBounds k (c.xs[i]?.getD .none)) (k+1) cs
theorem zmm (i:Nat):∀ (cs:List Col) (arr:Array Value) (k:Nat),(zoi i arr k cs).size=arr.size
 | [],_,_=>rfl
 | c::cs,arr,k=>(zmm i cs _ _).trans (Array.size_setIfInBounds ..)
theorem zml (i:Nat):∀ (cs:List Col) (arr:Array Value) (k:Nat),arr.size=k+cs.length→(zoi i arr k cs).toList=arr.toList.take k++cs.map fun c=>c.xs[i]?.getD .none
 | [],arr,k,h=>by
  show arr.toList=_
  rw [List.map_nil,List.append_nil,List.take_of_length_le (by rw [Array.length_toList,h];exact Nat.le_refl _)]
 | c::cs,arr,k,h=>by
  have hk:k<arr.toList.length:=by rw [Array.length_toList,h,List.length_cons];exact Nat.lt_add_of_pos_right (Nat.succ_pos _)
  show (zoi i _ _ cs).toList=_
  rw [zml i cs _ _ (by rw [Array.size_setIfInBounds,h,List.length_cons,Nat.add_right_comm,Nat.add_assoc]),Array.toList_setIfInBounds,List.map_cons,List.take_add_one,List.getElem?_set_self hk,List.take_set_of_le (Nat.le_refl _),List.append_assoc];rfl
structure ZAp (z TI TO:Addr) (cs:List Col):Prop where
 TIz:TI≠z
 TOz:TO≠z
 TITO:TI≠TO
 a:∀ c∈cs,c.I≠z∧c.I≠TO∧TI≠c.I∧c.l≠z∧c.l≠TO∧∀ c'∈cs,c.l≠c'.I
 nd:(cs.map (·.I)).Nodup
section
variable {prog:Program} {w:World} {A:Around} {E:Value→Shared→Prop} {σ:Type} {TO z:Addr} {i:Nat} {f:Value × Nat→σ→Sem (ForInStep σ)} {r0:σ}
noncomputable def yoo (prog:Program) (w:World) (A:Around) (E:Value→Shared→Prop) (TO:Addr) (i:Nat) (f:Value × Nat→σ→Sem (ForInStep σ)) (r0:σ):Prop :=
 ∀ (c:Col) (k:Nat) (x:Value) (arr:Array Value) (s:Shared) (Q:ForInStep σ→Shared→Prop),s.heap.get? TO=some (zeo arr)→arr.size≤8→s.heap.IsListIter c.I c.l i→s.heap.IsList c.l c.xs→c.xs[i]?=some x→c.I≠TO →
  (∀ h',h'.get? TO=some (zeo (arr.setIfInBounds k x))→h'.IsListIter c.I c.l (i+1)→h'.objs.size=s.heap.objs.size→(∀ b o,b≠TO→b≠c.I→s.heap.get? b=some o→h'.get? b=some o)→Q (.yield r0) { s with heap:=h' }) →
  wpAny (model prog w) A (f (.ref c.I,k) r0) Q E s
theorem yse (step:yoo prog w A E TO i f r0):∀ (cs:List Col) (k:Nat) (arr:Array Value) (s:Shared) (Q:σ→Shared→Prop),(∀ c∈cs,c.I≠TO∧c.l≠TO∧∀ c'∈cs,c.l≠c'.I)→(cs.map (·.I)).Nodup→s.heap.get? TO=some (zeo arr)→arr.size≤8 →
  (∀ c∈cs,s.heap.IsListIter c.I c.l i∧s.heap.IsList c.l c.xs∧∃ x,c.xs[i]?=some x) →
  (∀ h',h'.get? TO=some (zeo (zoi i arr k cs))→(∀ c∈cs,h'.IsListIter c.I c.l (i+1))→h'.objs.size=s.heap.objs.size→(∀ b o,b≠TO→(∀ c∈cs,b≠c.I)→s.heap.get? b=some o→h'.get? b=some o)→Q r0 { s with heap:=h' }) →
  wpAny (model prog w) A (forIn ((cs.map fun c=>Value.ref c.I).zipIdx k) r0 f) Q E s
 | [],k,arr,s,Q,_,_,hT,_,_,q=>by
  simp only [List.map_nil,List.zipIdx_nil,List.forIn_nil]
  exact wpAny_pure (q s.heap hT (fun _ m=>nomatch m) rfl fun _ _ _ _ e=>e)
 | c::cs,k,arr,s,Q,ap,nd,hT,h8,hi,q=>by
  simp only [List.map_cons,List.zipIdx_cons,List.forIn_cons]
  obtain ⟨h1,h2,x,hx⟩:=hi c mch
  obtain ⟨n1,n2⟩:=List.nodup_cons.mp nd
  refine wpAny_bind (step c k x arr s _ hT h8 h1 h2 hx (ap c mch).1 fun h' t1 t2 t3 t4=>?_)
  have ne:∀ c'∈cs,c'.I≠c.I:=fun c' m e=>n1 (List.mem_map.mpr ⟨c',m,e⟩)
  refine yse step cs (k+1) _ _ Q (fun c' m=>?_) n2 t1 (by rw [Array.size_setIfInBounds];exact h8) (fun c' m=>?_) fun h'' u1 u2 u3 u4=>?_
  ·obtain ⟨a1,a2,a3⟩:=ap c' (mct _ m)
   exact ⟨a1,a2,fun c2 m2=>a3 c2 (mct _ m2)⟩
  ·obtain ⟨b1,b2,b3⟩:=hi c' (mct _ m)
   obtain ⟨a1,a2,a3⟩:=ap c' (mct _ m)
   exact ⟨b1.at fun o e=>t4 _ o a1 (ne c' m) e,b2.at fun o e=>t4 _ o a2 (a3 c mch) e,b3⟩
  ·refine q h'' (by rw [zoi,hx];exact u1) (fun c' m=>?_) (u3.trans t3) fun b o c1 c2 e=>u4 b o c1 (fun c' m=>c2 c' (mct _ m)) (t4 b o c1 (c2 c mch) e)
   rcases mcp m with rfl | m
   ·exact t2.at fun o e=>u4 _ o (ap _ mch).1 (fun c' m e=>ne c' m e.symm) e
   ·exact u2 c' m
noncomputable def ysg (prog:Program) (w:World) (A:Around) (E:Value→Shared→Prop) (z TO TI:Addr) (i:Nat) (f:Value × Nat→σ→Sem (ForInStep σ)) (r0:σ):Prop :=
 ∀ (c:Col) (k:Nat) (s:Shared) (Q:ForInStep σ→Shared→Prop),IsZip s.heap z TI TO .ellipsis→s.heap.IsListIter c.I c.l i→s.heap.IsList c.l c.xs→c.xs[i]?=none→c.I≠z →
  (∀ h' e,(∀ b o,b≠z→b≠c.I→s.heap.get? b=some o→h'.get? b=some o)→(∃ o,h'.get? e=some o∧o.cls=.type "StopIteration")→E (.ref e) { s with heap:=h' }) →
  wpAny (model prog w) A (f (.ref c.I,k) r0) Q E s
theorem ykw {TI:Addr} (hh:A.handled=none) (step:∀ E,yoo prog w A E TO i f r0) (stepE:∀ E,ysg prog w A E z TO TI i f r0):∀ (cs:List Col) (k:Nat) (arr:Array Value) (s:Shared) (Q:σ→Shared→Prop),(∀ c∈cs,c.I≠TO∧c.l≠TO∧c.I≠z∧∀ c'∈cs,c.l≠c'.I)→TO≠z→(cs.map (·.I)).Nodup→s.heap.get? TO=some (zeo arr)→arr.size≤8→IsZip s.heap z TI TO .ellipsis →
  (∀ c∈cs,s.heap.IsListIter c.I c.l i∧s.heap.IsList c.l c.xs)→(∃ c∈cs,c.xs[i]?=none) →
  (∀ h' e,(∀ b o,b≠TO→b≠z→(∀ c∈cs,b≠c.I)→s.heap.get? b=some o→h'.get? b=some o)→(∃ o,h'.get? e=some o∧o.cls=.type "StopIteration")→E (.ref e) { s with heap:=h' }) →
  wpAny (model prog w) A (forIn ((cs.map fun c=>Value.ref c.I).zipIdx k) r0 f) Q E s
 | [],k,arr,s,Q,_,_,_,_,_,_,_,h,_=>by obtain ⟨_,m,_⟩:=h;cases m
 | c::cs,k,arr,s,Q,ap,hTz,nd,hT,h8,hz,hi,he,q=>by
  simp only [List.map_cons,List.zipIdx_cons,List.forIn_cons]
  obtain ⟨h1,h2⟩:=hi c mch
  obtain ⟨n1,n2⟩:=List.nodup_cons.mp nd
  obtain ⟨p1,p2,p3,p4⟩:=ap c mch
  have ne:∀ c'∈cs,c'.I≠c.I:=fun c' m e=>n1 (List.mem_map.mpr ⟨c',m,e⟩)
  cases hx:c.xs[i]? with
  | none=>exact wpAny_bind (stepE E c k s _ hz h1 h2 hx p3 fun h' e k1 k2=>q h' e (fun b o _ b2 b3 g=>k1 b o b2 (b3 c mch) g) k2)
  | some x =>
   refine wpAny_bind (step E c k x arr s _ hT h8 h1 h2 hx p1 fun h' t1 t2 t3 t4=>?_)
   refine ykw hh step stepE cs (k+1) _ _ Q (fun c' m=>?_) hTz n2 t1 (by rw [Array.size_setIfInBounds];exact h8) (t4 _ _ hTz.symm p3.symm hz) (fun c' m=>?_) ?_ fun h'' e u1 u2=>?_
   ·obtain ⟨a1,a2,a3,a4⟩:=ap c' (mct _ m)
    exact ⟨a1,a2,a3,fun c2 m2=>a4 c2 (mct _ m2)⟩
   ·obtain ⟨b1,b2⟩:=hi c' (mct _ m)
    obtain ⟨a1,a2,a3,a4⟩:=ap c' (mct _ m)
    exact ⟨b1.at fun o e=>t4 _ o a1 (ne c' m) e,b2.at fun o e=>t4 _ o a2 (a4 c mch) e⟩
   ·obtain ⟨c',m,e⟩:=he
    rcases mcp m with rfl | m
    ·rw [hx] at e;cases e
    ·exact ⟨c',m,e⟩
   ·exact q h'' e (fun b o b1 b2 b3 g=>u1 b o b1 b2 (fun c' m=>b3 c' (mct _ m)) (t4 b o b1 (b3 c mch) g)) u2
end
structure ZSt (z TI TO:Addr) (cs:List Col) (i:Nat) (f0:Value) (h:Heap):Prop where
 hz:IsZip h z TI TO f0
 hTI:h.get? TI=some (zeo (cs.map fun c=>Value.ref c.I).toArray)
 hTO:∃ arr,arr.size=cs.length∧h.get? TO=some (zeo arr)
 it:∀ c∈cs,h.IsListIter c.I c.l i∧h.IsList c.l c.xs
section
variable {prog:Program} {w:World} {A:Around} {E:Value→Shared→Prop} {s:Shared} {z TI TO:Addr} {cs:List Col} {i:Nat}
theorem yeh {T:Addr} {arr:Array Value} {x:Value} {k:Nat} {Q:Unit→Shared→Prop} (hT:s.heap.get? T=some (zeo arr)) (h8:arr.size≤8)
  (h:∀ h',h'.get? T=some (zeo (arr.setIfInBounds k x))→Heap.SameBut T s.heap h'→Q () { s with heap:=h' }) :
  wpAny (model prog w) A (updateSeq T (·.setIfInBounds k x)) Q E s:=by
 have h9:arr.size≤sizeLine:=Nat.le_trans h8 (by decide)
 refine wpAny_updateSeq hT rfl (h _ ?_ (Heap.SameBut.update ..)) h9 (by rw [Array.size_setIfInBounds];exact Nat.le_succ_of_le h9)
 rw [Heap.get?_update_self _ hT rfl]
 simp [Obj.mapSeq]
theorem yer {Q:Value→Shared→Prop} (ap:ZAp z TI TO cs) (hcs:cs≠[]) (h8:cs.length≤8) (st:ZSt z TI TO cs i .none s.heap) (hx:∀ c∈cs,∃ x,c.xs[i]?=some x)
  (hQ:∀ h',ZSt z TI TO cs (i+1) (rawInt s.heap.objs.size) h'→h'.get? s.heap.objs.size=some (zeo (cs.map fun c=>c.xs[i]?.getD .none).toArray)→h'.objs.size=s.heap.objs.size+1 →
   (∀ b o,b≠z→b≠TO→(∀ c∈cs,b≠c.I)→s.heap.get? b=some o→h'.get? b=some o)→Q (.ref s.heap.objs.size) { s with heap:=h' }) :
  wpAny (model prog w) A (Builtin.«zip.__next__» ⟨[.ref z],[]⟩) (fun fin s'=>∃ v,fin=.done (.ret v)∧Q v s') E s:=by
 obtain ⟨hz,hTI,⟨arr,har,hTO⟩,hi⟩:=st
 show wpAny _ _ (field (.ref z) 2 >>= _) _ _ _
 refine wpAny_bind (wpAny_field hz rfl (x:=.bool false) rfl ?_)
 show wpAny _ _ (field (.ref z) 3 >>= _) _ _ _
 refine wpAny_bind (wpAny_field hz rfl (x:=.ref TI) rfl ?_)
 refine wpAny_bind (wpAny_seqItems hTI rfl ?_)
 dsimp only
 have hne:((cs.map fun c=>Value.ref c.I).toArray).isEmpty=false:=by
  cases cs with
  | nil=>exact absurd rfl hcs
  | cons c cs=>rfl
 rw [hne]
 simp only [Bool.false_eq_true,if_false]
 refine wpAny_bind ?_
 unfold Builtin.SmallTypes.ownedTupleIsFree
 refine wpAny_bind (wpAny_field hz rfl (x:=.none) rfl (wpAny_pure ?_))
 simp only [if_true]
 refine wpAny_bind (wpAny_rule ?_)
 refine wpAny_bind (wpAny_field hz rfl (x:=.ref TO) rfl ?_)
 refine wpAny_bind (wpAny_setField_rec hz (by simp) fun h₁ hz₁ hs₁=>?_)
 replace hz₁:IsZip h₁ z TI TO .ellipsis:=hz₁
 refine wpAny_bind ?_
 have lt:∀ {b o},s.heap.get? b=some o→b≠z→h₁.get? b=some o:=fun e n=>hs₁.extBut _ _ n e
 refine yse (TO:=TO) (i:=i) (r0:=(none,())) (fun c k x arr s' Q' hT h8 h1 h2 hx hn q=>?_) cs 0 arr _ _ (fun c m=>⟨(ap.a c m).2.1,(ap.a c m).2.2.2.2.1,(ap.a c m).2.2.2.2.2⟩) ap.nd (lt hTO ap.TOz) (har▸h8)
  (fun c m=>⟨(hi c m).1.extBut hs₁.extBut (ap.a c m).1,(hi c m).2.extBut hs₁.extBut (ap.a c m).2.2.2.1,hx c m⟩) fun h₂ u1 u2 u3 u4=>?_
 ·refine wpAny_bind (wpAny_onRaise ?_)
  show wpAny _ _ (Builtin.SmallTypes.nextOf (.ref c.I) >>= _) _ _ _
  refine wpAny_bind (wpAny_nextOf_list_item h1 h2 hx fun h₂ h1₂ hs₂=>wpAny_pure ?_)
  have hT₂:=hs₂.extBut _ _ hn.symm hT
  refine wpAny_bind (wpAny_seqItems hT₂ rfl ?_)
  refine wpAny_bind (yeh hT₂ h8 fun h₃ hT₃ hs₃=>?_)
  refine wpAny_bind (wpAny_letGo (wpAny_pure ?_))
  exact q h₃ hT₃ (h1₂.extBut hs₃.extBut hn) (hs₃.1.trans hs₂.1) fun b o b1 b2 e=>hs₃.extBut _ _ b1 (hs₂.extBut _ _ b2 e)
 dsimp only
 have hz₂:IsZip h₂ z TI TO .ellipsis:=u4 _ _ ap.TOz.symm (fun c m=>(ap.a c m).1.symm) hz₁
 have hTI₂:h₂.get? TI=_:=u4 _ _ ap.TITO (fun c m=>(ap.a c m).2.2.1) (lt hTI ap.TIz)
 have hsz:h₂.objs.size=s.heap.objs.size:=u3.trans hs₁.1
 have hfl:(zoi i arr 0 cs).toList=cs.map fun c=>c.xs[i]?.getD .none:=zml i cs arr 0 (by rw [har,Nat.zero_add])
 have hfs:(zoi i arr 0 cs).size=cs.length:=(zmm i cs arr 0).trans har
 refine wpAny_bind (wpAny_seqItems u1 rfl ?_)
 dsimp only
 refine wpAny_bind (wpAny_newTuple ?_ (by rw [hfl,List.length_map];exact Nat.le_trans h8 (by decide)))
 show wpAny _ _ (Builtin.SmallTypes.ownedTupleHandOut (.ref z) (.ref h₂.objs.size) >>= _) _ _ _
 refine wpAny_bind ?_
 unfold Builtin.SmallTypes.ownedTupleHandOut
 have hz₃:IsZip (h₂.push (zeo (zoi i arr 0 cs).toList.toArray)) z TI TO .ellipsis:=Heap.get?_push_of_some _ hz₂
 refine wpAny_bind (wpAny_setField_rec hz₃ (by simp) fun h₄ hz₄ hs₄=>?_)
 replace hz₄:IsZip h₄ z TI TO (rawInt h₂.objs.size):=hz₄
 refine wpAny_setField_rec hz₄ (by simp) fun h₅ hz₅ hs₅=>?_
 replace hz₅:IsZip h₅ z TI TO (rawInt h₂.objs.size):=hz₅
 have up:∀ b o,b≠z→h₂.get? b=some o→h₅.get? b=some o:=fun b o c1 e=>hs₅.extBut _ _ c1 (hs₄.extBut _ _ c1 (Heap.get?_push_of_some _ e))
 have hn:h₂.objs.size≠z:=Nat.ne_of_gt (Heap.lt_size hz₂)
 have hT₅:h₅.get? h₂.objs.size=some (zeo (cs.map fun c=>c.xs[i]?.getD .none).toArray):=hs₅.extBut _ _ hn (hs₄.extBut _ _ hn (by rw [← hfl];exact Heap.get?_push_size _ rfl))
 have h5s:h₅.objs.size=h₂.objs.size+1:=by rw [hs₅.1,hs₄.1,Heap.size_push]
 rw [hsz] at hz₅ hT₅ h5s
 refine wpAny_pure ⟨_,rfl, ?_⟩
 show Q (.ref h₂.objs.size) _
 rw [hsz]
 exact hQ h₅ ⟨hz₅,up _ _ ap.TIz hTI₂,⟨_,hfs,up _ _ ap.TOz u1⟩,fun c m=>⟨(u2 c m).at fun o e=>up _ o (ap.a c m).1 e,(hi c m).2.at fun o e=>up _ o (ap.a c m).2.2.2.1 (u4 _ o (ap.a c m).2.2.2.2.1 (ap.a c m).2.2.2.2.2 (lt e (ap.a c m).2.2.2.1))⟩⟩ hT₅ h5s
  fun b o b1 b2 b3 e=>up b o b1 (u4 b o b2 b3 (lt e b1))
theorem yiy {Q:Fin→Shared→Prop} (hh:A.handled=none) (ap:ZAp z TI TO cs) (hcs:cs≠[]) (h8:cs.length≤8) (st:ZSt z TI TO cs i .none s.heap) (hx:∃ c∈cs,c.xs[i]?=none)
  (hE:∀ h' e,(∀ b o,b≠z→b≠TO→(∀ c∈cs,b≠c.I)→s.heap.get? b=some o→h'.get? b=some o)→(∃ o,h'.get? e=some o∧o.cls=.type "StopIteration")→E (.ref e) { s with heap:=h' }) :
  wpAny (model prog w) A (Builtin.«zip.__next__» ⟨[.ref z],[]⟩) Q E s:=by
 obtain ⟨hz,hTI,⟨arr,har,hTO⟩,hi⟩:=st
 show wpAny _ _ (field (.ref z) 2 >>= _) _ _ _
 refine wpAny_bind (wpAny_field hz rfl (x:=.bool false) rfl ?_)
 show wpAny _ _ (field (.ref z) 3 >>= _) _ _ _
 refine wpAny_bind (wpAny_field hz rfl (x:=.ref TI) rfl ?_)
 refine wpAny_bind (wpAny_seqItems hTI rfl ?_)
 dsimp only
 have hne:((cs.map fun c=>Value.ref c.I).toArray).isEmpty=false:=by
  cases cs with
  | nil=>exact absurd rfl hcs
  | cons c cs=>rfl
 rw [hne]
 simp only [Bool.false_eq_true,if_false]
 refine wpAny_bind ?_
 unfold Builtin.SmallTypes.ownedTupleIsFree
 refine wpAny_bind (wpAny_field hz rfl (x:=.none) rfl (wpAny_pure ?_))
 simp only [if_true]
 refine wpAny_bind (wpAny_rule ?_)
 refine wpAny_bind (wpAny_field hz rfl (x:=.ref TO) rfl ?_)
 refine wpAny_bind (wpAny_setField_rec hz (by simp) fun h₁ hz₁ hs₁=>?_)
 replace hz₁:IsZip h₁ z TI TO .ellipsis:=hz₁
 refine wpAny_bind ?_
 have lt:∀ {b o},s.heap.get? b=some o→b≠z→h₁.get? b=some o:=fun e n=>hs₁.extBut _ _ n e
 refine ykw (TO:=TO) (TI:=TI) (z:=z) (i:=i) (r0:=(none,())) hh (fun E c k x arr s' Q' hT h8 h1 h2 hx hn q=>?_) (fun E c k s' Q' hz h1 h2 hx hn q=>?_) cs 0 arr _ _ (fun c m=>⟨(ap.a c m).2.1,(ap.a c m).2.2.2.2.1,(ap.a c m).1,(ap.a c m).2.2.2.2.2⟩) ap.TOz ap.nd (lt hTO ap.TOz) (har▸h8) hz₁
  (fun c m=>⟨(hi c m).1.extBut hs₁.extBut (ap.a c m).1,(hi c m).2.extBut hs₁.extBut (ap.a c m).2.2.2.1⟩) hx fun h₂ e u1 u2=>hE h₂ e (fun b o b1 b2 b3 g=>u1 b o b2 b1 b3 (lt g b1)) u2
 ·refine wpAny_bind (wpAny_onRaise ?_)
  show wpAny _ _ (Builtin.SmallTypes.nextOf (.ref c.I) >>= _) _ _ _
  refine wpAny_bind (wpAny_nextOf_list_item h1 h2 hx fun h₂ h1₂ hs₂=>wpAny_pure ?_)
  have hT₂:=hs₂.extBut _ _ hn.symm hT
  refine wpAny_bind (wpAny_seqItems hT₂ rfl ?_)
  refine wpAny_bind (yeh hT₂ h8 fun h₃ hT₃ hs₃=>?_)
  refine wpAny_bind (wpAny_letGo (wpAny_pure ?_))
  exact q h₃ hT₃ (h1₂.extBut hs₃.extBut hn) (hs₃.1.trans hs₂.1) fun b o b1 b2 e=>hs₃.extBut _ _ b1 (hs₂.extBut _ _ b2 e)
 ·refine wpAny_bind (wpAny_onRaise ?_)
  show wpAny _ _ (Builtin.SmallTypes.nextOf (.ref c.I) >>= _) _ _ _
  refine wpAny_bind (wpAny_nextOf_list_end hh h1 h2 hx fun h₂ e hs₂ he=>?_)
  obtain ⟨oe,hoe,hce⟩:=he
  have hz₂:IsZip h₂ z TI TO .ellipsis:=hs₂ _ _ hn.symm hz
  have hez:e≠z:=fun x=>by subst x;rw [hz₂] at hoe;obtain rfl:=soi hoe;simp at hce
  exact wpAny_setField_rec hz₂ (by simp) fun h₃ _ hs₃=>q h₃ e (fun b o b1 b2 x=>hs₃.extBut _ _ b1 (hs₂ _ _ b2 x)) ⟨oe,hs₃.extBut _ _ hez hoe,hce⟩
theorem zxr {Q:Option Value→Shared→Prop} (ap:ZAp z TI TO cs) (hcs:cs≠[]) (h8:cs.length≤8) (st:ZSt z TI TO cs i .none s.heap) (hx:∀ c∈cs,∃ x,c.xs[i]?=some x)
  (hQ:∀ h',ZSt z TI TO cs (i+1) (rawInt s.heap.objs.size) h'→h'.get? s.heap.objs.size=some (zeo (cs.map fun c=>c.xs[i]?.getD .none).toArray)→h'.objs.size=s.heap.objs.size+1 →
   (∀ b o,b≠z→b≠TO→(∀ c∈cs,b≠c.I)→s.heap.get? b=some o→h'.get? b=some o)→Q (some (.ref s.heap.objs.size)) { s with heap:=h' }) :
  wpAny (model prog w) A (pyNext (.ref z)) Q E s:=by
 have hT:s.TypeIs (.ref z) "zip":=⟨_,st.hz,rfl⟩
 unfold pyNext
 exact wpAny_bind (wpAny_attempt (wpAny_callSpecial?_slot (name:=Str.ofString "__next__") hT F.slot_zip_next
  (wpAny_call_entry F.slot_zip_next hT F.entry_zip_next (yer ap hcs h8 st hx fun h' a1 a2 a3 a4=>wpAny_pure (hQ h' a1 a2 a3 a4)) (F.args_zip_next_1 _))))
theorem ycf {Q:Option Value→Shared→Prop} (hh:A.handled=none) (ap:ZAp z TI TO cs) (hcs:cs≠[]) (h8:cs.length≤8) (st:ZSt z TI TO cs i .none s.heap) (hx:∃ c∈cs,c.xs[i]?=none)
  (hQ:∀ h',(∀ b o,b≠z→b≠TO→(∀ c∈cs,b≠c.I)→s.heap.get? b=some o→h'.get? b=some o)→Q none { s with heap:=h' }):wpAny (model prog w) A (pyNext (.ref z)) Q E s:=by
 have hT:s.TypeIs (.ref z) "zip":=⟨_,st.hz,rfl⟩
 unfold pyNext
 refine wpAny_bind (wpAny_attempt (wpAny_callSpecial?_slot (name:=Str.ofString "__next__") hT F.slot_zip_next
  (wpAny_call_entry F.slot_zip_next hT F.entry_zip_next (yiy hh ap hcs h8 st hx fun h' e hk he=>?_) (F.args_zip_next_1 _))))
 obtain ⟨o,ho,hc⟩:=he
 refine wpAny_bind (wpAny_isInstance (T:="StopIteration") (b:=true) ⟨o,ho,hc⟩ isSubtype_stop ?_)
 exact wpAny_pure (hQ _ hk)
noncomputable abbrev wrOf (z TO:Addr) (cs:List Col):List Addr:=z::TO::cs.map (·.I)
theorem ztp {b:Addr} (h:b∉wrOf z TO cs):b≠z∧b≠TO∧∀ c∈cs,b≠c.I :=
 ⟨fun e=>h (e▸.head _),fun e=>h (e▸.tail _ (.head _)),fun c m e=>h (.tail _ (.tail _ (List.mem_map.mpr ⟨c,m,e.symm⟩)))⟩
theorem ZSt.keep {f0:Value} {h h':Heap} (x:ZSt z TI TO cs i f0 h) (k:∀ b∈TI::(wrOf z TO cs++cs.map (·.l)),∀ o,h.get? b=some o→h'.get? b=some o):ZSt z TI TO cs i f0 h' :=
 ⟨k z (.tail _ (.head _)) _ x.hz,k TI (.head _) _ x.hTI,let ⟨arr,a,b⟩:=x.hTO;⟨arr,a,k TO (.tail _ (.tail _ (.head _))) _ b⟩,fun c m =>
  ⟨(x.it c m).1.at fun o e=>k c.I (.tail _ (.tail _ (.tail _ (List.mem_append_left _ (List.mem_map.mpr ⟨c,m,rfl⟩))))) o e,(x.it c m).2.at fun o e=>k c.l (.tail _ (.tail _ (.tail _ (List.mem_append_right _ (List.mem_map.mpr ⟨c,m,rfl⟩))))) o e⟩⟩
theorem yel (hh:A.handled=none) (ap:ZAp z TI TO cs) (hcs:cs≠[]) (h8:cs.length≤8) {n:Nat} (hn:∀ c∈cs,n≤c.xs.size) (hend:∃ c∈cs,c.xs.size≤n) :
  WalksT prog w A z (TI::(wrOf z TO cs++cs.map (·.l))) (wrOf z TO cs) n (fun i vals=>vals=(cs.map fun c=>c.xs[i]?.getD .none).toArray) (fun i h=>ZSt z TI TO cs i .none h) (fun i T h=>ZSt z TI TO cs (i+1) (rawInt T) h∧T∉wrOf z TO cs) where
 sub:=fun b m=>.tail _ (List.mem_append_left _ m)
 frame:=fun i h h' st k=>st.keep k
 item:=fun i s Q E hi st hQ=>by
  refine zxr ap hcs h8 st (fun c m=>⟨_,Array.getElem?_eq_getElem (Nat.lt_of_lt_of_le hi (hn c m))⟩) fun h' a1 a2 a3 hk=>?_
  have lt:∀ {c o},s.heap.get? c=some o→s.heap.objs.size≠c:=fun e=>Nat.ne_of_gt (Heap.lt_size e)
  refine hQ s.heap.objs.size _ h' s.toks rfl (Nat.le_refl _) ⟨_,a2,rfl,_,rfl⟩ ⟨a1,fun m=>?_⟩ fun b o hb e=>let ⟨b1,b2,b3⟩:=ztp hb;hk b o b1 b2 b3 e
  rcases mcp m with e | m
  ·exact lt st.hz e
  ·rcases mcp m with e | m
   ·obtain ⟨_,_,g⟩:=st.hTO;exact lt g e
   ·obtain ⟨c,mc,e⟩:=mmp m
    obtain ⟨_,g,_⟩:=(st.it c mc).1;exact lt g e.symm
 go:=fun elts k pos i T s Q E hm hQ=>by
  obtain ⟨st,hT⟩:=hm
  refine wpAny_letOwnedTupleGo_zip st.hz fun h' hz' hs'=>hQ h' ⟨hz',hs'.extBut _ _ ap.TIz st.hTI,let ⟨arr,a,b⟩:=st.hTO;⟨arr,a,hs'.extBut _ _ ap.TOz b⟩,fun c m=>⟨(st.it c m).1.extBut hs'.extBut (ap.a c m).1,(st.it c m).2.extBut hs'.extBut (ap.a c m).2.2.2.1⟩⟩
   fun b o hb e=>hs'.extBut _ _ (ztp hb).1 e
 apart:=fun i T h hm=>hm.2
 done:=fun s Q E st hQ=>by
  obtain ⟨c,m,hc⟩:=hend
  exact ycf hh ap hcs h8 st ⟨c,m,Array.getElem?_eq_none hc⟩ fun h' hk=>hQ h' s.toks fun b o hb e=>let ⟨b1,b2,b3⟩:=ztp hb;hk b o b1 b2 b3 e
 self:=fun i s Q E st hQ=>wpAny_pyIter_zip st.hz hQ
end
end Internal
namespace Internal
theorem zmg (a b c:Value):checkTypeCall "zip" ⟨[a,b,c],[]⟩=pure ():=by kernel_rfl
theorem zon (a b c:Value):checkBuiltinCall "zip.__new__" ⟨[.type "zip",a,b,c],[]⟩=pure ():=by kernel_rfl
theorem zhv (a b c d:Value):argsOk "object.__init__" ⟨[a,b,c,d],[]⟩:=by
 unfold argsOk;rw [signature?_of (id:="object.__init__") (n:=['_','_','t','i','n','i','_','_']) (o:=['t','c','e','j','b','o']) (by kernel_rfl) PySem.F.owner_object];kernel_rfl
noncomputable abbrev lit' (l:Addr):Obj:={ cls:=.type "list_iterator",data:=.fields #[.ref l, .int 0 0] }
noncomputable abbrev z1 (h:Heap) (l1:Addr):Heap:=h.push (lit' l1)
noncomputable abbrev z2 (h:Heap) (l1 l2:Addr):Heap:=(z1 h l1).push (lit' l2)
noncomputable abbrev z3 (h:Heap) (l1 l2 l3:Addr):Heap:=(z2 h l1 l2).push (lit' l3)
noncomputable abbrev z4 (h:Heap) (l1 l2 l3:Addr):Heap:=(z3 h l1 l2 l3).push (zeo #[.ref h.objs.size, .ref (z1 h l1).objs.size, .ref (z2 h l1 l2).objs.size])
noncomputable abbrev z5 (h:Heap) (l1 l2 l3:Addr):Heap:=(z4 h l1 l2 l3).push (zeo #[.none, .none, .none])
noncomputable abbrev z6 (h:Heap) (l1 l2 l3:Addr):Heap:=(z5 h l1 l2 l3).push { cls:=.type "zip",data:=.fields #[.none, .bool false, .bool false, .ref (z3 h l1 l2 l3).objs.size, .ref (z4 h l1 l2 l3).objs.size] }
set_option maxHeartbeats 4000000 in
theorem zmd (l1 l2 l3:Addr) (xs ys zs:Array Value) :
  Meets (Builtin.«zip.__new__» ⟨[.type "zip", .ref l1, .ref l2, .ref l3],[]⟩) (fun _ R s=>s.heap.IsList l1 xs∧s.heap.IsList l2 ys∧s.heap.IsList l3 zs ∧
   R (.ok (.ret (.ref (z5 s.heap l1 l2 l3).objs.size))) { s with heap:=z6 s.heap l1 l2 l3 }) :=
 .of_wp fun prog w A R s h=>by
  obtain ⟨hp,g,d,tk,os⟩:=s;obtain ⟨hl1,hl2,hl3,h⟩:=h
  have hsub:=sub_zip
  have hL1:Heap.IsList (Shared.heap ⟨hp,g,d,tk,os⟩) l1 xs:=hl1
  have hL2:Heap.IsList (Shared.heap ⟨z1 hp l1,g,d,tk,os⟩) l2 ys:=Heap.IsList.push hl2 _
  have hL3:Heap.IsList (Shared.heap ⟨z2 hp l1 l2,g,d,tk,os⟩) l3 zs:=Heap.IsList.push (Heap.IsList.push hl3 _) _
  wp_walk using wpAny_pyIter_list hL1,wpAny_pyIter_list hL2,wpAny_pyIter_list hL3
  exact ⟨_,rfl,h⟩
section
variable {prog:Program} {w:World} {A:Around} {E:Value→Shared→Prop} {s:Shared}
theorem ykv {n:Nat} {cs:List Col} {k:Nat} (hc:cs.map (·.I)=(List.range k).map (n + ·)) (hl:∀ c∈cs,c.l<n):ZAp (n+k+2) (n+k) (n+k+1) cs where
 TIz:=Nat.ne_of_lt (Nat.lt_add_of_pos_right (by decide))
 TOz:=Nat.ne_of_lt (Nat.lt_succ_self _)
 TITO:=Nat.ne_of_lt (Nat.lt_succ_self _)
 a:=fun c m=>by
  have hI:∀ c∈cs,n≤c.I∧c.I<n+k:=fun c m=>by
   have:c.I∈cs.map (·.I):=List.mem_map.mpr ⟨c,m,rfl⟩
   rw [hc] at this
   obtain ⟨j,mj,e⟩:=mmp this
   rw [← e];exact ⟨Nat.le_add_right _ _,Nat.add_lt_add_left (List.mem_range.mp mj) _⟩
  have h1:=hI c m
  have h2:=hl c m
  have h3:n≤n+k:=Nat.le_add_right n k
  exact ⟨Nat.ne_of_lt (Nat.lt_of_lt_of_le h1.2 (Nat.le_add_right _ 2)),Nat.ne_of_lt (Nat.lt_of_lt_of_le h1.2 (Nat.le_succ _)),(Nat.ne_of_lt h1.2).symm,Nat.ne_of_lt (Nat.lt_of_lt_of_le h2 (Nat.le_trans h3 (Nat.le_add_right _ 2))),Nat.ne_of_lt (Nat.lt_of_lt_of_le h2 (Nat.le_trans h3 (Nat.le_succ _))),
   fun c' m'=>Nat.ne_of_lt (Nat.lt_of_lt_of_le h2 (hI c' m').1)⟩
 nd:=by rw [hc];exact List.pairwise_map.mpr (List.nodup_range.imp fun h e=>h (Nat.add_left_cancel e))
theorem yet {l1 l2:Addr} {xs ys:Array Value} {Q:Value→Shared→Prop} (hl1:s.heap.IsList l1 xs) (hl2:s.heap.IsList l2 ys)
  (h:∀ h',ZSt (s.heap.objs.size+2+2) (s.heap.objs.size+2) (s.heap.objs.size+2+1) [⟨s.heap.objs.size,l1,xs⟩,⟨s.heap.objs.size+1,l2,ys⟩] 0 .none h'→(∀ c o,s.heap.get? c=some o→h'.get? c=some o)→Q (.ref (s.heap.objs.size+2+2)) { s with heap:=h' }) :
  wpAny (model prog w) A (call (.type "zip") [.ref l1, .ref l2]) Q E s :=
 call_zip_2 hl1 hl2 fun h' a b c d e _ k=>h h' ⟨a,b,⟨_,rfl,c⟩,fun x m=>by
  rcases mcp m with rfl | m
  ·exact ⟨d,hl1.at fun o e=>k _ o e⟩
  ·rcases msp m with rfl
   exact ⟨e,hl2.at fun o e=>k _ o e⟩⟩ k
theorem yeu {l1 l2 l3:Addr} {xs ys zs:Array Value} {Q:Value→Shared→Prop} (hl1:s.heap.IsList l1 xs) (hl2:s.heap.IsList l2 ys) (hl3:s.heap.IsList l3 zs)
  (h:∀ h',ZSt (s.heap.objs.size+3+2) (s.heap.objs.size+3) (s.heap.objs.size+3+1) [⟨s.heap.objs.size,l1,xs⟩,⟨s.heap.objs.size+1,l2,ys⟩,⟨s.heap.objs.size+2,l3,zs⟩] 0 .none h'→(∀ c o,s.heap.get? c=some o→h'.get? c=some o)→Q (.ref (s.heap.objs.size+3+2)) { s with heap:=h' }) :
  wpAny (model prog w) A (call (.type "zip") [.ref l1, .ref l2, .ref l3]) Q E s:=by
 refine callType_new PySem.F.called_zip (by decide) (zmg _ _ _) (zon _ _ _) (fun obj=>zhv obj _ _ _) PySem.F.entry_zip_new
  (zmd l1 l2 l3 xs ys zs) ⟨hl1,hl2,hl3, ?_⟩
 have y1:(z1 s.heap l1).objs.size=s.heap.objs.size+1:=Heap.size_push ..
 have y2:(z2 s.heap l1 l2).objs.size=s.heap.objs.size+2:=by rw [Heap.size_push,y1]
 have y3:(z3 s.heap l1 l2 l3).objs.size=s.heap.objs.size+3:=by rw [Heap.size_push,y2]
 have y4:(z4 s.heap l1 l2 l3).objs.size=s.heap.objs.size+3+1:=by rw [Heap.size_push,y3]
 have y5:(z5 s.heap l1 l2 l3).objs.size=s.heap.objs.size+3+2:=by rw [Heap.size_push,y4]
 have k2:∀ c o,(z2 s.heap l1 l2).get? c=some o→(z6 s.heap l1 l2 l3).get? c=some o:=fun c o e=>Heap.get?_push_of_some _ (Heap.get?_push_of_some _ (Heap.get?_push_of_some _ (Heap.get?_push_of_some _ e)))
 have k0:∀ c o,s.heap.get? c=some o→(z6 s.heap l1 l2 l3).get? c=some o:=fun c o e=>k2 c o (Heap.get?_push_of_some _ (Heap.get?_push_of_some _ e))
 have g6:(z6 s.heap l1 l2 l3).get? (z5 s.heap l1 l2 l3).objs.size=some _:=Heap.get?_push_size _ rfl
 have g5:(z6 s.heap l1 l2 l3).get? (z4 s.heap l1 l2 l3).objs.size=some _:=Heap.get?_push_of_some _ (Heap.get?_push_size _ rfl)
 have g4:(z6 s.heap l1 l2 l3).get? (z3 s.heap l1 l2 l3).objs.size=some _:=Heap.get?_push_of_some _ (Heap.get?_push_of_some _ (Heap.get?_push_size _ rfl))
 have g3:(z6 s.heap l1 l2 l3).get? (z2 s.heap l1 l2).objs.size=some _:=Heap.get?_push_of_some _ (Heap.get?_push_of_some _ (Heap.get?_push_of_some _ (Heap.get?_push_size _ rfl)))
 have g2:(z6 s.heap l1 l2 l3).get? (z1 s.heap l1).objs.size=some _:=k2 _ _ (Heap.get?_push_size _ rfl)
 have g1:(z6 s.heap l1 l2 l3).get? s.heap.objs.size=some _:=k2 _ _ (Heap.get?_push_of_some _ (Heap.get?_push_size _ rfl))
 show _∧_
 rw [y5,y3,y4] at g6
 rw [y4] at g5
 rw [y3,y1,y2] at g4
 rw [y2] at g3
 rw [y1] at g2
 rw [y5]
 refine ⟨⟨_,g6,rfl⟩,h _ ⟨g6,g4,⟨_,rfl,g5⟩,fun x m=>?_⟩ k0⟩
 rcases mcp m with rfl | m
 ·exact ⟨⟨_,g1,rfl,rfl⟩,hl1.at fun o e=>k0 _ o e⟩
 ·rcases mcp m with rfl | m
  ·exact ⟨⟨_,g2,rfl,rfl⟩,hl2.at fun o e=>k0 _ o e⟩
  ·rcases msp m with rfl
   exact ⟨⟨_,g3,rfl,rfl⟩,hl3.at fun o e=>k0 _ o e⟩
end
end Internal
namespace Internal
section
variable {w:World} {O:List Addr} {h:Heap}
theorem VReps.split:∀ {xs ys:List D} {us vs:List Value},us.length=xs.length→VReps w O h (us++vs) (xs++ys)→VReps w O h us xs∧VReps w O h vs ys
 | [],ys,us,vs,e,r=>by
  obtain rfl:=List.length_eq_zero_iff.mp e
  exact ⟨.nil,r⟩
 | x::xs,ys,[],vs,e,r=>by cases e
 | x::xs,ys,u::us,vs,e,r=>by
  obtain ⟨a,b⟩:=VReps.split (Nat.succ.inj e) (VReps.tail r)
  exact ⟨.cons (VReps.head r) a,b⟩
end
inductive Cols (w:World) (O:List Addr) (h:Heap):List Col→List (List D)→Prop
 | nil:Cols w O h [] []
 | cons {c cs l ls}:VReps w O h c.xs.toList l→Cols w O h cs ls→Cols w O h (c::cs) (l::ls)
section
variable {w:World} {O:List Addr} {h h':Heap} {cs:List Col} {ls:List (List D)}
theorem Cols.flat (x:Cols w O h cs ls):VReps w O h (cs.flatMap fun c=>c.xs.toList) ls.flatten:=by
 induction x with
 | nil=>exact .nil
 | cons r _ ih=>exact r.append ih
theorem Cols.back (x:Cols w O h cs ls):∀ {O' h'},VReps w O' h' (cs.flatMap fun c=>c.xs.toList) ls.flatten→Cols w O' h' cs ls:=by
 induction x with
 | nil=>intro O' h' _;exact .nil
 | cons r _ ih =>
  intro O' h' q
  obtain ⟨a,b⟩:=VReps.split r.length q
  exact .cons a (ih b)
theorem Cols.row {i:Nat} (x:Cols w O h cs ls) (hi:∀ l∈ls,i<l.length):VReps w O h (cs.map fun c=>c.xs[i]?.getD .none) (ls.map fun l=>l[i]?.getD .none):=by
 induction x with
 | nil=>exact .nil
 | @cons c cs l ls r _ ih =>
  have hl:=hi l mch
  obtain ⟨v,e,q⟩:=r.get i _ (List.getElem?_eq_getElem hl)
  rw [Array.getElem?_toList] at e
  refine .cons ?_ (ih fun l m=>hi l (mct _ m))
  show VRep w O h (c.xs[i]?.getD .none) (l[i]?.getD .none)
  rw [e,List.getElem?_eq_getElem hl];exact q
theorem Cols.size (x:Cols w O h cs ls):cs.map (fun c=>c.xs.size)=ls.map List.length:=by
 induction x with
 | nil=>rfl
 | cons r _ ih=>rw [List.map_cons,List.map_cons,ih,← r.length,Array.length_toList]
end
structure ZipRows (ls:List (List D)) (ds:List D):Prop where
 row:∀ i d,ds[i]?=some d→d=.tuple (ls.map fun l=>l[i]?.getD .none)∧∀ l∈ls,i<l.length
 ge:∀ l∈ls,ds.length≤l.length
 le:∃ l∈ls,l.length≤ds.length
section
variable {G:GC} {A:Around} {O:List Addr} {s:Shared} {tg:Expr} {ds:List D}
theorem yaz (hh:A.handled=none) (B:Base G s.heap) (p:0<s.toks) (hn:IsTp tg=true) {strict:Bool} {z TI TO:Addr} {cs:List Col} {ls:List (List D)} {h':Heap} (hcs:cs≠[]) (h8:cs.length≤8) (ap:ZAp z TI TO cs)
  (st:ZSt z TI TO cs 0 .none h') (hk:∀ b o,s.heap.get? b=some o→h'.get? b=some o) (fr:∀ b∈TI::wrOf z TO cs,s.heap.get? b=none) (cl:Cols G.w O s.heap cs ls) (hO:∀ c∈cs,strict=true→c.l∉O) (nt:ls.flatten.all zbm=true) (hr:ZipRows ls ds) (hlen:ds.length≤16777216) :
  Got G A true O tg ds strict s z { s with heap:=h' }:=by
 obtain ⟨es,k,pp,rfl⟩:=zqk (G:=G) (A:=A) hn
 have hsz:=cl.size
 have W:=(yel (prog:=G.prog) (w:=G.w) hh ap hcs h8 (n:=ds.length) (fun c m=>by
  have:c.xs.size∈ls.map List.length:=hsz▸List.mem_map.mpr ⟨c,m,rfl⟩
  obtain ⟨l,ml,e⟩:=mmp this
  exact e▸hr.ge l ml) (by
  obtain ⟨l,ml,e⟩:=hr.le
  have:l.length∈cs.map (fun c=>c.xs.size):=hsz▸List.mem_map.mpr ⟨l,ml,rfl⟩
  obtain ⟨c,mc,e'⟩:=mmp this
  exact ⟨c,mc,e'▸e⟩)).toU
 have K:=KTurns.ofWalksU (elts:=es) (k:=k) (pos:=pp) W
 have lobj:∀ c∈cs,∃ o,h'.get? c.l=some o∧o.cls=.type "list":=fun c m=>let ⟨o,e,q,_⟩:=(st.it c m).2;⟨o,e,q⟩
 have objs:∀ {i f0 h},ZSt z TI TO cs i f0 h→∀ b∈wrOf z TO cs,∃ o,h.get? b=some o∧WrZ true o∧zhj o:=fun {i f0 h} st b m=>by
  rcases mcp m with rfl | m
  ·exact ⟨_,st.hz,zgv rfl rfl (by decide),zaz rfl⟩
  ·rcases mcp m with rfl | m
   ·obtain ⟨arr,_,e⟩:=st.hTO
    exact ⟨_,e, .inr ⟨rfl,rfl,_,_,rfl⟩,zaz rfl⟩
   ·obtain ⟨c,mc,rfl⟩:=mmp m
    obtain ⟨o,e,q,d⟩:=(st.it c mc).1
    exact ⟨o,e,zgv q d (by decide),zaz q⟩
 refine ⟨.all B hk p,hlen,TI::(wrOf z TO cs++cs.map (·.l)),wrOf z TO cs,_,ls.flatten,_,_,_,⟨K,W.self,fun O' h i v d r' hP e=>?_,fun i h st b hb o e=>?_,fun i h st b hb o e=>?_,fun i h st b hb=>?_⟩,st,cl.flat.keep (.of hk),fun b hb=>fr b (.tail _ hb),fun b hb=>?_,fun b hb=>?_,fun _ d m=>latp nt d m⟩
 ·obtain ⟨T,vals,rfl,rfl,hT⟩:=hP
  obtain ⟨rfl,hi⟩:=hr.row i d e
  exact .tuple_of (by rw [List.length_map,← List.length_map (f:=List.length),← hsz,List.length_map];exact Nat.le_trans h8 (by decide)) hT ((cl.back r').row hi)
 ·rcases mcp hb with rfl | hb
  ·have q:=st.hTI;rw [q] at e;obtain rfl:=soi e;exact zaz rfl
  ·rcases map2 hb with hb | hb
   ·obtain ⟨o',e',_,q⟩:=objs st b hb;rw [e'] at e;obtain rfl:=soi e;exact q
   ·obtain ⟨c,mc,rfl⟩:=mmp hb
    obtain ⟨o',e',q,_⟩:=(st.it c mc).2;rw [e'] at e;obtain rfl:=soi e;exact zaz q
 ·obtain ⟨o',e',q,_⟩:=objs st b hb;rw [e'] at e;obtain rfl:=soi e;exact q
 ·obtain ⟨o',e',_⟩:=objs st b hb;exact ⟨o',e'⟩
 ·rcases mcp hb with rfl | hb
  ·exact ⟨_,st.hTI⟩
  ·rcases map2 hb with hb | hb
   ·obtain ⟨o',e',_⟩:=objs st b hb;exact ⟨o',e'⟩
   ·obtain ⟨c,mc,rfl⟩:=mmp hb
    obtain ⟨o',e',_⟩:=lobj c mc;exact ⟨o',e'⟩
 ·rcases mcp hb with rfl | hb
  ·exact .inl (fr _ (.head _))
  ·rcases map2 hb with hb | hb
   ·exact .inl (fr b (.tail _ hb))
   ·obtain ⟨c,mc,rfl⟩:=mmp hb
    exact .inr (.inl (hO c mc))
end
end Internal
namespace Internal
section
variable {G:GC} {A:Around} {z:Bool} {env:Env} {own:Own} {O:List Addr} {ρ:Rho} {d:D} {tg:Expr} {ds:List D}
theorem Got.after {s s1 s':Shared} {strict:Bool} {I:Addr} (x:Ext G s s1) (g:Got G A z O tg ds strict s1 I s'):Got G A z O tg ds strict s I s' :=
 ⟨x.trans g.ext,g.len,let ⟨fp,wr,vs,es,St,P,Md,a,b,c,d,e,f,i⟩:=g.it;⟨fp,wr,vs,es,St,P,Md,a,b,c,fun b m=>x.back b (d b m),e,fun b m=>(f b m).imp (x.back b) id,i⟩⟩
noncomputable def zjx (G:GC) (A:Around) (z:Bool) (iter:Expr) (env:Env) (own:Own) (O:List Addr) (ρ:Rho) (tg:Expr) (ds:List D) (strict:Bool):Prop:=∀ s,Inv G A env own O ρ s→yon G A z O tg (eval iter env) s ds strict
theorem ytp {iter:Expr} (h:EvOK G A iter env own O ρ d) (hd:ziz d=some ds) (hn:zbq tg=true) {strict:Bool}:zjx G A false iter env own O ρ tg ds strict:=fun s I Q E q =>
 h s I _ _ fun v s1 x1 r1=>ygu I.hh x1.base x1.pos r1 hd hn fun I' s' g=>q I' s' (g.after x1)
theorem ynn {n:Nat} {x:Str} {pos:Pos} (N:NameOK G env n x) (ho:n∈own.ns) (hg:ρ.get n=some (.list ds)) (hn:zbq tg=true):zjx G A false (.Name x pos) env own O ρ tg ds false:=fun s I Q E q =>
 zim N I ho hg fun a vs y m z l r=>zqh I.hh I.base I.pos hn z l.isList r (fun h=>by exact ff h) q
theorem yno {iter:Expr} {np pos:Pos} (hk:env.kindOf "reversed" = some .globalImplicit) (hst:zbh iter=true) (h:EvOK G A iter env own O ρ (.list ds)) (hn:IsNm tg=true) {strict:Bool}:zjx G A false (.Call (.Name "reversed" np) [iter] [] pos) env own O ρ tg ds.reverse strict:=fun s I Q E q=>by
 have hm:("reversed" : Str)∈bltNames:=by decide +kernel
 refine wpAny_Call_Name_kw (zes I hk (zjj hm) (I.ok.nb _ hm) (show bootBuiltins "reversed" = some (.type "reversed") by decide +kernel) (zjk hm) ?_)
 refine PyProof.Rows.callWith_type (zdh (xs:=[iter]) (show (zbh iter&&true)=true by rw [hst];rfl) pos env) (zbg (show (zbh iter&&true)=true by rw [hst];rfl) ?_)
 rw [zch hst]
 refine spliced_cons (h s I _ _ fun v s1 x1 r1=>spliced_nil ?_)
 have hl:=r1.list_len
 obtain ⟨a,vs,rfl,ha,l,rr⟩:=r1.list_inv
 exact ygs I.hh x1.base x1.pos hn hl l rr (fun _=>ha) fun I' s' g=>q I' s' (g.after x1)
theorem yim {iter:Expr} {np pos:Pos} (hk:env.kindOf "enumerate" = some .globalImplicit) (hst:zbh iter=true) (h:EvOK G A iter env own O ρ (.list ds)) (hn:IsTp tg=true) {strict:Bool}:zjx G A false (.Call (.Name "enumerate" np) [iter] [] pos) env own O ρ tg (zxe ds) strict:=fun s I Q E q=>by
 have hm:("enumerate" : Str)∈bltNames:=by decide +kernel
 refine wpAny_Call_Name_kw (zes I hk (zjj hm) (I.ok.nb _ hm) (show bootBuiltins "enumerate" = some (.type "enumerate") by decide +kernel) (zjk hm) ?_)
 refine PyProof.Rows.callWith_type (zdh (xs:=[iter]) (show (zbh iter&&true)=true by rw [hst];rfl) pos env) (zbg (show (zbh iter&&true)=true by rw [hst];rfl) ?_)
 rw [zch hst]
 refine spliced_cons (h s I _ _ fun v s1 x1 r1=>spliced_nil ?_)
 have hl:=r1.list_len
 obtain ⟨a,vs,rfl,ha,l,rr⟩:=r1.list_inv
 exact ybl I.hh x1.base x1.pos hn hl l rr (fun _=>ha) fun I' s' g=>q I' s' (g.after x1)
theorem zql:∀ {es:List D} {ls:List (List D)},zvn es=some ls→es=ls.map PyData.list
 | [],ls,h=>by obtain rfl:=soi h;rfl
 | e::es,ls,h=>by
  cases e with
  | list xs=>exact zmx (P:=fun ls=>PyData.list xs::es=ls.map PyData.list) h fun l e=>by rw [List.map_cons,← zql e]
  | _=>exact nn h
theorem zrr (xs ys:List D):ZipRows [xs,ys] (zipD [xs,ys]):=by
 have hl:(zipD [xs,ys]).length=min xs.length ys.length:=by show ((xs.zip ys).map _).length=_;rw [List.length_map,List.length_zip]
 refine ⟨fun i d e=>?_,fun l m=>?_, ?_⟩
 ·have hi:i<min xs.length ys.length:=hl▸(List.getElem?_eq_some_iff.mp e).1
  have h1:i<xs.length:=Nat.lt_of_lt_of_le hi (Nat.min_le_left _ _)
  have h2:i<ys.length:=Nat.lt_of_lt_of_le hi (Nat.min_le_right _ _)
  have e2:(zipD [xs,ys])[i]?=some (.tuple [xs[i],ys[i]]):=by
   show ((xs.zip ys).map _)[i]?=_
   rw [List.getElem?_map,show (xs.zip ys)[i]?=some (xs[i],ys[i]) from List.getElem?_zip_eq_some.mpr ⟨List.getElem?_eq_getElem h1,List.getElem?_eq_getElem h2⟩];rfl
  rw [e2] at e
  refine ⟨?_,fun l m=>?_⟩
  ·rw [← soi e];simp only [List.map_cons,List.map_nil,List.getElem?_eq_getElem h1,List.getElem?_eq_getElem h2,Option.getD_some]
  ·rcases mcp m with rfl | m
   ·exact h1
   ·rw [msp m];exact h2
 ·rw [hl]
  rcases mcp m with rfl | m
  ·exact Nat.min_le_left _ _
  ·rw [msp m];exact Nat.min_le_right _ _
 ·rw [hl]
  rcases Nat.le_total xs.length ys.length with h | h
  ·exact ⟨xs, .head _,by rw [Nat.min_eq_left h];exact Nat.le_refl _⟩
  ·exact ⟨ys, .tail _ (.head _),by rw [Nat.min_eq_right h];exact Nat.le_refl _⟩
theorem zrs (xs ys zs:List D):ZipRows [xs,ys,zs] (zipD [xs,ys,zs]):=by
 have hl:(zipD [xs,ys,zs]).length=min xs.length (min ys.length zs.length):=by show ((xs.zip (ys.zip zs)).map _).length=_;rw [List.length_map,List.length_zip,List.length_zip]
 have b1:min xs.length (min ys.length zs.length)≤xs.length:=Nat.min_le_left _ _
 have b2:min xs.length (min ys.length zs.length)≤ys.length:=Nat.le_trans (Nat.min_le_right _ _) (Nat.min_le_left _ _)
 have b3:min xs.length (min ys.length zs.length)≤zs.length:=Nat.le_trans (Nat.min_le_right _ _) (Nat.min_le_right _ _)
 refine ⟨fun i d e=>?_,fun l m=>?_, ?_⟩
 ·have hi:i<min xs.length (min ys.length zs.length):=hl▸(List.getElem?_eq_some_iff.mp e).1
  have h1:=Nat.lt_of_lt_of_le hi b1
  have h2:=Nat.lt_of_lt_of_le hi b2
  have h3:=Nat.lt_of_lt_of_le hi b3
  have e2:(zipD [xs,ys,zs])[i]?=some (.tuple [xs[i],ys[i],zs[i]]):=by
   show ((xs.zip (ys.zip zs)).map _)[i]?=_
   rw [List.getElem?_map,show (xs.zip (ys.zip zs))[i]?=some (xs[i],(ys[i],zs[i])) from List.getElem?_zip_eq_some.mpr ⟨List.getElem?_eq_getElem h1,List.getElem?_zip_eq_some.mpr ⟨List.getElem?_eq_getElem h2,List.getElem?_eq_getElem h3⟩⟩];rfl
  rw [e2] at e
  refine ⟨?_,fun l m=>?_⟩
  ·rw [← soi e];simp only [List.map_cons,List.map_nil,List.getElem?_eq_getElem h1,List.getElem?_eq_getElem h2,List.getElem?_eq_getElem h3,Option.getD_some]
  ·rcases mcp m with rfl | m
   ·exact h1
   ·rcases mcp m with rfl | m
    ·exact h2
    ·rw [msp m];exact h3
 ·rw [hl]
  rcases mcp m with rfl | m
  ·exact b1
  ·rcases mcp m with rfl | m
   ·exact b2
   ·rw [msp m];exact b3
 ·rw [hl]
  rcases Nat.le_total xs.length (min ys.length zs.length) with h | h
  ·exact ⟨xs, .head _,by rw [Nat.min_eq_left h];exact Nat.le_refl _⟩
  ·rcases Nat.le_total ys.length zs.length with h2 | h2
   ·exact ⟨ys, .tail _ (.head _),by rw [Nat.min_eq_right h,Nat.min_eq_left h2];exact Nat.le_refl _⟩
   ·exact ⟨zs, .tail _ (.tail _ (.head _)),by rw [Nat.min_eq_right h,Nat.min_eq_right h2];exact Nat.le_refl _⟩
theorem ynp {args:List Expr} {np pos:Pos} {es:List D} {ls:List (List D)} (hk:env.kindOf "zip" = some .globalImplicit) (hst:zci args=true) (h:EsOK G A args env own O ρ es) (hl:zvn es=some ls) (nt:ls.flatten.all zbm=true) (h23:ls.length=2∨ls.length=3) (hn:IsTp tg=true) {strict:Bool} :
  zjx G A true (.Call (.Name "zip" np) args [] pos) env own O ρ tg (zipD ls) strict:=fun s I Q E q=>by
 have hm:("zip" : Str)∈bltNames:=by decide +kernel
 refine wpAny_Call_Name_kw (zes I hk (zjj hm) (I.ok.nb _ hm) (show bootBuiltins "zip" = some (.type "zip") by decide +kernel) (zjk hm) ?_)
 refine PyProof.Rows.callWith_type (zdh hst pos env) (zbg hst (h s pos I _ _ fun vs s1 x1 r1=>?_))
 show wpAny (mdl G) A (call (.type "zip") vs) _ E s1
 rw [zql hl] at r1
 have fr:∀ {k:Nat},s1.heap.get? (s1.heap.objs.size+k)=none:=fun {k}=>zfn (Nat.le_add_right _ _)
 rcases ls with _ | ⟨xs,_ | ⟨ys,_ | ⟨zs,_ | ⟨ws,r⟩⟩⟩⟩
 ·rcases h23 with h | h <;> cases h
 ·rcases h23 with h | h <;> cases h
 ·obtain ⟨v1,vs,rfl,p1,r1⟩:=r1.cons_inv
  obtain ⟨v2,vs,rfl,p2,r1⟩:=r1.cons_inv
  obtain rfl:=r1.nil_inv
  have l1:=p1.list_len
  obtain ⟨a1,w1,rfl,o1,q1,c1⟩:=p1.list_inv
  obtain ⟨a2,w2,rfl,o2,q2,c2⟩:=p2.list_inv
  refine yet q1 q2 fun h' st k=>wpAny_pyIter_zip st.hz (q _ _ (Got.after x1 (yaz I.hh x1.base x1.pos hn (List.cons_ne_nil _ _) (Nat.le_of_ble_eq_true rfl) (ykv (k:=2) rfl fun c m=>?_) st k (fun b m=>?_) (.cons c1 (.cons c2 .nil)) (fun c m=>?_) nt (zrr xs ys) (Nat.le_trans ((zrr xs ys).ge xs (.head _)) l1))))
  ·rcases mcp m with rfl | m
   ·obtain ⟨o,e,_⟩:=q1;exact Heap.lt_size e
   ·rw [msp m];obtain ⟨o,e,_⟩:=q2;exact Heap.lt_size e
  ·rcases mcp m with rfl | m
   ·exact fr
   ·rcases mcp m with rfl | m
    ·exact fr
    ·rcases mcp m with rfl | m
     ·exact fr
     ·rcases mcp m with rfl | m
      ·exact fr (k:=0)
      ·rw [msp m];exact fr
  ·rcases mcp m with rfl | m
   ·exact fun _=>o1
   ·rw [msp m];exact fun _=>o2
 ·obtain ⟨v1,vs,rfl,p1,r1⟩:=r1.cons_inv
  obtain ⟨v2,vs,rfl,p2,r1⟩:=r1.cons_inv
  obtain ⟨v3,vs,rfl,p3,r1⟩:=r1.cons_inv
  obtain rfl:=r1.nil_inv
  have l1:=p1.list_len
  obtain ⟨a1,w1,rfl,o1,q1,c1⟩:=p1.list_inv
  obtain ⟨a2,w2,rfl,o2,q2,c2⟩:=p2.list_inv
  obtain ⟨a3,w3,rfl,o3,q3,c3⟩:=p3.list_inv
  refine yeu q1 q2 q3 fun h' st k=>wpAny_pyIter_zip st.hz (q _ _ (Got.after x1 (yaz I.hh x1.base x1.pos hn (List.cons_ne_nil _ _) (Nat.le_of_ble_eq_true rfl) (ykv (k:=3) rfl fun c m=>?_) st k (fun b m=>?_) (.cons c1 (.cons c2 (.cons c3 .nil))) (fun c m=>?_) nt (zrs xs ys zs) (Nat.le_trans ((zrs xs ys zs).ge xs (.head _)) l1))))
  ·rcases mcp m with rfl | m
   ·obtain ⟨o,e,_⟩:=q1;exact Heap.lt_size e
   ·rcases mcp m with rfl | m
    ·obtain ⟨o,e,_⟩:=q2;exact Heap.lt_size e
    ·rw [msp m];obtain ⟨o,e,_⟩:=q3;exact Heap.lt_size e
  ·rcases mcp m with rfl | m
   ·exact fr
   ·rcases mcp m with rfl | m
    ·exact fr
    ·rcases mcp m with rfl | m
     ·exact fr
     ·rcases mcp m with rfl | m
      ·exact fr (k:=0)
      ·rcases mcp m with rfl | m
       ·exact fr
       ·rw [msp m];exact fr
  ·rcases mcp m with rfl | m
   ·exact fun _=>o1
   ·rcases mcp m with rfl | m
    ·exact fun _=>o2
    ·rw [msp m];exact fun _=>o3
 ·rcases h23 with h | h <;> cases h
theorem ydo {args:List Expr} {np pos:Pos} {es:List D} (hk:env.kindOf "range" = some .globalImplicit) (hst:zci args=true) (h:EsOK G A args env own O ρ es) (hr:evRange es=some ds) (hn:IsNm tg=true) {strict:Bool}:zjx G A false (.Call (.Name "range" np) args [] pos) env own O ρ tg ds strict:=fun s I Q E q=>by
 have hm:("range" : Str)∈bltNames:=by decide +kernel
 refine wpAny_Call_Name_kw (zes I hk (zjj hm) (I.ok.nb _ hm) (show bootBuiltins "range" = some (.type "range") by decide +kernel) (zjk hm) ?_)
 refine PyProof.Rows.callWith_type (zdh hst pos env) (zbg hst (h s pos I _ _ fun vs s1 x1 r1=>?_))
 show wpAny (mdl G) A (call (.type "range") vs) _ E s1
 have hk':∀ o,∀ b o',s1.heap.get? b=some o'→(s1.heap.push o).get? b=some o':=fun o b o' e=>Heap.get?_push_of_some _ e
 have c3:∀ {a b c:Int},zdi a b c=some ds→Builtin.divisionGoesByPylong (b-a) c=false∧c≠0:=by
  intro a b c h
  unfold zdi at h
  split at h
  ·rename_i g
   simp only [Bool.and_eq_true,decide_eq_true_eq] at g
   obtain ⟨⟨⟨⟨⟨⟨h0,h1⟩,h2⟩,h3⟩,h4⟩,h5⟩,h6⟩:=g
   refine ⟨PyProof.noPylong_of_log2 ?_,by omega⟩
   have:c.natAbs<2^31:=by omega
   exact Nat.lt_of_lt_of_le ((Nat.log2_lt (by omega)).mpr this) (by decide)
  ·exact nn h
 rcases zsm hr with ⟨b,hr⟩ | ⟨a,b,hr⟩ | ⟨a,b,c,hr⟩
 ·obtain ⟨v,rfl,r⟩:=r1.one
  obtain ⟨t,rfl⟩:=r.int_inv
  refine call_range_1 ?_
  have x2:Ext G s1 { s1 with heap:=s1.heap.push { cls:=.type "range",data:=.fields #[.int 0 s1.toks, .int b t, .int 1 (s1.toks+1)] },toks:=s1.toks+1+1 }:=.all x1.base (hk' _) (Nat.succ_pos _)
  exact zja I.hh x2.base x2.pos hn (IsRange.new _ _ _ _ _ _ _) hr fun I' s' g=>q I' s' (g.after (x1.trans x2))
 ·obtain ⟨v,v',rfl,r,r'⟩:=r1.two
  obtain ⟨t,rfl⟩:=r.int_inv;obtain ⟨t',rfl⟩:=r'.int_inv
  refine call_range_2 ?_
  have x2:Ext G s1 { s1 with heap:=s1.heap.push { cls:=.type "range",data:=.fields #[.int a t, .int b t', .int 1 s1.toks] },toks:=s1.toks+1 }:=.all x1.base (hk' _) (Nat.succ_pos _)
  exact zja I.hh x2.base x2.pos hn (IsRange.new _ _ _ _ _ _ _) hr fun I' s' g=>q I' s' (g.after (x1.trans x2))
 ·obtain ⟨v,us,rfl,r,rr⟩:=r1.cons_inv
  obtain ⟨v',v'',rfl,r',r''⟩:=rr.two
  obtain ⟨t,rfl⟩:=r.int_inv;obtain ⟨t',rfl⟩:=r'.int_inv;obtain ⟨t'',rfl⟩:=r''.int_inv
  have:=c3 hr
  refine call_range_3 this.2 ?_ (.inl this.1)
  have x2:Ext G s1 { s1 with heap:=s1.heap.push { cls:=.type "range",data:=.fields #[.int a t, .int b t', .int c t''] },toks:=s1.toks }:=.all x1.base (hk' _) x1.pos
  exact zja I.hh x2.base x2.pos hn (IsRange.new _ _ _ _ _ _ _) hr fun I' s' g=>q I' s' (g.after (x1.trans x2))
end
end Internal
namespace Internal
section
variable {G:GC} {A:Around} {z:Bool} {env:Env} {own:Own} {O WC:List Addr} {ρ:Rho} {d:D} {Dd:Addr} {c:CK} {elt:Expr} {gens:List Comprehension} {scope:Scope} {pos:Pos} {k:Nat} {out:List D}
theorem znk {s:Shared} (I:Inv G A env own O ρ s) {W:List Addr} (h:∀ a∈W,a=env.locals∨∃ x,(env.kindOf x=some .cell∨env.kindOf x=some .free)∧env.cells.lookup x=some a):zcc O W s.heap:=fun a ma o e=>by
 rcases h a ma with rfl | ⟨x,hx,hc⟩
 ·obtain ⟨m,⟨o',es,ep,e1,e2,_⟩,_⟩:=I.envr.ns
  rw [e1] at e;obtain rfl:=soi e
  exact ⟨zgx e2,fun _=>I.envr.lin⟩
 ·obtain ⟨c,v,e3,⟨o',e1,e2⟩⟩:=I.envr.ce x hx
  rw [hc] at e3;obtain rfl:=soi e3
  rw [e1] at e;obtain rfl:=soi e
  exact ⟨zkf e2,fun _=>(I.envr.cin _ _ hc).1⟩
structure AccOK (G:GC) (env:Env) (own:Own) (O WC:List Addr) (Dd:Addr):Prop where
 dO:Dd∈O
 d0:G.h₀.get? Dd=none
 dl:env.locals≠Dd
 dc:∀ x c,env.cells.lookup x=some c→c≠Dd
 dw:∀ n a,own.at' n=some a→a≠Dd
 wO:∀ a∈WC,a∈O
 wD:Dd∉WC
 wc:∀ a∈WC,a=env.locals∨∃ x,(env.kindOf x=some .cell∨env.kindOf x=some .free)∧env.cells.lookup x=some a
theorem AccOK.turn (a:AccOK G env own O WC Dd) (s:Shared) (pre:List D) (I:Inv G A env own O ρ s) (h:AccAt G c O s.heap Dd pre):zcc O (Dd::WC) s.heap:=fun b m o e=>by
 rcases mcp m with rfl | m
 ·obtain ⟨o',e',mu,_⟩:=h.obj
  rw [e'] at e;obtain rfl:=soi e
  exact ⟨mu,fun _=>a.dO⟩
 ·exact znk I a.wc b m o e
noncomputable abbrev zet (G:GC) (A:Around) (c:CK) (gens:List Comprehension) (scope:Scope) (pos:Pos) (k:Nat) (env:Env) (own:Own) (O WC:List Addr) (Dd:Addr) (ρ:Rho) (out:List D):Prop :=
 ztq G A c (fun K E s=>wpAny (mdl G) A (zjn c gens scope pos k Dd env) (fun _ s5=>K s5) E s) env own O (Dd::WC) Dd ρ out
theorem AccOK.put (a:AccOK G env own O WC Dd) {s s1:Shared} {h':Heap} {tk:Nat} {pre:List D} (I:Inv G A env own O ρ s) (x1:Ext G s s1) (ac:AccAt G c O s1.heap Dd pre) (hs':Heap.SameBut Dd s1.heap h') (tk':0<tk) (ho:∃ o,h'.get? Dd=some o∧zhj o) :
  SExt G (Dd::WC) s { s1 with heap:=h',toks:=tk }∧Inv G A env own O ρ { s1 with heap:=h',toks:=tk }∧KeepBut [Dd] s1.heap h'∧zcc O [Dd] s1.heap:=by
 have I1:=I.ext x1
 obtain ⟨o0,e0,mu,_⟩:=ac.obj
 have ht:zcc O [Dd] s1.heap:=fun b m o e=>by
  rcases msp m with rfl
  rw [e0] at e;obtain rfl:=soi e
  exact ⟨mu,fun _=>a.dO⟩
 have kb:KeepBut [Dd] s1.heap h':=zdm (zat hs')
 have B:Base G h':=x1.base.but (zat hs') (fun b m=>by rcases msp m with rfl;exact a.d0) fun b m o e=>(ht b m o e).1
 have sx:SExt G (Dd::WC) s1 { s1 with heap:=h',toks:=tk }:=⟨⟨_,_,rfl⟩,kb.mono fun b m=>by rcases msp m with rfl;exact mch,B,tk',fun b m e=>zby (fun o q=>zat hs' b o (fun mm=>m (by rcases msp mm with rfl;exact mch)) q) e⟩
 refine ⟨x1.sext.trans sx,⟨I.ok,I.hh,B,tk',I1.ov.but kb fun b m=>?_,I1.envr.but kb ht (fun m=>a.dl (msp m)) (fun y c e m=>a.dc y c e (msp m)) fun n b _ e _ m=>a.dw n b e (msp m)⟩,kb,ht⟩
 rcases msp m with rfl
 exact ho
theorem ybg (a:AccOK G env own O WC Dd) (hg:gens[k+1]?=none) (he:EvOK G A elt env own O ρ d):zet G A (.list elt) gens scope pos k env own O WC Dd ρ [d]:=fun s pre I ac hl K E q=>by
 unfold zjn
 rw [hg]
 obtain ⟨vs,pl,rp⟩:=id ac
 have e1:=rp.length
 simp only [Array.length_toList] at e1
 have hl:pre.length+1≤16777216:=hl
 refine wpAny_bind (he s I _ _ fun v s1 x1 r1=>wpAny_bind (wpAny_list_append_plain (zbd pl x1.keep) (fun h' pl' hs'=>wpAny_pure ?_) (by rw [zay,e1];omega)))
 obtain ⟨sx,I',kb,ht⟩:=a.put (c:=.list elt) I x1 (ac.keep x1.keep) hs' x1.pos (let ⟨n,e⟩:=pl';⟨_,e, .inl nofun⟩)
 refine q _ sx I' ⟨vs.push v,pl', ?_⟩
 rw [Array.toList_push]
 exact ((rp.keep x1.keep).but kb ht).append (.cons (r1.but kb ht) .nil)
theorem ylh {ifs:List Expr} {b:Bool} (ht:zrt G A env own O ρ .And ifs b) (h1:b=true→zet G A c gens scope pos k env own O WC Dd ρ out) (h2:b=false→out=[]) :
  ztq G A c (zkc G A c gens scope pos k ifs Dd env) env own O (Dd::WC) Dd ρ out:=fun s pre I ac hl K E q=>by
 unfold zkc
 refine zwl ht s I _ _ fun s1 x1=>?_
 cases b with
 | true=>exact h1 rfl s1 pre (I.ext x1) (ac.keep x1.keep) hl K E fun s' x' I' ac'=>q s' (x1.sext.trans x') I' ac'
 | false =>
  have:=h2 rfl;subst this
  exact q s1 x1.sext (I.ext x1) (by rw [List.append_nil];exact ac.keep x1.keep)
noncomputable def zjp (e:Expr):Bool:=!(e.ctorIdx==7)
theorem zle {e:Expr} (h:zjp e=true) (env:Env) (x:Value):foldedSetIterable e env x=pure x:=by
 cases e <;> first | rfl | exact ff h
structure GenOK (G:GC) (A:Around) (env:Env) (own:Own) (O WC:List Addr) (Dd:Addr) (c:CK) (gens:List Comprehension) (scope:Scope) (pos:Pos) (k:Nat) (target iter:Expr) (ifs:List Expr) (tg:List Nat) (ρ:Rho) (f:D→Option (List D)) (ds:List D):Prop where
 hg:gens[k]?=some ⟨target,iter,ifs,0⟩
 hg':∀ g',gens[k+1]?=some g'→g'.is_async=0
 ht:TargetOK G env own target tg
 hno:∀ n∈tg,ρ.get n=none
 hWC:WOK env G WC tg
 body:∀ x ρ' a,x∈ds→zcn ρ tg x=some ρ'→f x=some a→ztq G A c (zkc G A c gens scope pos k ifs Dd env) env own O (Dd::WC) Dd ρ' a
 bind:∀ x∈ds,(f x).isSome→∃ ρ',zcn ρ tg x=some ρ'
theorem zlw:∀ (ns:List Nat) (ds:List D) (ρ:Rho) (n:Nat),n∉ns→(zbl ρ ns ds).get n=ρ.get n
 | [],_,_,_,_=>by simp [zbl]
 | m::ns,[],_,_,_=>by simp [zbl]
 | m::ns,d::ds,ρ,n,h=>by
  unfold zbl
  rw [zlw ns ds _ n (fun q=>h (mct _ q)),Rho.get_set,if_neg (fun e=>h (by rw [e];exact mch))]
theorem zpk {tg:List Nat} {x:D} {ρ':Rho} (h:zcn ρ tg x=some ρ') (n:Nat) (hn:n∉tg):ρ'.get n=ρ.get n:=by
 rcases zpj h with ⟨m,_,rfl⟩ | ⟨_,xs,_,_,rfl⟩
 ·rw [Rho.get_set,if_neg (fun e=>hn (by rw [e];exact mch))]
 ·exact zlw _ _ _ _ hn
theorem GenOK.loop {target iter:Expr} {ifs:List Expr} {tg:List Nat} {f:D→Option (List D)} {ds:List D} (g:GenOK G A env own O WC Dd c gens scope pos k target iter ifs tg ρ f ds) (a:AccOK G env own O WC Dd) {I:Addr} {fp wr:List Addr} {vs:List Value} {es:List D} {St:Nat→Heap→Prop} {P Md:Nat→Value→Heap→Prop}
  (it:IterOK G A z target I fp wr ds vs es St P Md) {s:Shared} {pre:List D} {R:Result→Shared→Prop} (st:St 0 s.heap) (rv:VReps G.w O s.heap vs es) (hfp:∀ b∈fp,b∉Dd::WC) (hwO:∀ b∈wr,b∉O) (hw0:∀ b∈wr,G.h₀.get? b=none) (hfe:∀ b∈fp,∃ o,s.heap.get? b=some o)
  (hz:z=true→(∀ n d,ρ.get n=some d→zbm d=true)∧(∀ d∈es,zbm d=true)∧∀ d∈pre++out,zbm d=true) (hf:zcs f ds=some out) (Iv:Inv G A env own O ρ s) (ac:AccAt G c O s.heap Dd pre) (hlen:pre.length+out.length≤zsx c)
  (q:∀ s',SExt G (wr++Dd::WC) s s'→Inv G A env own O ρ s'→AccAt G c O s'.heap Dd (pre++out)→R (.ok .next) s') :
  codeAny (mdl G) A (.compStart (c.expr gens scope pos) k (.ref I) (.ref Dd) env) R s:=by
 have L:codeAny (mdl G) A (.compLoop (c.expr gens scope pos) k (.ref I) (.ref Dd) env) R s :=
  zzn (W:=Dd::WC) g.hg g.hg' g.ht g.hno g.hWC a.wD (fun b m=>mct _ m) it st rv hfp hwO hw0 hfe a.dO (fun b m=>(mcp m).elim (fun e=>e▸a.dO) (a.wO b)) (fun s pre I h=>a.turn s pre I h) g.body hf g.bind
   (fun x ρ' hb n d hn=>by rw [zpk hb n (fun m=>by rw [g.hno n m] at hn;exact nn hn)];exact hn) hz Iv ac hlen q
 exact zgd g.hg rfl L (it.self 0 s _ _ st L)
theorem zxl {target iter:Expr} {ifs:List Expr} {tg:List Nat} {f:D→Option (List D)} {ds:List D} (a:AccOK G env own O WC Dd) (g:GenOK G A env own O WC Dd c gens scope pos (k+1) target iter ifs tg ρ f ds) (hs:zjx G A false iter env own O ρ target ds true) (hns:zjp iter=true)
  (hf:zcs f ds=some out):zet G A c gens scope pos k env own O WC Dd ρ out:=fun s pre I ac hl K E q=>by
 unfold zjn
 rw [g.hg]
 refine wpAny_bind (wpAny_mono (hs s I (fun it s'=>wpAny (mdl G) A (runOwn (.compStart (c.expr gens scope pos) (k+1) it (.ref Dd) env) env >>= fun _=>pure ()) (fun _ s5=>K s5) E s') E ?_) (fun x s1 h1=>?_) fun _ _ e=>e)
 ·intro I' s' got
  obtain ⟨fp,wr,vs',es,St,P,Md,it,st,rv,h1,h2,h3,_⟩:=got.it
  have I1:=I.ext got.ext
  have hW:=a.turn s' pre I1 (ac.keep got.ext.keep)
  have hWO:∀ b∈Dd::WC,b∈O:=fun b m=>(mcp m).elim (fun e=>e▸a.dO) (a.wO b)
  refine wpAny_bind (wpAny_runOwn (g.loop a it st rv (fun b m mW=>?_) (fun b m mO=>?_) (fun b m=>?_) h2 (fun q=>Bool.noConfusion q) hf I1 (ac.keep got.ext.keep) hl fun s2 x2 I2 ac2=>wpAny_pure ?_))
  ·rcases h3 b m with h | h | ⟨us,h⟩
   ·obtain ⟨o,e,_⟩:=I.ov b (hWO b mW);rw [h] at e;exact nn e
   ·exact h rfl (hWO b mW)
   ·obtain ⟨o,e,c,n,hd⟩:=h
    exact (hW b mW o e).1.1 _ _ c hd
  ·obtain ⟨o,e,_⟩:=I.ov b mO;rw [h1 b m] at e;exact nn e
  ·exact zby (fun o e=>I.base.keep b o e) (h1 b m)
  ·refine q s2 ?_ I2 ac2
   obtain ⟨hh,tk,e2⟩:=x2.same
   have x3:=got.ext.sext.trans x2
   refine ⟨x3.same,fun b o m e c=>x3.keep b o (fun mm=>?_) e c,x3.base,x3.pos,fun b m e=>?_⟩
   ·rcases map2 mm with mm | mm
    ·rw [h1 b mm] at e;exact nn e
    ·exact m mm
   ·by_cases mm:b∈wr
    ·exact h1 b mm
    ·exact x3.back b (fun q=>(map2 q).elim mm m) e
 ·refine wpAny_bind (wpAny_standAt (wpAny_bind (wpAny_of_eq (zle hns env x) (wpAny_bind (wpAny_holding h1)))))
end
end Internal
namespace Internal
section
variable {G:GC} {A:Around} {z:Bool} {env:Env} {own:Own} {O:List Addr} {ρ:Rho} {d:D} {out:List D}
noncomputable def wcOf (scope:Scope) (cenv:Env):List Addr:=cenv.locals::scope.names.filterMap fun p=>if p.2==.cell then cenv.cells.lookup p.1 else none
theorem zqj {nm:List Str} {T:List Nat} {scope:Scope} {cenv:Env} (hfn:env.scope.kind=.function) (hs:zfx nm env.scope.names scope.names T=true) (hc:cenv.scope=relabel scope env) {x:Str} (m:(x,NameKind.cell)∈scope.names):cenv.kindOf x=some .cell:=by
 obtain ⟨so,_⟩:=bap hs
 have q:=latp so _ m
 simp only [zed,Bool.and_eq_true,beq_iff_eq] at q
 show cenv.scope.names.lookup x=_
 rw [hc,zec hfn,zfw,q.1]
 rfl
noncomputable def CK.new (c:CK):Sem Value:=match c with
 | .list _=>newList []
 | .dict _ _=>newDict
theorem CK.new_ok {c:CK} {s:Shared} {Q:Value→Shared→Prop} {E:Value→Shared→Prop} (hs:(s.heap.objs.size==sysModules)=false) (h:∀ o:Obj,o.isFreed=false→(∀ O,AccAt G c O (s.heap.push o) s.heap.objs.size [])→Q (.ref s.heap.objs.size) { s with heap:=s.heap.push o }):wpAny (mdl G) A c.new Q E s:=by
 cases c with
 | list elt=>exact wpAny_newObj_type (h _ rfl fun O=>⟨#[],⟨0,Heap.get?_push_size _ rfl⟩, .nil⟩) (by size_fits)
 | dict kx vx=>exact wpAny_newObj_type (h _ rfl fun O=>⟨⟨[],Heap.DictOf.new s.heap, .nil⟩,rfl,hs⟩) (by size_fits)
theorem ylo {c:CK} {target iter:Expr} {ifs:List Expr} {rest:List Comprehension} {scope:Scope} {pos pos':Pos} {T tg:List Nat} {f:D→Option (List D)} {ds:List D} {strict:Bool} {s:Shared} {use:Option (Value→Sem Unit)} {Q:Value→Shared→Prop} {E:Value→Shared→Prop}
  (Iv:Inv G A env own O ρ s) (hsrc:zjx G A z iter env own O ρ target ds strict) (hns:zjp iter=true) (hk:scope.kind=.function) (hs:zfx G.names env.scope.names scope.names T=true)
  (hgen:∀ cenv O' D,cenv.scope=relabel scope env→AccOK G cenv own O' (wcOf scope cenv) D→GenOK G A cenv own O' (wcOf scope cenv) D c (⟨target,iter,ifs,0⟩::rest) scope pos 0 target iter ifs tg (ρ.del T) f ds)
  (hz:z=true→(∀ n d,ρ.get n=some d→zbm d=true)∧∀ d∈out,zbm d=true) (hf:zcs f ds=some out) (hlen0:ds.length≤16777216→out.length≤zsx c)
  (fin:∀ C D s',out.length≤zsx c→Ext G s s'→C≠D→s.heap.get? C=none→s.heap.get? D=none→G.h₀.get? C=none→G.h₀.get? D=none→(∃ m,s'.heap.Ns C m)→AccAt G c (C::D::O) s'.heap D out →
   Inv G A env own (C::D::O) ρ s'→compPost (mdl G) A E use Q (.ref D) C (.ok .next) s') :
  wpAny (mdl G) A (comprehension (c.expr (⟨target,iter,ifs,0⟩::rest) scope pos) scope env pos' c.new false (eval iter env) use) Q E s:=by
 have hnames:∀ x∈scope.names,x.2=.local→scope.names.lookup x.1=some .local:=fun x m e=>by
  obtain ⟨so,_⟩:=bap hs
  have q:=latp so _ m
  obtain ⟨y,kd⟩:=x
  have e:kd=.local:=e
  subst e
  simp only [zed,Bool.and_eq_true,beq_iff_eq] at q
  exact q.1
 have hfree:∀ p∈scope.names,p.2=.free→∃ c,env.cells.lookup p.1=some c:=fun x m e=>by
  obtain ⟨so,_⟩:=bap hs
  have q:=latp so _ m
  obtain ⟨y,kd⟩:=x
  have e:kd=.free:=e
  subst e
  simp only [zed,Bool.or_eq_true,beq_iff_eq] at q
  obtain ⟨c,v,h,_⟩:=Iv.envr.ce y q
  exact ⟨c,h⟩
 obtain ⟨cl,hcl,cl1,cl2⟩:=zxa hfree
 refine wpAny_comprehension_free (g:=⟨target,iter,ifs,0⟩) (gs:=rest) (c.clauses _ _ _) (fun x=>zle hns env x) hcl hk hnames (hsrc s Iv _ _ fun I s2 got=>?_)
 obtain ⟨fp,wr,vs',es,St,P,Md,it,st,rv,h1,h2,h3,h4z⟩:=got.it
 have I2:=Iv.ext got.ext
 have hlen:=hlen0 got.len
 refine CK.new_ok (by
  obtain ⟨om,_,_,em,_⟩:=I2.ok.g
  have h1:sysModules<mainGlobals:=by decide
  have h2:sysModules<s2.heap.objs.size:=Nat.lt_trans h1 (Heap.lt_size (I2.base.keep _ _ em))
  exact beq_eq_false_iff_ne.mpr (Nat.ne_of_gt h2)) fun o0 hfr hacc=>?_
 show wpAny _ _ (newFunctionEnv scope env.globals cl [] env.qual none .none (some env)) _ _ _
 refine zsf ?_
 dsimp only
 have k3:∀ b o,s2.heap.get? b=some o→(s2.heap.push o0).get? b=some o:=fun b o e=>Heap.get?_push_of_some _ e
 have hsz3:(s2.heap.push o0).objs.size=s2.heap.objs.size+1:=Heap.size_push ..
 obtain ⟨N,n1,n2,n4,n5,n6,n7,n8⟩:=zzm (T:=T) (D:=s2.heap.objs.size) (h3:=s2.heap.push o0)
  (cenv:={ scope:=relabel scope env,locals:=(s2.heap.push o0).objs.size,globals:=env.globals,cells:=cellsFrom ((s2.heap.push o0).objs.size+1) scope.names cl,qual:=env.qual,func:=none,code:=env.code,frame:=env.frame,builtins:=env.builtins })
  I2 hs hk cl1 cl2 (zak _) k3 (by rw [hsz3];exact Nat.lt_succ_self _) (by rw [hsz3];exact Nat.le_succ _) rfl ⟨rfl,rfl,rfl,rfl,rfl⟩
 generalize hH3:s2.heap.push o0=H3 at *
 generalize hH4:pushCells (H3.push { cls:=.type "dict",data:=.dict #[] }) scope.names=H4 at *
 generalize hce:({ scope:=relabel scope env,locals:=H3.objs.size,globals:=env.globals,cells:=cellsFrom (H3.objs.size+1) scope.names cl,qual:=env.qual,func:=none,code:=env.code,frame:=env.frame,builtins:=env.builtins }:Env)=cenv at *
 have hcs:cenv.scope=relabel scope env:=by rw [← hce]
 have hcl':cenv.locals=H3.objs.size:=by rw [← hce]
 have k4:∀ b o,s2.heap.get? b=some o→H4.get? b=some o:=fun b o e=>by rw [← hH4];exact pushCells_keeps _ _ _ _ (Heap.get?_push_of_some _ (k3 b o e))
 have hD4:AccAt G c (N++s2.heap.objs.size::O) H4 s2.heap.objs.size []:=(hacc _).move (fun o e=>by rw [← hH4];exact pushCells_keeps _ _ _ _ (Heap.get?_push_of_some _ e)) fun vs r=>by rw [r.nil_inv];exact .nil
 have x24:Ext G s2 { s2 with heap:=H4 }:=.all (t:=s2.toks) I2.base k4 I2.pos
 have frN:∀ a∈N,s2.heap.get? a=none:=fun a m=>zfn (Nat.le_trans (by rw [hsz3];exact Nat.le_succ _) (n1 a m))
 have fr0:∀ a,s2.heap.get? a=none→G.h₀.get? a=none:=fun a e=>zby (fun o q=>I2.base.keep a o q) e
 have hCD:H3.objs.size≠s2.heap.objs.size:=by rw [hsz3];exact Nat.succ_ne_self _
 have hov:OVal (N++s2.heap.objs.size::O) H4:=fun a m=>by
  rcases map2 m with m | m
  ·exact n8 a m
  ·rcases mcp m with rfl | m
   ·obtain ⟨o,e,_,q⟩:=hD4.obj;exact ⟨o,e,q⟩
   ·obtain ⟨o,e,q⟩:=I2.ov a m;exact ⟨o,k4 a o e,q⟩
 have wN:∀ a∈wcOf scope cenv,a∈N:=fun a m=>by
  rcases mcp m with rfl | m
  ·rw [hcl'];exact n2
  ·obtain ⟨p,hp,e⟩:=List.mem_filterMap.mp m
   split at e
   ·rename_i c
    obtain ⟨y,kd⟩:=p
    have c:kd=.cell:=by simpa using c
    subst c
    exact n4 y a hp e
   ·exact nn e
 have acc:AccOK G cenv own (N++s2.heap.objs.size::O) (wcOf scope cenv) s2.heap.objs.size:=by
  refine ⟨List.mem_append_right _ mch,fr0 _ (zak _),by rw [hcl'];exact hCD,n7,fun n a e q=>?_,fun a m=>List.mem_append_left _ (wN a m),fun m=>?_,fun a m=>?_⟩
  ·obtain ⟨o,e',_⟩:=I2.ov a (I2.envr.oin n a e)
   rw [q,zak] at e';exact nn e'
  ·have:=n1 _ (wN _ m)
   rw [hsz3] at this
   exact Nat.not_succ_le_self _ this
  ·rcases mcp m with rfl | m
   ·exact .inl rfl
   ·obtain ⟨p,hp,e⟩:=List.mem_filterMap.mp m
    split at e
    ·rename_i c
     obtain ⟨y,kd⟩:=p
     have c:kd=.cell:=by simpa using c
     subst c
     exact .inr ⟨y, .inl (zqj I2.envr.fn hs hcs hp),e⟩
    ·exact nn e
 have gen:=hgen cenv _ _ hcs acc
 have grow:∀ a∈N++[s2.heap.objs.size],s2.heap.get? a=none:=fun a m=>(map2 m).elim (frN a) fun m=>by rw [msp m];exact zak _
 have assoc:∀ O:List Addr,(N++[s2.heap.objs.size])++O=N++s2.heap.objs.size::O:=fun O=>by simp
 have rv4:VReps G.w (N++s2.heap.objs.size::O) H4 vs' es:=by
  have:=(rv.news grow).keep (.of k4)
  rw [assoc] at this
  exact this
 refine gen.loop (pre:=[]) acc it (it.turns.frame 0 _ _ st fun b m o e=>k4 b o e) rv4 (fun b m mW=>?_) (fun b m mO=>?_) (fun b m=>zby (fun o q=>Iv.base.keep b o q) (h1 b m)) (fun b m=>let ⟨o,e⟩:=h2 b m;⟨o,k4 b o e⟩) (fun q=>⟨fun n d e=>(hz q).1 n d (Rho.get_of_del e),h4z q,(hz q).2⟩) hf ⟨I2.ok,I2.hh,x24.base,I2.pos,hov,n5⟩ hD4 (by simpa using hlen) fun s' x2 I' ac'=>?_
 ·obtain ⟨o,e⟩:=h2 b m
  rcases mcp mW with rfl | mW
  ·rw [zak] at e;exact nn e
  ·have:=frN b (wN b mW);rw [this] at e;exact nn e
 ·obtain ⟨o,e⟩:=h2 b (it.turns.sub b m)
  rcases map2 mO with mO | mO
  ·rw [frN b mO] at e;exact nn e
  ·rcases mcp mO with rfl | mO
   ·rw [zak] at e;exact nn e
   ·obtain ⟨o',e',_⟩:=Iv.ov b mO;rw [h1 b m] at e';exact nn e'
 ·have frs:∀ a,s2.heap.get? a=none→s.heap.get? a=none:=fun a e=>got.ext.back a e
  have hC2:s2.heap.get? H3.objs.size=none:=frN _ n2
  have xs:Ext G s s':=((got.ext.trans x24).sext.trans x2).ext fun a m=>by
   rcases map2 m with m | m
   ·exact h1 a m
   ·rcases mcp m with rfl | m
    ·exact frs _ (zak _)
    ·exact frs _ (frN a (wN a m))
  obtain ⟨mm,hmm,_⟩:=I'.envr.ns
  rw [hcl'] at hmm
  have gr:∀ a∈[H3.objs.size,s2.heap.objs.size],s.heap.get? a=none:=fun a m=>by
   rcases mcp m with rfl | m
   ·exact frs _ hC2
   ·rw [msp m];exact frs _ (zak _)
  refine fin H3.objs.size s2.heap.objs.size s' hlen xs hCD (frs _ hC2) (frs _ (zak _)) (fr0 _ hC2) (fr0 _ (zak _)) ⟨mm,hmm⟩ (AccAt.sub (O:=N++s2.heap.objs.size::O) ac' fun a m=>?_) ⟨Iv.ok,Iv.hh,xs.base,xs.pos,fun a m=>?_,(Iv.envr.news gr).keep xs.keep⟩
  ·rcases mcp m with rfl | m
   ·exact List.mem_append_left _ n2
   ·exact List.mem_append_right _ m
  ·rcases mcp m with rfl | m
   ·obtain ⟨o,es,ep,e,dd,_⟩:=hmm;exact ⟨o,e, .inr fun vs q=>by rw [dd] at q;cases q⟩
   ·rcases mcp m with rfl | m
    ·obtain ⟨o,e,_,q⟩:=AccAt.obj ac';exact ⟨o,e,q⟩
    ·exact Iv.ov.keep xs.keep a m
theorem ztx {c:CK} {C D:Addr} {s s':Shared} {Q:Value→Shared→Prop} {E:Value→Shared→Prop} (x:Ext G s s') (hCD:C≠D) (hC:s.heap.get? C=none) (hC0:G.h₀.get? C=none) (hm:∃ m,s'.heap.Ns C m) (ac:AccAt G c (C::D::O) s'.heap D out)
  (q:∀ s',Ext G s s'→AccAt G c (D::O) s'.heap D out→Q (.ref D) s'):compPost (mdl G) A E none Q (.ref D) C (.ok .next) s':=by
 obtain ⟨m,hm⟩:=hm
 refine ⟨m,hm,fun h' hs'=>?_⟩
 obtain ⟨o,es,ep,e,dd,_⟩:=hm
 have ht:zcc (C::D::O) [C] s'.heap:=fun b m o' e'=>by
  rcases msp m with rfl
  rw [e] at e';obtain rfl:=soi e'
  exact ⟨zgx dd,fun _=>mch⟩
 have kb:KeepBut [C] s'.heap h':=zdm (zat hs')
 have B:Base G h':=x.base.but (zat hs') (fun b m=>by rcases msp m with rfl;exact hC0) fun b m o e=>(ht b m o e).1
 have x2:SExt G [C] s' { s' with heap:=h' }:=⟨⟨_,_,rfl⟩,kb,B,x.pos,fun b m e=>zby (fun o q=>zat hs' b o m q) e⟩
 have x3:Ext G s { s' with heap:=h' }:=(x.sext.trans x2).ext fun a m=>by rcases msp m with rfl;exact hC
 exact q _ x3 ((ac.but kb ht fun m=>hCD (msp m).symm).sub fun a m=>mct _ m)
theorem ygl {elt:Expr} {D:Addr} {s s':Shared} (hD:s.heap.get? D=none) (ov:OVal O s.heap) (hl:out.length≤16777216) (ac:AccAt G (.list elt) (D::O) s'.heap D out):VRep G.w O s'.heap (.ref D) (.list out):=by
 obtain ⟨vs,pl,r⟩:=ac
 exact .list_of hl (ov.new hD) pl.isList (fun o e=>by obtain ⟨n,e'⟩:=pl;rw [e] at e';obtain rfl:=soi e';rfl) (r.sub fun a m=>mct _ m)
end
end Internal
namespace Internal
section
variable {G:GC} {A:Around} {env:Env} {own:Own} {O WC:List Addr} {ρ:Rho} {Dd:Addr} {gens:List Comprehension} {scope:Scope} {pos:Pos} {k:Nat} {out:List D}
theorem zxc (pre:List D) (x y:Str):znx (pre++[.tuple [.str x, .str y]])=putS (znx pre) x y:=by
 unfold znx;rw [List.foldl_append];rfl
theorem zxm {kx vx:Expr} {x y:Str} (a:AccOK G env own O WC Dd) (hg:gens[k+1]?=none) (hk:EvOK G A kx env own O ρ (.str x)) (hv:EvOK G A vx env own O ρ (.str y)):zet G A (.dict kx vx) gens scope pos k env own O WC Dd ρ [.tuple [.str x, .str y]]:=fun s pre I ac hl K E q=>by
 unfold zjn
 rw [hg]
 show wpAny _ _ (eval kx env >>= _) _ _ _
 refine wpAny_bind (hk s I _ _ fun v1 s1 x1 r1=>?_)
 have hs1:=r1.sok
 obtain ⟨t1,rfl⟩:=r1.str_inv
 refine wpAny_bind (wpAny_holding (hv s1 (I.ext x1) _ _ fun v2 s2 x2 r2=>?_))
 have hs2:=r2.sok
 obtain ⟨t2,rfl⟩:=r2.str_inv
 refine wpAny_bind (wpAny_standAt (wpAny_holding ?_))
 have x12:=x1.trans x2
 have ac2:=ac.keep x12.keep
 obtain ⟨⟨kvs,dof,sv⟩,al,nsys⟩:=id ac2
 have hl:pre.length+1≤1000:=hl
 have hkl:kvs.length≤1000:=by
  rw [sv.len];exact Nat.le_trans (zld pre []) (Nat.le_trans (Nat.le_of_eq (Nat.zero_add _)) (Nat.le_of_succ_le hl))
 refine wpAny_dictSet_pairs (k:=x) (Value.isStrOf_refl x t1) dof (fun h' d' hs'=>?_) (Nat.le_trans hkl (by decide))
 obtain ⟨sx,I',_,_⟩:=a.put (c:=.dict kx vx) (tk:=s2.toks+1) I x12 ac2 hs' (Nat.succ_pos _) (by obtain ⟨o,es,ep,e,c,_⟩:=d';exact ⟨o,e, .inl (by rw [c.1];nofun)⟩)
 refine q _ sx I' ⟨⟨_,d', ?_⟩, ?_,nsys⟩
 ·rw [zxc];exact sv.put
 ·rw [List.all_append,al]
  show (true&&((sok (.str x)&&sok (.str y))&&true))=true
  rw [hs1,hs2];rfl
theorem SV.kvs {a:List (Str × Value)} {b:List (Str × Str)} (x:SV a b):KVs b a:=by
 induction x with
 | nil=>exact .nil
 | cons _ ih=>exact .cons ⟨rfl,_,rfl⟩ ih
theorem yhv {kv:List (Str × Str)} {k v:Str} (h:∀ p∈kv,sok (.str p.1)=true∧sok (.str p.2)=true) (hk:sok (.str k)=true) (hv:sok (.str v)=true):∀ p∈putS kv k v,sok (.str p.1)=true∧sok (.str p.2)=true:=fun p m=>by
 unfold putS at m
 by_cases c:kv.any (fun p=>decide (p.1=k))=true
 ·rw [if_pos c] at m
  obtain ⟨p',m',rfl⟩:=mmp m
  by_cases e:p'.1=k
  ·rw [if_pos e];exact ⟨(h p' m').1,hv⟩
  ·rw [if_neg e];exact h p' m'
 ·rw [if_neg c] at m
  rcases map2 m with m | m
  ·exact h p m
  ·rw [msp m];exact ⟨hk,hv⟩
theorem zpx:∀ {pre:List D} {kv:List (Str × Str)},pre.all zlj=true→(∀ p∈kv,sok (.str p.1)=true∧sok (.str p.2)=true)→∀ p∈pre.foldl zox kv,sok (.str p.1)=true∧sok (.str p.2)=true
 | [],_,_,h=>h
 | d::pre,kv,a,h=>by
  obtain ⟨a1,a2⟩:=bap (show (zlj d&&pre.all zlj)=true from a)
  refine zpx (kv:=zox kv d) a2 ?_
  unfold zlj at a1
  unfold zox
  cases e:yhr d with
  | some p =>
   rw [e] at a1
   obtain ⟨b1,b2⟩:=bap (show (sok (.str p.1)&&sok (.str p.2))=true from a1)
   exact yhv h b1 b2
  | none=>rw [e] at a1;exact absurd a1 Bool.false_ne_true
theorem zwg:∀ {kv:List (Str × Str)},(∀ p∈kv,sok (.str p.1)=true∧sok (.str p.2)=true)→sok (.dict (kv.map fun p=>(.str p.1, .str p.2)))=true
 | [],_=>rfl
 | p::kv,h=>by
  show (sok (.str p.1)&&sok (.str p.2)&&zyh _)=true
  rw [(h p (.head _)).1,(h p (.head _)).2]
  exact zwg fun q m=>h q (.tail _ m)
theorem ygk {kx vx:Expr} {s s':Shared} (hD:s.heap.get? Dd=none) (ov:OVal O s.heap) (ac:AccAt G (.dict kx vx) (Dd::O) s'.heap Dd out):VRep G.w O s'.heap (.ref Dd) (.dict ((znx out).map fun p=>(.str p.1, .str p.2))):=by
 obtain ⟨⟨kvs,⟨o,es,ep,e1,e2,e3,e4,e5,e6⟩,sv⟩,al,nsys⟩:=ac
 obtain ⟨r1,r2⟩:=zlt (h:=s'.heap) e5 sv.kvs
 have rd:Reads s'.heap (.ref Dd) (.dict ((znx out).map fun p=>(.str p.1, .str p.2))) (Dd::[]++[]):=by
  refine .dict e1 e2.1 e3 ?_ ?_
  ·rw [List.map_map];exact r1
  ·rw [List.map_map];exact r2
 refine ⟨_,rd,fun a m=>?_,zwg (zpx al fun _ m=>nomatch m)⟩
 obtain rfl:=msp m
 refine ⟨ov.new hD,fun o' e'=>?_⟩
 rw [e1] at e';obtain rfl:=soi e'
 refine ⟨e2.2.1,fun es' n' q'=>?_⟩
 rw [e3] at q';cases q'
 refine ⟨nsys,e2,fun e he=>?_,zls e5 e6⟩
 obtain ⟨k,k1,k2⟩:=e4 e (Array.mem_toList_iff.mp he)
 obtain ⟨t,ht⟩:=Value.isStrOf_shape k1
 exact ⟨k,t,ht,k2⟩
end
end Internal
namespace Internal
noncomputable def zyr (l:List Str) (x:Str):List Str:=if l.any (· == x) then l else l++[x]
noncomputable def zek (ss:List Str) (i:Nat):List Str:=(ss.take i).foldl zyr []
theorem zhm {ss:List Str} {i:Nat} {x:Str} (h:ss[i]?=some x):zek ss (i+1)=zyr (zek ss i) x:=by
 unfold zek
 rw [List.take_add_one,h,List.foldl_append];rfl
theorem ydu (l:List Str) (x k:Str):(zyr l x).any (· == k)=(l.any (· == k) || decide (k=x)):=by
 unfold zyr
 by_cases c:l.any (· == x)=true
 ·rw [if_pos c]
  by_cases e:k=x
  ·subst e;rw [c,decide_eq_true rfl];rfl
  ·rw [decide_eq_false e,Bool.or_false]
 ·rw [if_neg c,List.any_append]
  have:([x]:List Str).any (· == k)=decide (k=x):=by
   show ((x==k) || false)=_
   rw [Bool.or_false,Bool.eq_iff_iff,beq_iff_eq,decide_eq_true_iff];exact eq_comm
  rw [this]
theorem zrm (l:List Str) (x:Str):(zyr l x).length=if l.any (· == x) then l.length else l.length+1:=by
 unfold zyr
 by_cases c:l.any (· == x)=true
 ·rw [if_pos c,if_pos c]
 ·rw [if_neg c,if_neg c,List.length_append];rfl
theorem zlb (ss:List Str):∀ i,(zek ss i).length≤i
 | 0=>Nat.le_refl _
 | i+1=>by
  cases h:ss[i]? with
  | none =>
   have:zek ss (i+1)=zek ss i:=by unfold zek;rw [List.take_add_one,h];simp
   rw [this];exact Nat.le_succ_of_le (zlb ss i)
  | some x =>
   rw [zhm h,zrm]
   have:=zlb ss i
   split <;> omega
section
variable {prog:Program} {w:World} {A:Around} {R:Result→Shared→Prop} {I:Addr} {fp wr:List Addr} {Gn:Array GenState→Array GenState→Prop} {n:Nat} {P:Nat→Value→Prop} {St:Nat→Shared→Prop}
noncomputable abbrev SetT (prog:Program) (w:World) (S:Addr) (l:List Str) (h:Heap):Prop:=h.SetOf (PySem.strKind prog w) S (fun k=>l.any (· == k)) l.length
theorem yih (W:WalksS prog w A.in1 I fp wr Gn n P St) (S:Addr) (hSf:S∉fp) (ss:List Str) (hval:∀ i v,i<n→P i v→∃ x t,ss[i]?=some x∧v=.str x t) (hb:n+1<scanBound) :
  ∀ (k i:Nat) (s:Shared),i+k=n→St i s→SetT prog w S (zek ss i) s.heap →
   (∀ s',Moved (S::wr) Gn s s'→SetT prog w S (zek ss n) s'.heap→R (.ok (.ret .none)) s') →
   codeAny (model prog w) A (.builtin "set.update.loop" ⟨[.ref S, .ref I],[]⟩) R s:=by
 have hSw:S∉wr:=fun h=>hSf (W.sub _ h)
 have hsub:∀ b∈wr,b∈S::wr:=fun b hb=>.tail _ hb
 intro k
 induction k with
 | zero =>
  intro i s hk hst hS hR
  obtain rfl:i=n:=hk
  refine codeAny_builtin PyProof.Rows.F.entry_set_update_loop ?_
  rw [Around.under_plainId PyProof.Rows.F.plain_set_update_loop _]
  show wpAny _ A.in1 (pyNext (.ref I) >>= _) _ _ s
  refine wpAny_bind (W.done s _ _ hst fun s' hm=>?_)
  show wpAny _ A.in1 (ret Value.none) _ _ s'
  exact wpAny_pure (hR s' (hm.mono hsub) (by obtain ⟨o,es,ep,t,ho,rest⟩:=hS;exact ⟨o,es,ep,t,hm.heap S _ hSw ho,rest⟩))
 | succ k ih =>
  intro i s hk hst hS hR
  have hlt:i<n:=by omega
  refine codeAny_builtin PyProof.Rows.F.entry_set_update_loop ?_
  rw [Around.under_plainId PyProof.Rows.F.plain_set_update_loop _]
  show wpAny _ A.in1 (pyNext (.ref I) >>= _) _ _ s
  refine wpAny_bind (W.item i s _ _ hlt hst fun v s' hP hst' hm=>?_)
  obtain ⟨x,t,hx,rfl⟩:=hval i v hlt hP
  have hS':SetT prog w S (zek ss i) s'.heap:=by obtain ⟨o,es,ep,tb,ho,rest⟩:=hS;exact ⟨o,es,ep,tb,hm.heap S _ hSw ho,rest⟩
  show wpAny _ A.in1 (holding [Value.str x t] (setAdd S (.str x t)) >>= _) _ _ s'
  refine wpAny_bind (wpAny_holding ?_)
  unfold setAdd
  refine wpAny_holding (wpAny_bind ((PySem.strKind prog w).pyHash (k:=x) (Value.isStrOf_refl x t) ?_))
  refine wpAny_setAddHashed_of (knd:=PySem.strKind prog w) (s:={ s' with toks:=s'.toks+1 }) (Value.isStrOf_refl x t) rfl hS' (by have:=zlb ss i;omega) fun h' hsb hS2=>?_
  have hSi:SetT prog w S (zek ss (i+1)) h':=PyProof.Rows.SetOf_congr hS2 (fun k'=>by rw [zhm hx,ydu]) (by rw [zhm hx,zrm])
  refine wpAny_pure ⟨plainId_quiet PyProof.Rows.F.plain_set_update_loop _,ih (i+1) _ (by omega) (W.frame _ s' _ _ hst' (Nat.le_succ _) fun b hb o e=>?_) hSi fun s'' hm'' hS''=>?_⟩
  ·rw [hsb.2 b (fun h:b=S=>hSf (by rw [← h];exact hb))];exact e
  ·refine hR s'' (Moved.trans W.gtrans ((hm.mono hsub).then_heap (Nat.le_succ _) fun b o hb e=>?_) hm'') hS''
   rw [hsb.2 b (fun h:b=S=>hb (by rw [h];exact .head _))];exact e
end
end Internal
namespace Internal
section
variable {prog:Program} {w:World} {A:Around} {E:Value→Shared→Prop} {s:Shared}
noncomputable abbrev newS (led:Bool):Obj:={ cls:=.type "set",dict:=none,data:=.set #[] 0 (.fresh 0 0 led) }
set_option maxHeartbeats 2000000 in
theorem znr {l:Addr} {items:Array Value} {ss:List Str} {Q:Value→Shared→Prop} (hh:A.handled=none) (hl:s.heap.IsList l items) (hi:∀ i v,i<items.size→items[i]?=some v→∃ x t,ss[i]?=some x∧v=.str x t) (hb:items.size+1<scanBound)
  (h:∀ (h':Heap) (tk:Nat),SetT prog w s.heap.objs.size (zek ss items.size) h'→(∀ b o,b<s.heap.objs.size→s.heap.get? b=some o→h'.get? b=some o)→Q (.ref s.heap.objs.size) { s with heap:=h',toks:=tk }) :
  wpAny (model prog w) A (call (.type "set") [.ref l]) Q E s:=by
 obtain ⟨c,tl,hmro⟩:=PySem.F.called_set.mro
 have hmade:=PySem.F.called_set.made
 have hsub:=PySem.F.called_set.sub
 refine wpAny_call (codeAny_of_tree ?_)
 show wpAny _ _ (callAny (.type "set") _) _ _ _
 refine wpAny_pure ⟨Code.quiet_builtin _ (by decide +kernel),codeAny_builtin PySem.F.entry_type_call ?_⟩
 rw [Around.under_plain (weight_type_call_type "set" [.ref l] []) rfl]
 have h1:=PySem.F.called_set.notType
 have h2:=PySem.F.called_set.canCreate
 have hct:=PySem.F.typeCall_set_1 (.ref l)
 repeat (any_goals (first | assumption | wp_step))
 refine codeAny_mono (code_set_new_1 (.ref l) (E:=E) (Q₁:=fun obj s₁=>∃ led:Bool,obj=.ref s.heap.objs.size∧s₁={ s with heap:=s.heap.push (newS led) }) fun led=>⟨led,rfl,rfl⟩) fun r s₁ hr=>?_
 rcases r with e | fl
 ·exact hr
 rcases fl with _ | obj | _ | _
 case ret =>
  obtain ⟨led,rfl,rfl⟩:=hr
  have hS:(s.heap.push (newS led)).get? s.heap.objs.size=some (newS led):=Heap.get?_push_size _ rfl
  have hT:Shared.TypeIs { s with heap:=s.heap.push (newS led) } (.ref s.heap.objs.size) "set":=⟨_,hS,rfl⟩
  have hli:=PySem.F.called_set.init.lookup
  have hbi:=PySem.F.called_set.init.bind (.ref s.heap.objs.size)
  repeat (any_goals (first | assumption | wp_step))
  refine codeAny_mono (codeAny_call_builtin (R:=wants (fun r s₂=>r=.none∧∃ h' tk,s₂={ s with heap:=h',toks:=tk }∧SetT prog w s.heap.objs.size (zek ss items.size) h' ∧
    (∀ b o,b<s.heap.objs.size→s.heap.get? b=some o→h'.get? b=some o)) E) PySem.F.called_set.init.plain PySem.F.entry_set_init (check_set_init_1 hT ?_)) fun r₂ s₂ hr₂=>?_
  ·obtain ⟨ol,hol,hcl,nl,hdl⟩:=hl
   obtain ⟨ocls,odict,odata,oslots⟩:=ol
   simp only at hcl hdl
   subst hcl;subst hdl
   have hol':(s.heap.push (newS led)).get? l=some { cls:=.type "list",dict:=odict,data:=.seq items nl,slots:=oslots }:=Heap.get?_push_of_some _ hol
   have hsls:=PySem.F.sub_list_set
   have hslf:=PySem.F.sub_list_frozenset
   have hne:(Value.type "list" == Value.type "dict")=false:=by decide
   have hl1:(s.heap.push (newS led)).IsList l items:=⟨_,hol',rfl,nl,rfl⟩
   unfold Builtin.«set.__init__» noKeywords Builtin.Frozenset.updateFrom
   generalize hPI:pyIter=PI
   wp_walk
   subst hPI
   refine wpAny_pyIter_list hl1 ?_
   refine wpAny_bind (wpAny_runValue ?_)
   have hlS:l<s.heap.objs.size:=Heap.lt_size hol
   have hh3:A.in1.in1.in1.handled=none:=by simp [hh]
   have e1:(s.heap.push (newS led)).objs.size=s.heap.objs.size+1:=Heap.size_push ..
   have hneI:l≠(s.heap.push (newS led)).objs.size:=by rw [e1];exact Nat.ne_of_lt (Nat.lt_succ_of_lt hlS)
   have hSf:s.heap.objs.size∉[(s.heap.push (newS led)).objs.size,l]:=fun m=>by
    rcases mcp m with m | m
    ·exact absurd (m.trans e1) (Nat.ne_of_lt (Nat.lt_succ_self _))
    ·exact absurd (msp m) (Nat.ne_of_gt hlS)
   refine yih ((Walks.list hh3 _ l hneI items).toS) s.heap.objs.size hSf ss (fun i v hlt hv=>hi i v hlt hv) hb items.size 0 _ (Nat.zero_add _)
    ⟨⟨_,Heap.get?_push_size _ rfl,rfl,rfl⟩,(hl1.push _)⟩ ?hS0 ?hR
   case hS0=>exact (PyProof.Rows.setObjOf_fresh (knd:=PySem.strKind prog w) led).setOf (Heap.get?_push_of_some _ hS) (by decide)
   case hR =>
    intro s' hm hS'
    obtain ⟨h',g',d',tk',os'⟩:=s'
    have eg:g'=s.gens:=hm.gens
    have ed:d'=s.drawn:=hm.drawn
    have eo:os'=s.os:=hm.os
    subst eg;subst ed;subst eo
    show wpAny _ _ _ _ _ _
    refine wpAny_pure ?_
    show wpAny _ _ (ret Value.none) _ _ _
    refine wpAny_pure ⟨rfl,h',tk',rfl,hS',fun b o hb e=>hm.heap b o (fun m=>?_) (Heap.get?_push_of_some _ (Heap.get?_push_of_some _ e))⟩
    rcases mcp m with m | m
    ·exact absurd m (Nat.ne_of_lt hb)
    ·exact absurd ((msp m).trans e1) (Nat.ne_of_lt (Nat.lt_succ_of_lt hb))
  ·rcases r₂ with e | fl₂
   ·exact hr₂
   rcases fl₂ with _ | r | _ | _
   case ret =>
    obtain ⟨rfl,h',tk,rfl,hS',hk'⟩:=hr₂
    repeat (any_goals (first | assumption | wp_step))
    exact h _ _ hS' hk'
   all_goals exact hr₂.elim
 all_goals exact hr.elim
end
end Internal
namespace Internal
section
variable {G:GC} {A:Around} {env:Env} {own:Own} {O:List Addr} {ρ:Rho}
theorem ydv {h:Heap}:∀ {ds:List D} {vs:List Value},VReps G.w O h vs ds→ds.all zmr=true→∃ ss:List Str,ds=ss.map PyData.str∧∀ (i:Nat) (v:Value),vs[i]?=some v→∃ x t,ss[i]?=some x∧v=.str x t
 | [],vs,r,_=>⟨[],rfl,fun i v e=>by rw [r.nil_inv] at e;exact nn e⟩
 | d::ds,vs,r,a=>by
  obtain ⟨a1,a2⟩:=bap (show (zmr d&&ds.all zmr)=true from a)
  obtain ⟨u,us,rfl,r1,r2⟩:=r.cons_inv
  obtain ⟨ss,e,k⟩:=ydv r2 a2
  cases d with
  | str x =>
   obtain ⟨t,rfl⟩:=r1.str_inv
   refine ⟨x::ss,by rw [e];rfl,fun i v q=>?_⟩
   cases i with
   | zero=>exact ⟨x,t,rfl,(soi q).symm⟩
   | succ i=>exact k i v q
  | _=>exact ff a1
theorem zye (ss:List Str):setS (ss.map PyData.str)=zek ss ss.length:=by
 unfold setS zek
 rw [List.take_length,List.foldl_map];rfl
theorem zwt (hh:A.handled=none) {x:Expr} {np np2 pos pos2:Pos} {ds:List D} (hk:env.kindOf "len" = some .globalImplicit) (hk2:env.kindOf "set" = some .globalImplicit) (hst:zbh x=true) (h:EvOK G A x env own O ρ (.list ds)) (hs:ds.all zmr=true) (hl:ds.length≤1000) :
  EvOK G A (.Call (.Name "len" np) [.Call (.Name "set" np2) [x] [] pos2] [] pos) env own O ρ (.int (setS ds).length):=fun s I Q E q=>by
 have hm:("len" : Str)∈bltNames:=Bf.len.mem
 refine wpAny_Call_Name_kw (zes I hk (zjj hm) (I.ok.nb _ hm) Bf.len.boot (zjk hm) ?_)
 refine Calls.callWith_builtin (zdh (xs:=[.Call (.Name "set" np2) [x] [] pos2]) rfl pos env) (zbg rfl ?_)
 show wpAny _ _ (spliced [(false,eval (.Call (.Name "set" np2) [x] [] pos2) env)]) _ _ _
 refine spliced_cons ?_
 have hm2:("set" : Str)∈bltNames:=by decide +kernel
 refine wpAny_Call_Name_kw (zes I hk2 (zjj hm2) (I.ok.nb _ hm2) (show bootBuiltins "set" = some (.type "set") by decide +kernel) (zjk hm2) ?_)
 refine PyProof.Rows.callWith_type (zdh (xs:=[x]) (show (zbh x&&true)=true by rw [hst];rfl) pos2 env) (zbg (show (zbh x&&true)=true by rw [hst];rfl) ?_)
 rw [zch hst]
 refine spliced_cons (h s I _ _ fun v s1 x1 r1=>spliced_nil ?_)
 obtain ⟨a,vs,rfl,ha,l,rr⟩:=r1.list_inv
 obtain ⟨ss,rfl,hv⟩:=ydv rr hs
 have e:=rr.length
 simp only [Array.length_toList,List.length_map] at e hl
 show wpAny (mdl G) A (call (.type "set") [.ref a]) _ E s1
 refine znr (ss:=ss) hh l (fun i v _ e=>hv i v (by rw [Array.getElem?_toList];exact e)) (by rw [e];show ss.length+1<4096;omega) fun h' tk hS hk'=>spliced_nil ?_
 have hx:∀ b o,s1.heap.get? b=some o→h'.get? b=some o:=fun b o e=>hk' b o (Heap.lt_size e) e
 obtain ⟨o,es,ep,t,ho,hex,hd,_,_,_,hf,hn⟩:=id hS
 rw [e,← zye] at hn
 show wpAny (mdl G) A (call (.builtin "len") [.ref s1.heap.objs.size]) Q E _
 have hle:(setS (ss.map PyData.str)).length≤1000:=Nat.le_trans (zpy _ []) (by rw [List.length_map,List.length_nil,Nat.zero_add];exact hl)
 refine call_len_set ho hex hd hf (by rw [hn];omega) ?_
 rw [hn]
 refine q _ _ (x1.trans (.all (t:=tk+1+1) x1.base hx (Nat.succ_pos _))) .int
end
end Internal
namespace Internal
section
variable {α:Type}
noncomputable def onL1 (l:List α) (k:α→Bool):Bool:=zcd l fun a r=>zcz r (k a)
@[elab_as_elim] theorem onL1_elim {l:List α} {k:α→Bool} {P:List α→Prop} (h:onL1 l k=true) (q:∀ a,k a=true→P [a]):P l:=by
 refine onCons_elim h fun a r h=>?_
 exact onNil_elim h fun h=>q a h
end
noncomputable def ycn (x:Expr) (k:Str→Bool):Bool:=zee x fun z _ _=>zvv z k
@[elab_as_elim] theorem onStrC_elim {x:Expr} {k:Str→Bool} {P:Expr→Prop} (h:ycn x k=true) (q:∀ y n p,k y=true→P (.Constant (.str y) n p)):P x:=by
 refine onConstant_elim h fun z n p h=>?_
 exact onCStr_elim h fun y h=>q y n p h
noncomputable def ymy (x:Expr) (o:UnaryOp) (k:Expr→Bool):Bool:=zik x fun z y _=>onEq z o (k y)
@[elab_as_elim] theorem onUop_elim {x:Expr} {o:UnaryOp} {k:Expr→Bool} {P:Expr→Prop} (h:ymy x o k=true) (q:∀ y p,k y=true→P (.UnaryOp o y p)):P x:=by
 refine onUnaryOp_elim h fun z y p h=>?_
 exact onEq_elim h fun h=>q y p h
noncomputable def ykb (x:Expr) (k:Expr→CmpOp→Expr→Bool):Bool:=zqv x fun l os rs _=>onL1 os fun o=>onL1 rs fun r=>k l o r
@[elab_as_elim] theorem onCmp1_elim {x:Expr} {k:Expr→CmpOp→Expr→Bool} {P:Expr→Prop} (h:ykb x k=true) (q:∀ l o r p,k l o r=true→P (.Compare l [o] [r] p)):P x:=by
 refine onCompare_elim h fun l os rs p h=>?_
 refine onL1_elim h fun o h=>?_
 exact onL1_elim h fun r h=>q l o r p h
noncomputable def zcy (x:Expr) (k:Str→List Expr→Bool):Bool:=zvw x fun f es ks _=>zcl f fun y _=>zcz ks (k y es)
@[elab_as_elim] theorem onCallN_elim {x:Expr} {k:Str→List Expr→Bool} {P:Expr→Prop} (h:zcy x k=true) (q:∀ y np es p,k y es=true→P (.Call (.Name y np) es [] p)):P x:=by
 refine onCall_elim h fun f es ks p h=>?_
 refine onName_elim h fun y np h=>?_
 exact onNil_elim h fun h=>q y np es p h
noncomputable def zlr (x:Expr) (k:Expr→Str→Pos→List Expr→Pos→Bool):Bool:=zvw x fun f es ks p=>zlq f fun o y ap=>zcz ks (k o y ap es p)
@[elab_as_elim] theorem onCallA_elim {x:Expr} {k:Expr→Str→Pos→List Expr→Pos→Bool} {P:Expr→Prop} (h:zlr x k=true) (q:∀ o y ap es p,k o y ap es p=true→P (.Call (.Attribute o y ap) es [] p)):P x:=by
 refine onCall_elim h fun f es ks p h=>?_
 refine onAttribute_elim h fun o y ap h=>?_
 exact onNil_elim h fun h=>q o y ap es p h
structure Cx where
 nm:List Str
 sc:List (Str × NameKind)
 own:List Nat
noncomputable def zwf (c:Cx) (x:Str):Bool:=match c.sc.lookup x with
 | some .local | some .cell | some .free=>true
 | _=>false
noncomputable def zgm (c:Cx) (n:Nat) (x:Str):Bool:=c.nm[n]?==some x&&zwf c x&&!(x==("__classdict__" : Str))&&!(x==("__debug__" : Str))
noncomputable def zqa (c:Cx) (x:Str):Bool:=c.sc.lookup x==some .globalImplicit&&!(x==("__debug__" : Str))
noncomputable def zhg (c:Cx) (x:Str):Bool:=c.sc.lookup x==some .globalImplicit
noncomputable def zzo:Const→D→Bool
 | .none,d=>match d with | .none=>true | _=>false
 | .bool a,d=>match d with | .bool b=>a==b | _=>false
 | .int a,d=>match d with | .int b=>a==b | _=>false
 | .str a,d=>match d with | .str b=>a==b&&sok (.str a) | _=>false
 | _,_=>false
noncomputable def zvl:List Str→List (Option Expr)→Bool
 | [],ks=>zcz ks true
 | k::r,ks=>zcd ks fun o ks=>zna o fun e=>zee e fun z _ _=>zvv z fun x=>(x==k&&zvl r ks)
noncomputable def zwp:List Str→List Expr→Bool
 | [],ks=>zcz ks true
 | k::r,ks=>zcd ks fun e ks=>zee e fun z _ _=>zvv z fun x=>(x==k&&zwp r ks)
noncomputable def tgNames (c:Cx):List Nat→List Expr→Bool
 | [],es=>zcz es true
 | n::ns,es=>zcd es fun e es=>zcl e fun x _=>(c.nm[n]?==some x&&(c.sc.lookup x==some .local || c.sc.lookup x==some .cell)&&!c.own.contains n&&tgNames c ns es)
noncomputable def tgIs (c:Cx) (ns:List Nat) (e:Expr):Bool:=(zcl e fun x p=>tgNames c ns [.Name x p]&&ns.length==1) || zfv e fun es _ _=>tgNames c ns es&&decide (2≤ns.length)
noncomputable def ynm (src:Src) (tg:Expr):Bool:=match src with
 | .e _=>zbq tg
 | .own _=>zbq tg
 | .range _=>IsNm tg
 | .enum _=>IsTp tg
 | .rev _=>IsNm tg
 | .zip _=>IsTp tg
noncomputable def ybj (src:Src):Bool:=match src with | .own _=>true | _=>false
mutual
noncomputable def chkE (c:Cx):E→Expr→Bool
 | .lit d,x=>zee x fun k w1 w2=>(zzo k d)
 | .var n,x=>zcl x fun y w1=>(zgm c n y&&!c.own.contains n)
 | .glob n,x=>zcl x fun y w1=>(zqa c y&&c.nm[n]?==some y)
 | .bin o a b,x=>ztb x fun l o' r w1=>(decide (o=o')&&chkE c a l&&chkE c b r)
 | .neg a,x=>ymy x .USub fun y=>chkE c a y
 | .inv a,x=>ymy x .Invert fun y=>chkE c a y
 | .cmp o a b,x=>ykb x fun l o' r=>(decide (o=o')&&!behindInMarks o r&&chkE c a l&&chkE c b r)
 | .bop o xs,x=>zvu x fun o' ys w1=>(decide (o=o')&&zfl c xs ys)
 | .ite a b d,x=>ztd x fun t y z w1=>(chkE c a t&&chkE c b y&&chkE c d z)
 | .list xs,x=>ycl x fun es w1=>(zfl c xs es)
 | .tup xs,x=>zfv x fun es w1 w2=>(zfl c xs es)
 | .dict kvs,x=>ykd x fun ks vs w1=>(zzw kvs&&zvl (kvs.map (·.1)) ks&&zwp (kvs.map (·.2)) vs)
 | .comp elt gs,x=>zjc x fun e gens scope w1=>(decide (scope.kind=.function)&&!gens.isEmpty&&zfx c.nm c.sc scope.names (tgs gs)&&decide ((tgs gs).Nodup)&&chkE { c with sc:=relN scope.names c.sc } elt e&&zrz c { c with sc:=relN scope.names c.sc } scope.names true gs gens)
 | .call f args,x=>zcy x fun y es=>(zqa c y&&c.nm[f]?==some y&&zfl c args es)
 | .bf f args,x=>zcy x fun y es=>(decide (y=f.nm)&&zhg c y&&zfl c args es)
 | .mt m o args,x=>zlr x fun ob y ap es p=>(decide (y=m.name)&&zgo ob&&(ap.endLine==p.line)&&decide (es.length<30)&&chkE c o ob&&zfl c args es)
 | .repl a y z,x=>zlr x fun ob n ap es p=>zcd es fun e1 r=>ycn e1 fun y'=>onL1 r fun e2=>ycn e2 fun z'=>(decide (n = "replace")&&decide (y=y')&&decide (z=z')&&!(y==z)&&zgo ob&&(ap.endLine==p.line)&&chkE c a ob)
 | .setlen a,x=>zcy x fun f es=>onL1 es fun e=>zcy e fun f2 es2=>onL1 es2 fun e2=>(decide (f = "len")&&decide (f2 = "set")&&zhg c f&&zhg c f2&&zbh e2&&chkE c a e2)
 | .dcomp k v gs,x=>zmz x fun ke ve gens scope w1=>(decide (scope.kind=.function)&&!gens.isEmpty&&zfx c.nm c.sc scope.names (tgs gs)&&decide ((tgs gs).Nodup)&&chkE { c with sc:=relN scope.names c.sc } k ke&&chkE { c with sc:=relN scope.names c.sc } v ve&&zrz c { c with sc:=relN scope.names c.sc } scope.names true gs gens)
 | .sub a i,x=>zdn x fun v s w1=>(zfu s&&chkE c a v&&chkE c i s)
 | .slc a lo hi st,x=>zdn x fun v z1 w2=>ztf z1 fun l h t w1=>(chkE c a v&&chkO c lo l&&chkO c hi h&&chkO c st t)
 | .olen n,x=>zcy x fun f es=>onL1 es fun z=>zcl z fun y _=>(decide (f = "len")&&zhg c f&&zgm c n y&&c.own.contains n)
 | .oget n i,x=>zdn x fun z1 s w2=>zcl z1 fun y w1=>(zfu s&&zgm c n y&&c.own.contains n&&chkE c i s)
 | .ocall f n args,x=>zcy x fun g es=>zcd es fun z es=>zcl z fun y _=>(zqa c g&&c.nm[f]?==some g&&zgm c n y&&c.own.contains n&&zfl c args es)
noncomputable def zfl (c:Cx):Es→List Expr→Bool
 | .nil,xs=>zcz xs true
 | .cons e r,xs=>zcd xs fun x xs=>(zbh x&&chkE c e x&&zfl c r xs)
noncomputable def chkO (c:Cx):Os→Option Expr→Bool
 | .no,x=>zij x true
 | .yes e,x=>zna x fun y=>(chkE c e y)
noncomputable def zzj (c:Cx):Src→Expr→Bool
 | .e a,x=>zjp x&&chkE c a x
 | .own n,x=>zcl x fun y w1=>(zgm c n y&&c.own.contains n)
 | .range args,x=>zcy x fun y es=>(decide (y = "range")&&zhg c y&&zfl c args es)
 | .enum a,x=>zcy x fun y es=>onL1 es fun e=>(decide (y = "enumerate")&&zhg c y&&zbh e&&chkE c a e)
 | .rev a,x=>zcy x fun y es=>onL1 es fun e=>(decide (y = "reversed")&&zhg c y&&zbh e&&chkE c a e)
 | .zip args,x=>zcy x fun y es=>(decide (y = "zip")&&zhg c y&&zfl c args es)
noncomputable def zrz (c ci:Cx) (orig:List (Str × NameKind)) (top:Bool):Gs→List Comprehension→Bool
 | .nil,gens=>zcz gens true
 | .cons tg src ifs r,gens=>zcd gens fun g gens=>(decide (g.is_async=0)&&tgIs ci tg g.target&&tgIs { ci with sc:=orig } tg g.target&&ynm src g.target&&(top || (!ybj src&&!zeu src))&&zzj c src g.iter&&zfl ci ifs g.ifs&&zrz ci ci orig false r gens)
end
end Internal
namespace Internal
theorem zrv {a b:Bool} {P:Prop} (h:(a&&b)=true) (k:a=true→b=true→P):P:=k ((zae h).1) ((zae h).2)
theorem zhd {a b c:Bool} {P:Prop} (h:(a&&b&&c)=true) (k:a=true→b=true→c=true→P):P:=k ((zae (zae h).1).1) ((zae (zae h).1).2) ((zae h).2)
theorem zkk {a b c d:Bool} {P:Prop} (h:(a&&b&&c&&d)=true) (k:a=true→b=true→c=true→d=true→P):P:=k ((zae (zae (zae h).1).1).1) ((zae (zae (zae h).1).1).2) ((zae (zae h).1).2) ((zae h).2)
theorem zyz {a b c d e:Bool} {P:Prop} (h:(a&&b&&c&&d&&e)=true) (k:a=true→b=true→c=true→d=true→e=true→P):P:=k ((zae (zae (zae (zae h).1).1).1).1) ((zae (zae (zae (zae h).1).1).1).2) ((zae (zae (zae h).1).1).2) ((zae (zae h).1).2) ((zae h).2)
theorem zmc {a b c d e f:Bool} {P:Prop} (h:(a&&b&&c&&d&&e&&f)=true) (k:a=true→b=true→c=true→d=true→e=true→f=true→P):P:=k ((zae (zae (zae (zae (zae h).1).1).1).1).1) ((zae (zae (zae (zae (zae h).1).1).1).1).2) ((zae (zae (zae (zae h).1).1).1).2) ((zae (zae (zae h).1).1).2) ((zae (zae h).1).2) ((zae h).2)
theorem yop {a b c d e f g:Bool} {P:Prop} (h:(a&&b&&c&&d&&e&&f&&g)=true) (k:a=true→b=true→c=true→d=true→e=true→f=true→g=true→P):P:=k ((zae (zae (zae (zae (zae (zae h).1).1).1).1).1).1) ((zae (zae (zae (zae (zae (zae h).1).1).1).1).1).2) ((zae (zae (zae (zae (zae h).1).1).1).1).2) ((zae (zae (zae (zae h).1).1).1).2) ((zae (zae (zae h).1).1).2) ((zae (zae h).1).2) ((zae h).2)
theorem yey {a b c d e f g x:Bool} {P:Prop} (h:(a&&b&&c&&d&&e&&f&&g&&x)=true) (k:a=true→b=true→c=true→d=true→e=true→f=true→g=true→x=true→P):P:=k ((zae (zae (zae (zae (zae (zae (zae h).1).1).1).1).1).1).1) ((zae (zae (zae (zae (zae (zae (zae h).1).1).1).1).1).1).2) ((zae (zae (zae (zae (zae (zae h).1).1).1).1).1).2) ((zae (zae (zae (zae (zae h).1).1).1).1).2) ((zae (zae (zae (zae h).1).1).1).2) ((zae (zae (zae h).1).1).2) ((zae (zae h).1).2) ((zae h).2)
section
variable {G:GC} {A:Around} {S:Sig}
structure CxOK (G:GC) (A:Around) (S:Sig) (c:Cx) (env:Env) (own:Own):Prop where
 nm:c.nm=G.names
 sc:env.scope.names=c.sc
 ow:∀ n,c.own.contains n=true↔n∈own.ns
 fn:env.scope.kind=.function
 F:FunOK G A S.cal
 gl:zhf G S.gl
 hh:A.handled=none
 hu:A.units+100<cLine
variable {c:Cx} {env:Env} {own:Own}
theorem CxOK.name (X:CxOK G A S c env own) {n:Nat} {x:Str} (h:zgm c n x=true):NameOK G env n x:=by
 simp only [zgm,Bool.and_eq_true,beq_iff_eq,Bool.not_eq_true'] at h
 obtain ⟨⟨⟨h1,h2⟩,h3⟩,h4⟩:=h
 refine ⟨X.nm▸h1, ?_,h3,h4⟩
 have e:env.kindOf x=c.sc.lookup x:=by show env.scope.names.lookup x=_;rw [X.sc]
 rw [e]
 unfold zwf at h2
 split at h2
 ·exact ⟨_,by assumption, .inl rfl⟩
 ·exact ⟨_,by assumption, .inr (.inl rfl)⟩
 ·exact ⟨_,by assumption, .inr (.inr rfl)⟩
 ·exact ff h2
theorem CxOK.own' (X:CxOK G A S c env own) {n:Nat} (h:c.own.contains n=true):n∈own.ns:=(X.ow n).mp h
theorem CxOK.nown (X:CxOK G A S c env own) {n:Nat} (h:(!c.own.contains n)=true):n∉own.ns:=fun m=>by
 rw [(X.ow n).mpr m] at h;exact ff h
theorem CxOK.glob (X:CxOK G A S c env own) {x:Str} (h:zqa c x=true):env.kindOf x=some .globalImplicit∧(x==("__debug__" : Str))=false:=by
 simp only [zqa,Bool.and_eq_true,beq_iff_eq,Bool.not_eq_true'] at h
 exact ⟨by show env.scope.names.lookup x=_;rw [X.sc];exact h.1,h.2⟩
theorem CxOK.isG (X:CxOK G A S c env own) {x:Str} (h:zhg c x=true):env.kindOf x=some .globalImplicit:=by
 simp only [zhg,beq_iff_eq] at h
 show env.scope.names.lookup x=_;rw [X.sc];exact h
theorem CxOK.nmOf (X:CxOK G A S c env own) {n:Nat} {x:Str} (h:(c.nm[n]?==some x)=true):G.names[n]?=some x:=X.nm▸bqp h
theorem CxOK.tgNames (X:CxOK G A S c env own):∀ {ns:List Nat} {es:List Expr},Internal.tgNames c ns es=true→TgOK G env own es ns
 | [],es,h=>by
  have h:zcz es true=true:=h
  refine onNil_elim h fun _=>.nil
 | n::ns,es,h=>by
  unfold Internal.tgNames at h
  refine onCons_elim h fun e es h=>?_
  refine onName_elim h fun x _ h=>?_
  ·simp only [Bool.and_eq_true,Bool.or_eq_true,beq_iff_eq] at h
   obtain ⟨⟨⟨h1,h2⟩,h3⟩,h4⟩:=h
   have e:∀ y,env.kindOf y=c.sc.lookup y:=fun y=>by show env.scope.names.lookup y=_;rw [X.sc]
   rcases h2 with h2 | h2
   ·exact .cons (X.nm▸h1) ((e _).trans h2) (.inl rfl) (X.nown h3) (CxOK.tgNames X h4)
   ·exact .cons (X.nm▸h1) ((e _).trans h2) (.inr rfl) (X.nown h3) (CxOK.tgNames X h4)
theorem CxOK.target (X:CxOK G A S c env own) {ns:List Nat} {e:Expr} (h:tgIs c ns e=true):TargetOK G env own e ns:=by
 refine (Bool.or_eq_true_iff.mp h).elim (fun h=>?_) fun h=>?_
 ·refine onName_elim (P:=fun e=>TargetOK G env own e ns) h fun x p h=>?_
  have:=X.tgNames (bap h).1
  cases this with
  | cons h1 h2 h3 h4 h5=>cases h5;exact .name (.cons h1 h2 h3 h4 .nil)
 ·exact onTuple_elim (P:=fun e=>TargetOK G env own e ns) h fun es _ _ h=>.tup (X.tgNames (bap h).1) (of_decide_eq_true (bap h).2)
theorem zgs {nm:List Str} {own:List Nat} {orig:List (Str × NameKind)}:∀ {ns:List Nat} {es:List Expr},Internal.tgNames ⟨nm,orig,own⟩ ns es=true→∀ n∈ns,∃ x,nm[n]?=some x∧(orig.lookup x=some .local∨orig.lookup x=some .cell)
 | [],es,h,n,m=>by cases m
 | k::ns,es,h,n,m=>by
  unfold Internal.tgNames at h
  refine onCons_elim h fun e es h=>?_
  refine onName_elim h fun x _ h=>?_
  ·simp only [Bool.and_eq_true,Bool.or_eq_true,beq_iff_eq] at h
   obtain ⟨⟨⟨h1,h2⟩,h3⟩,h4⟩:=h
   rcases mcp m with rfl | m
   ·exact ⟨_,h1,h2⟩
   ·exact zgs h4 n m
theorem yea {nm:List Str} {own:List Nat} {orig:List (Str × NameKind)} {ns:List Nat} {e:Expr} (h:tgIs ⟨nm,orig,own⟩ ns e=true):∀ n∈ns,∃ x,nm[n]?=some x∧(orig.lookup x=some .local∨orig.lookup x=some .cell):=by
 refine (Bool.or_eq_true_iff.mp h).elim (fun h=>?_) fun h=>?_
 ·exact onName_elim (P:=fun _=>_) h fun x p h=>zgs (bap h).1
 ·exact onTuple_elim (P:=fun _=>_) h fun es _ _ h=>zgs (bap h).1
theorem zmt:∀ {ks:List Str} {es:List (Option Expr)},zvl ks es=true→es.length=ks.length∧∀ (i:Nat) x,ks[i]?=some x→∃ k pp,es[i]?=some (some (.Constant (.str x) k pp))
 | [],es,h=>by
  have h:zcz es true=true:=h
  exact onNil_elim h fun _=>⟨rfl,fun i x e=>(nomatch e)⟩
 | k::r,es,h=>by
  unfold zvl at h
  refine onCons_elim h fun o es h=>?_
  refine onSome_elim h fun o h=>?_
  refine onConstant_elim h fun z _ _ h=>?_
  refine onCStr_elim h fun x h=>?_
  ·obtain ⟨h1,h2⟩:=bap h
   obtain ⟨a,b⟩:=zmt h2
   refine ⟨by simp [a],fun i x e=>?_⟩
   cases i with
   | zero=>simp at e;subst e;rw [bqp h1];exact ⟨_,_,rfl⟩
   | succ i=>simpa using b i x (by simpa using e)
theorem zno:∀ {ks:List Str} {es:List Expr},zwp ks es=true→es.length=ks.length∧∀ (i:Nat) x,ks[i]?=some x→∃ k pp,es[i]?=some (.Constant (.str x) k pp)
 | [],es,h=>by
  have h:zcz es true=true:=h
  exact onNil_elim h fun _=>⟨rfl,fun i x e=>(nomatch e)⟩
 | k::r,es,h=>by
  unfold zwp at h
  refine onCons_elim h fun o es h=>?_
  refine onConstant_elim h fun z _ _ h=>?_
  refine onCStr_elim h fun x h=>?_
  ·obtain ⟨h1,h2⟩:=bap h
   obtain ⟨a,b⟩:=zno h2
   refine ⟨by simp [a],fun i x e=>?_⟩
   cases i with
   | zero=>simp at e;subst e;rw [bqp h1];exact ⟨_,_,rfl⟩
   | succ i=>simpa using b i x (by simpa using e)
theorem t_f {P:Prop} (h:true=false):P:=Bool.noConfusion h
theorem f_t {P:Prop} (h:false=true):P:=Bool.noConfusion h
theorem n_s {α:Type} {x:α} {P:Prop} (h:(none:Option α)=some x):P:=Option.noConfusion rfl (heq_of_eq h)
theorem zjb {b:Bool} (h:(!b)=true):b=false:=by cases b;rfl;exact ff h
structure Both (G:GC) (A:Around) (S:Sig) (e0:E) (x:Expr) (env:Env) (own:Own) (O:List Addr) (ρ:Rho):Prop where
 e:∀ d,ev S ρ e0=some d→EvOK G A x env own O ρ d
 t:∀ b,evT S ρ e0=some b→TrOK G A x env own O ρ b
theorem Both.plain {e:E} {x:Expr} {O:List Addr} {ρ:Rho} (hp:yct x=true) (h:∀ d,ev S ρ e=some d→EvOK G A x env own O ρ d) (ht:evT S ρ e=(ev S ρ e).bind truth):Both G A S e x env own O ρ :=
 ⟨h,fun b hb=>zaq (ht▸hb) fun d h1 h2=>yrj hp (h d h1) h2⟩
theorem Both.none {e:E} {x:Expr} {O:List Addr} {ρ:Rho} (h:∀ d,ev S ρ e=some d→EvOK G A x env own O ρ d) (ht:evT S ρ e=none):Both G A S e x env own O ρ :=
 ⟨h,fun b hb=>n_s (ht.symm.trans hb)⟩
structure EsS (G:GC) (A:Around) (S:Sig) (es:Es) (xs:List Expr) (env:Env) (own:Own) (O:List Addr) (ρ:Rho):Prop where
 ns:zci xs=true
 el:∀ ds,evs S ρ es=some ds→EsOK G A xs env own O ρ ds
 bo:∀ o d,ylv S ρ o es=some d→zyy G A o xs env own O ρ d
 al:∀ o b,ziw S ρ o es=some b→zrt G A env own O ρ o xs b
noncomputable def ESnd (G:GC) (A:Around) (S:Sig) (e:E):Prop:=∀ {c:Cx} {x:Expr} {env:Env} {own:Own} {O:List Addr} {ρ:Rho},CxOK G A S c env own→chkE c e x=true→Both G A S e x env own O ρ
noncomputable def EsSnd (G:GC) (A:Around) (S:Sig) (es:Es):Prop:=∀ {c:Cx} {xs:List Expr} {env:Env} {own:Own} {O:List Addr} {ρ:Rho},CxOK G A S c env own→zfl c es xs=true→EsS G A S es xs env own O ρ
theorem EsSnd.ns {es:Es} {c:Cx} {xs:List Expr} {env:Env} {own:Own} (k:EsSnd G A S es) (X:CxOK G A S c env own) (h:zfl c es xs=true):zci xs=true:=(k (O:=[]) (ρ:=[]) X h).ns
noncomputable def zws (G:GC) (A:Around) (S:Sig) (os:Os):Prop:=∀ {c:Cx} {x:Option Expr} {env:Env} {own:Own} {O:List Addr} {ρ:Rho},CxOK G A S c env own→chkO c os x=true→∀ od,evo S ρ os=some od→zmi G A x env own O ρ od
noncomputable def zga (G:GC) (A:Around) (S:Sig) (src:Src):Prop:=∀ {c:Cx} {iter tg:Expr} {env:Env} {own:Own} {O:List Addr} {ρ:Rho},CxOK G A S c env own→zzj c src iter=true→ynm src tg=true→∀ ds,zdk S ρ src=some ds→zjx G A (zeu src) iter env own O ρ tg ds (!ybj src)∧zjp iter=true
noncomputable def zpc (G:GC) (A:Around) (S:Sig) (r:Gs):Prop:=∀ {ci:Cx} {env:Env} {own:Own} {O WC:List Addr} {Dd:Addr} {kd:CK} {gens suf:List Comprehension} {scope:Scope} {pos:Pos} {k:Nat} {eltf:Rho→Option D},CxOK G A S ci env own→zrz ci ci scope.names false r suf=true→gens.drop (k+1)=suf →
  AccOK G env own O WC Dd→env.locals∈WC→(∀ x c,(x,NameKind.cell)∈scope.names→env.cells.lookup x=some c→c∈WC)→(∀ x,scope.names.lookup x=some .local→env.kindOf x=some .local) →
  (∀ j ρ d,gens[j+1]?=none→eltf ρ=some d→zet G A kd gens scope pos j env own O WC Dd ρ [d])→∀ ρ out,(∀ n∈tgs r,ρ.get n=none)→(tgs r).Nodup→evGs S ρ ρ eltf r=some out→zet G A kd gens scope pos k env own O WC Dd ρ out
theorem zzp {k:Const} {d:D} {O:List Addr} {ρ:Rho} {n:Nat} {pos:Pos} (h:zzo k d=true):EvOK G A (.Constant k n pos) env own O ρ d:=by
 rcases k with ⟨⟩ | ⟨⟩
 case none =>
  rcases d with ⟨⟩ | ⟨⟩
  case none=>exact yfd
  all_goals exact absurd h Bool.false_ne_true
 case bool a =>
  rcases d with ⟨⟩ | ⟨⟩
  case bool b=>rw [bqp (show (a==b)=true from h)];exact yez
  all_goals exact absurd h Bool.false_ne_true
 case int a =>
  rcases d with ⟨⟩ | ⟨⟩
  case int b=>rw [bqp (show (a==b)=true from h)];exact zrw
  all_goals exact absurd h Bool.false_ne_true
 case str a =>
  rcases d with ⟨⟩ | ⟨⟩
  case str b =>
   obtain ⟨h1,h2⟩:=bap (show (a==b&&sok (.str a))=true from h)
   have:=bqp h1
   subst this
   exact ylc h2
  all_goals exact absurd h Bool.false_ne_true
 all_goals exact absurd h Bool.false_ne_true
end
end Internal
namespace Internal
section
variable {G:GC} {A:Around} {S:Sig}
theorem yjq {ci:Cx} {env:Env} {own:Own} {O WC:List Addr} {Dd:Addr} {kd:CK} {gens:List Comprehension} {scope:Scope} {pos:Pos} {k:Nat} {target iter:Expr} {ifs':List Expr} {tg:List Nat} {ifs:Es} {r:Gs} {ρ:Rho} {eltf:Rho→Option D} {ds:List D}
  (X:CxOK G A S ci env own) (hg:gens[k]?=some ⟨target,iter,ifs',0⟩) (hg':∀ g',gens[k+1]?=some g'→g'.is_async=0) (ht:tgIs ci tg target=true) (hto:tgIs { ci with sc:=scope.names } tg target=true)
  (hl:env.locals∈WC) (hw:∀ x c,(x,NameKind.cell)∈scope.names→env.cells.lookup x=some c→c∈WC) (hkn:∀ x,scope.names.lookup x=some .local→env.kindOf x=some .local)
  (hno:∀ n∈tg++tgs r,ρ.get n=none) (hnd:(tg++tgs r).Nodup)
  (htests:∀ ρ' b,ziw S ρ' .And ifs=some b→zrt G A env own O ρ' .And ifs' b)
  (hinner:∀ ρ' out,(∀ n∈tgs r,ρ'.get n=none)→evGs S ρ' ρ' eltf r=some out→zet G A kd gens scope pos k env own O WC Dd ρ' out) :
  GenOK G A env own O WC Dd kd gens scope pos k target iter ifs' tg ρ (fun it=>(zcn ρ tg it).bind fun ρ'=>(ziw S ρ' .And ifs).bind fun b=>bif b then evGs S ρ' ρ' eltf r else some []) ds:=by
 refine ⟨hg,hg',X.target ht,fun n m=>hno n (List.mem_append_left _ m),⟨hl,fun n m x c h1 h2 h3=>?_⟩,fun x ρ' a hx hb hf=>?_,fun x hx hs=>?_⟩
 ·obtain ⟨y,e1,e2⟩:=yea hto n m
  obtain rfl:y=x:=soi (e1.symm.trans (X.nm▸h1))
  rcases e2 with e2 | e2
  ·exact nomatch (hkn _ e2).symm.trans h2
  ·exact hw _ _ (mem_of_lookup e2) h3
 ·rw [hb] at hf
  refine zaq (o:=ziw S ρ' .And ifs) hf fun b ha hf=>ylh (htests ρ' b ha) (fun e=>?_) (fun e=>?_)
  ·subst e
   exact hinner ρ' a (fun n m=>(zpk hb n (fun q=>(List.nodup_append.mp hnd).2.2 n q n m rfl)).trans (hno n (List.mem_append_right _ m))) hf
  ·subst e;exact (soi hf).symm
 ·obtain ⟨a,e⟩:=Option.isSome_iff_exists.mp hs
  exact zaq e fun ρ' e _=>⟨ρ',e⟩
theorem zhh {f:D→Option (List D)}:∀ {ds out:List D},(∀ x a,f x=some a→a.length≤1)→zcs f ds=some out→out.length≤ds.length
 | [],out,h,e=>soi e▸Nat.le_refl _
 | x::xs,out,h,e=>by
  obtain ⟨a,b,h1,h2,rfl⟩:=zlf e
  rw [List.length_append,List.length_cons,Nat.add_comm]
  exact Nat.add_le_add (zhh h h2) (h x a h1)
theorem zyg {ρ:Rho} {tg:List Nat} {src:Src} {ifs:Es} {r:Gs} {eltf:Rho→Option D} {x:D} {a:List D} (hs:ykl (.cons tg src ifs r)=true) (hx:((zcn ρ tg x).bind fun ρ'=>(ziw S ρ' .And ifs).bind fun b=>bif b then evGs S ρ' ρ' eltf r else some [])=some a):a.length≤1:=by
 rcases r with ⟨⟩ | ⟨⟩
 ·exact zaq hx fun ρ' _ hx=>zpg hx (fun _ h=>zmx (P:=fun a=>a.length≤1) h fun d _=>Nat.le_refl _) fun _ h=>soi h▸Nat.zero_le _
 ·exact f_t hs
theorem zvc {c ci:Cx} {orig:List (Str × NameKind)} {top:Bool} {r:Gs} {gens:List Comprehension} (h:zrz c ci orig top r gens=true):∀ g',gens[0]?=some g'→g'.is_async=0:=by
 rcases r with ⟨⟩ | ⟨tg,src,ifs,r⟩
 ·exact onNil_elim (P:=fun gens=>∀ g',gens[0]?=some g'→g'.is_async=0) h fun _ g' e=>nomatch e
 ·exact onCons_elim (P:=fun gens=>∀ g',gens[0]?=some g'→g'.is_async=0) h fun g gens h g' e=>soi e▸yey h fun h _ _ _ _ _ _ _=>of_decide_eq_true h
theorem zqr:∀ {ρ:Rho} (h:(ρ.all fun p=>zbm p.2)=true) (n:Nat) (d:D) (e:ρ.get n=some d),zbm d=true
 | [],_,_,_,e=>nomatch e
 | p::r,h,n,d,e=>by
  obtain ⟨h1,h2⟩:=bap (show (zbm p.2&&r.all fun p=>zbm p.2)=true from h)
  rw [Rho.get_cons] at e
  by_cases c:n=p.1
  ·rw [if_pos c] at e;exact soi e▸h1
  ·rw [if_neg c] at e;exact zqr h2 n d e
theorem yok {ρ:Rho} {src:Src} {ds:List D} (e:zdk S ρ src=some ds) (hz:zeu src=true):∀ n d,ρ.get n=some d→zbm d=true:=by
 rcases src with _ | _ | _ | _ | es | _
 case zip=>exact fun n d g=>zaq e fun ls _ e=>zfd (P:=fun _=>zbm d=true) e fun c=>zqr (bap c).1 n d g
 all_goals exact f_t hz
theorem ztw {kd:CK} {c:Cx} {env:Env} {own:Own} {O:List Addr} {ρ:Rho} {eltf:Rho→Option D} {tg:List Nat} {src:Src} {ifs:Es} {r:Gs} {gens:List Comprehension} {scope:Scope} {pos pos':Pos} {out:List D} {s:Shared} {use:Option (Value→Sem Unit)} {Q E:Value→Shared→Prop}
  (helt:∀ {cenv:Env} {O' WC:List Addr} {Dd:Addr},CxOK G A S { c with sc:=relN scope.names c.sc } cenv own→AccOK G cenv own O' WC Dd→∀ j ρ d,gens[j+1]?=none→eltf ρ=some d→zet G A kd gens scope pos j cenv own O' WC Dd ρ [d])
  (hsrc:zga G A S src) (hifs:EsSnd G A S ifs) (hr:zpc G A S r)
  (X:CxOK G A S c env own) (hk:decide (scope.kind=.function)=true) (hsc:zfx c.nm c.sc scope.names (tg++tgs r)=true) (hnd:decide ((tg++tgs r).Nodup)=true) (h:zrz c { c with sc:=relN scope.names c.sc } scope.names true (.cons tg src ifs r) gens=true)
  (hout:evGs S ρ (ρ.del (tg++tgs r)) eltf (.cons tg src ifs r)=some out) (hlen':∀ ds,zdk S ρ src=some ds→ds.length≤16777216→out.length≤zsx kd) (hzo:zeu src=true→zaw out=true) (I:Inv G A env own O ρ s)
  (fin:∀ C D s',out.length≤zsx kd→Ext G s s'→C≠D→s.heap.get? C=none→s.heap.get? D=none→G.h₀.get? C=none→G.h₀.get? D=none→(∃ m,s'.heap.Ns C m)→AccAt G kd (C::D::O) s'.heap D out →
   Inv G A env own (C::D::O) ρ s'→compPost (mdl G) A E use Q (.ref D) C (.ok .next) s') :
  wpAny (mdl G) A (comprehension (kd.expr gens scope pos) scope env pos' kd.new (firstAsync gens) (firstIter gens env) use) Q E s:=by
 revert helt
 refine onCons_elim h fun g gens h=>yey h fun ha h1 h2 h3 _ h4 h5 h6 helt=>?_
 obtain ⟨target,iter,ifs',as⟩:=g
 obtain rfl:as=0:=of_decide_eq_true ha
 refine zaq hout fun ds hds hout=>?_
 have hs:=hsrc (tg:=target) (O:=O) (ρ:=ρ) X h4 h3 ds hds
 have hso:zfx G.names env.scope.names scope.names (tg++tgs r)=true:=by rw [← X.nm,X.sc];exact hsc
 refine ylo (strict:=!ybj src) (tg:=tg) I hs.1 hs.2 (of_decide_eq_true hk) hso (fun cenv O' D hce acc=>?_) (fun q=>⟨yok hds q,zgn (hzo q)⟩) hout (hlen' ds hds) fin
 have Xi:CxOK G A S { c with sc:=relN scope.names c.sc } cenv own:=⟨X.nm,by rw [hce,zec X.fn,X.sc],X.ow,by rw [hce];exact of_decide_eq_true hk,X.F,X.gl,X.hh,X.hu⟩
 have hl:cenv.locals∈wcOf scope cenv:=mch
 have hw:∀ x c,(x,NameKind.cell)∈scope.names→cenv.cells.lookup x=some c→c∈wcOf scope cenv:=fun x c m e=>mct _ (List.mem_filterMap.mpr ⟨(x, .cell),m,(if_pos rfl).trans e⟩)
 have hkn:∀ x,scope.names.lookup x=some .local→cenv.kindOf x=some .local:=fun x e=>by
  show cenv.scope.names.lookup x=_
  rw [hce,zec X.fn,zfw,e];rfl
 have hno:∀ n∈tg++tgs r,(ρ.del (tg++tgs r)).get n=none:=fun n m=>by
  rw [Rho.get_del,if_pos (List.contains_iff_mem.mpr m)]
 exact yjq Xi rfl (zvc h6) h1 h2 hl hw hkn hno (of_decide_eq_true hnd) (fun ρ' b hb=>(hifs Xi h5).al .And b hb) (fun ρ' out' hno' he'=>hr Xi h6 rfl acc hl hw hkn (helt Xi acc) ρ' out' hno' (List.nodup_append.mp (of_decide_eq_true hnd)).2.1 he')
theorem zpo {c:Cx} {env:Env} {own:Own} {O:List Addr} {ρ:Rho} {elt:E} {tg:List Nat} {src:Src} {ifs:Es} {r:Gs} {e:Expr} {gens:List Comprehension} {scope:Scope} {pos pos':Pos} {d:D} {s:Shared} {use:Option (Value→Sem Unit)} {Q E:Value→Shared→Prop}
  (helt:ESnd G A S elt) (hsrc:zga G A S src) (hifs:EsSnd G A S ifs) (hr:zpc G A S r)
  (X:CxOK G A S c env own) (h:chkE c (.comp elt (.cons tg src ifs r)) (.ListComp e gens scope pos)=true) (he:ev S ρ (.comp elt (.cons tg src ifs r))=some d) (I:Inv G A env own O ρ s)
  (fin:∀ C D s' out,d=.list out→out.length≤16777216→Ext G s s'→C≠D→s.heap.get? C=none→s.heap.get? D=none→G.h₀.get? C=none→G.h₀.get? D=none→(∃ m,s'.heap.Ns C m)→AccAt G (.list e) (C::D::O) s'.heap D out →
   Inv G A env own (C::D::O) ρ s'→compPost (mdl G) A E use Q (.ref D) C (.ok .next) s') :
  wpAny (mdl G) A (comprehension (.ListComp e gens scope pos) scope env pos' (newList []) (firstAsync gens) (firstIter gens env) use) Q E s:=by
 have h:(decide (scope.kind=.function)&&!gens.isEmpty&&zfx c.nm c.sc scope.names (tg++tgs r)&&decide ((tg++tgs r).Nodup)&&chkE { c with sc:=relN scope.names c.sc } elt e&&zrz c { c with sc:=relN scope.names c.sc } scope.names true (.cons tg src ifs r) gens)=true:=h
 refine zmc h fun hk _ hsc hnd hel h=>?_
 refine zaq he fun out hout e'=>?_
 obtain ⟨hle,ed⟩:=zaj e'
 obtain ⟨hlen,hzt⟩:=bap hle
 exact ztw (kd:=.list e) (fun Xi acc j ρ d hg e=>ybg acc hg ((helt Xi hel).e d e)) hsrc hifs hr X hk hsc hnd h hout
  (fun ds hds hd=>(Bool.or_eq_true_iff.mp hlen).elim (fun hl=>Nat.le_trans (zhh (fun x a hx=>zyg hl hx) (zaq hout fun ds' e1 e2=>soi (hds.symm.trans e1)▸e2)) hd) of_decide_eq_true)
  (fun q=>(Bool.or_eq_true_iff.mp hzt).resolve_left fun q'=>by rw [show yju (.cons tg src ifs r)=true from q] at q';exact ff q') I fun C D s' hl h0 h1 h2 h3 h4 h5 h6 h7 h8=>fin C D s' out ed.symm hl h0 h1 h2 h3 h4 h5 h6 h7 h8
section arms
variable {a b d e e2:E} {c:Cx} {x:Expr} {xs args r:Es} {n f:Nat}
theorem ytd {d:D}:ESnd G A S (.lit d):=fun X h =>
 onConstant_elim h fun k n p h=>.plain rfl (fun d' e=>soi e▸zzp h) rfl
theorem ytm:ESnd G A S (.var n):=fun X h=>by
 refine onName_elim h fun y p h=>zrv h fun h1 h2=>?_
 have N:=X.name h1
 obtain ⟨k,hk,hkk⟩:=N.kd
 exact .plain rfl (fun d e=>ylf N.nm hk hkk N.h1 N.h2 (X.nown h2) e) rfl
theorem yql:ESnd G A S (.glob n):=fun X h =>
 onName_elim h fun y p h=>zrv h fun h1 h2=>.plain rfl (fun d e s I Q E q =>
  let ⟨v,e1,e2⟩:=X.gl n _ d (X.nmOf h2) e
  zln I (X.glob h1).1 (X.glob h1).2 e1 (q v s (.refl I.base I.pos) (e2 _ _))) rfl
theorem ysy {o:Operator} (ha:ESnd G A S a) (hb:ESnd G A S b):ESnd G A S (.bin o a b):=fun X h=>by
 refine onBinOp_elim h fun l o' r p h=>zhd h fun q0 h1 h2=>?_
 obtain rfl:=of_decide_eq_true q0
 exact .plain rfl (fun d e=>zeq e fun y z g1 g2 e=>ykx ((ha X h1).e _ g1) ((hb X h2).e _ g2) e) rfl
theorem yte (ha:ESnd G A S a):ESnd G A S (.neg a):=fun X h =>
 onUop_elim h fun y p h=>.none (fun d e=>ybh e fun i g e=>soi e▸zzb ((ha X h).e _ g)) rfl
theorem ytb (ha:ESnd G A S a):ESnd G A S (.inv a):=fun X h =>
 onUop_elim h fun y p h=>.none (fun d e=>ybh e fun i g e=>soi e▸yla ((ha X h).e _ g)) rfl
theorem yta {o:CmpOp} (ha:ESnd G A S a) (hb:ESnd G A S b):ESnd G A S (.cmp o a b):=fun X h=>by
 refine onCmp1_elim h fun l o' r p h=>zkk h fun q0 h0 h1 h2=>?_
 obtain rfl:=of_decide_eq_true q0
 exact ⟨fun d e=>zeq e fun y z g1 g2 e=>ykz X.hu (zjb h0) ((ha X h1).e _ g1) ((hb X h2).e _ g2) e,fun t e=>zaq e fun d e e'=>zeq e fun y z g1 g2 e=>yri X.hu (zjb h0) ((ha X h1).e _ g1) ((hb X h2).e _ g2) e e'⟩
theorem ysz {o:BoolOp} (hx:EsSnd G A S xs):ESnd G A S (.bop o xs):=fun X h=>by
 refine onBoolOp_elim h fun o' ys p h=>zrv h fun q0 h1=>?_
 obtain rfl:=of_decide_eq_true q0
 exact ⟨fun d e=>yky ((hx X h1).bo o d e),fun t e=>yrh ((hx X h1).al o t e)⟩
theorem ytc (ha:ESnd G A S a) (hb:ESnd G A S b) (hd:ESnd G A S d):ESnd G A S (.ite a b d):=fun X h =>
 onIfExp_elim h fun t y z p h=>zhd h fun h1 h2 h3 =>
  ⟨fun d' e=>zpg e (fun g e=>zza ((ha X h1).t _ g) (fun _=>(hb X h2).e _ e) t_f) (fun g e=>zza ((ha X h1).t _ g) f_t fun _=>(hd X h3).e _ e),
  fun d' e=>zpg e (fun g e=>ykq ((ha X h1).t _ g) (fun _=>(hb X h2).t _ e) t_f) (fun g e=>ykq ((ha X h1).t _ g) f_t fun _=>(hd X h3).t _ e)⟩
theorem yqm (hx:EsSnd G A S xs):ESnd G A S (.list xs):=fun X h =>
 onList_elim h fun es p h=>.none (fun d e=>zaq e fun ds g e=>zfd e fun hl=>yfc ((hx X h).el _ g) hl) rfl
theorem ytl (hx:EsSnd G A S xs):ESnd G A S (.tup xs):=fun X h =>
 onTuple_elim h fun es k p h=>.none (fun d e=>zaq e fun ds g e=>zfd e fun hl=>yle ((hx X h).el _ g) hl) rfl
theorem yqj {kvs:List (Str × Str)}:ESnd G A S (.dict kvs):=fun X h=>by
 refine onDict_elim h fun ks vs p h=>zhd h fun h1 h2 h3=>.none (fun d e=>?_) rfl
 obtain ⟨a1,a2⟩:=zmt h2
 obtain ⟨b1,b2⟩:=zno h3
 have key:∀ (f:Str × Str→Str) (i:Nat) p,kvs[i]?=some p→(kvs.map f)[i]?=some (f p):=fun f i p e=>by rw [List.getElem?_map,e];rfl
 exact soi e▸yfb ⟨a1.trans (List.length_map ..),b1.trans (List.length_map ..),fun i p e=>⟨a2 i p.1 (key _ i p e),b2 i p.2 (key _ i p e)⟩⟩ h1
theorem ync:ESnd G A S (.comp e .nil):=fun X h =>
 onListComp_elim h fun e gens scope p h=>zmc h fun _ h1 _ _ _ h2=>onNil_elim (P:=fun gens=>(!gens.isEmpty)=true→Both ..) h2 (fun _ h1=>f_t h1) h1
theorem yqi {tg:List Nat} {src:Src} {ifs:Es} {r:Gs} (helt:ESnd G A S e) (hsrc:zga G A S src) (hifs:EsSnd G A S ifs) (hr:zpc G A S r):ESnd G A S (.comp e (.cons tg src ifs r)):=fun X h =>
 have key:∀ {x},zjc x (fun _ _ _ _=>true)=true→_:=fun {x} h=>h
 onListComp_elim (P:=fun x=>chkE _ (.comp e (.cons tg src ifs r)) x=true→Both G A S (.comp e (.cons tg src ifs r)) x _ _ _ _) h (fun e gens scope p _ h=>.none (fun d g s I Q E q=>by
  rw [eval_ListComp]
  exact zpo (use:=none) helt hsrc hifs hr X h g I fun C D s' out e hl xs h1 h2 h3 h4 h5 h6 ac _=>ztx xs h1 h2 h4 h6 ac fun s' x ac=>q _ s' x (e▸ygl h3 I.ov hl ac)) rfl) h
theorem yie (ha:ESnd G A S a):ESnd G A S (.setlen a):=fun X h=>by
 refine onCallN_elim h fun y np es p h=>onL1_elim h fun z h=>onCallN_elim h fun y2 np2 es2 p2 h=>onL1_elim h fun z2 h=>zmc h fun q0 q1 h1 h2 h3 h4=>?_
 obtain rfl:=of_decide_eq_true q0
 obtain rfl:=of_decide_eq_true q1
 exact .none (fun d e=>zdv e fun ds g e=>zfd e fun c=>zwt X.hh (X.isG h1) (X.isG h2) h3 ((ha X h4).e _ g) (bap c).1 (of_decide_eq_true (bap c).2)) rfl
theorem yid {k v:E}:ESnd G A S (.dcomp k v .nil):=fun X h =>
 onDictComp_elim h fun ke ve gens scope p h=>.none (fun d e=>zaq e fun out _ e=>(by rw [show oneG .nil=false from rfl,Bool.and_false] at e;exact nn e)) rfl
theorem ynd {k v:E} {tg:List Nat} {src:Src} {ifs:Es} {r:Gs} (hk:ESnd G A S k) (hv:ESnd G A S v) (hsrc:zga G A S src) (hifs:EsSnd G A S ifs) (hr:zpc G A S r):ESnd G A S (.dcomp k v (.cons tg src ifs r)):=fun X h=>by
 refine onDictComp_elim h fun ke ve gens scope p h=>yop h fun h1 _ h3 h4 h5 h6 h7=>.none (fun d g s I Q E q=>?_) rfl
 rw [arm_eval_DictComp]
 refine zaq g fun out hout e'=>?_
 obtain ⟨hle,rfl⟩:=zaj e'
 obtain ⟨hl,ho⟩:=bap hle
 exact ztw (kd:=.dict ke ve) (use:=none) (fun Xi acc j ρ d hg e=>zly e fun x g1 e=>zly e fun y g2 e=>zfd (P:=fun d=>zet _ _ _ _ _ _ _ _ _ _ _ _ _ [d]) e fun _=>zxm acc hg ((hk Xi h5).e _ g1) ((hv Xi h6).e _ g2)) hsrc hifs hr X h1 h3 h4 h7 hout
  (fun _ _ _=>of_decide_eq_true hl) (fun z=>by
   rcases ifs with ⟨⟩ | ⟨⟩ <;> rcases r with ⟨⟩ | ⟨⟩ <;> first | (exact absurd ((Bool.not_eq_true' _).mp ho) (by rw [z];decide)) | exact ff ho) I
  fun C D s' hl h0 h1 h2 h3 h4 h5 h6 ac _=>ztx h0 h1 h2 h4 h6 ac fun s' x ac=>q _ s' x (ygk h3 I.ov ac)
theorem yqh (hx:EsSnd G A S args):ESnd G A S (.call f args):=fun X h =>
 onCallN_elim h fun y np es p h=>zhd h fun h1 h2 h3=>.plain rfl (fun d e=>zaq e fun ds g e=>yfa X.F (X.nmOf h2) (X.glob h1).1 (X.glob h1).2 (hx.ns X h3) ((hx X h3).el _ g) e) rfl
theorem s_bf {f:Bf} (hx:EsSnd G A S args):ESnd G A S (.bf f args):=fun X h=>by
 refine onCallN_elim h fun y np es p h=>zhd h fun q0 h2 h3=>?_
 obtain rfl:=of_decide_eq_true q0
 exact .plain rfl (fun d e=>zaq e fun ds g e=>yoq X.hh (X.isG h2) (hx.ns X h3) ((hx X h3).el _ g) e) rfl
theorem s_mt {m:Mt} {o:E} (ho:ESnd G A S o) (hx:EsSnd G A S args):ESnd G A S (.mt m o args):=fun X h=>by
 refine onCallA_elim h fun ob y ap es p h=>zmc h fun q0 h1 h2 h3 h4 h5=>?_
 obtain rfl:=of_decide_eq_true q0
 exact .plain rfl (fun d e=>zeq e fun y ds g1 g2 e=>yor X.hu h1 (hx.ns X h5) (of_decide_eq_true h3) h2 ((ho X h4).e _ g1) ((hx X h5).el _ g2) e) rfl
theorem yqq {y z:Str} (ha:ESnd G A S a):ESnd G A S (.repl a y z):=fun X h=>by
 refine onCallA_elim h fun ob n ap es p h=>onCons_elim h fun e1 r h=>onStrC_elim h fun y' _ _ h=>onL1_elim h fun e2 h=>onStrC_elim h fun z' _ _ h=>yop h fun q0 q1 q2 h1 h2 h3 h4=>?_
 obtain rfl:=of_decide_eq_true q0
 obtain rfl:=of_decide_eq_true q1
 obtain rfl:=of_decide_eq_true q2
 exact .none (fun d e=>zly e fun x g e=>zfd e fun g'=>yfg h2 h3 (zjb h1) ((ha X h4).e _ g) (of_decide_eq_true (zae g').1) (zae g').2) rfl
theorem ytk (ha:ESnd G A S a) (hb:ESnd G A S b):ESnd G A S (.sub a b):=fun X h =>
 onSubscript_elim h fun v s p h=>zhd h fun h1 h2 h3=>.plain rfl (fun d e=>zeq e fun y z g1 g2 e=>yld h1 ((ha X h2).e _ g1) ((hb X h3).e _ g2) e) rfl
theorem ytj {lo hi st:Os} (ha:ESnd G A S a) (hlo:zws G A S lo) (hhi:zws G A S hi) (hst:zws G A S st):ESnd G A S (.slc a lo hi st):=fun X h =>
 onSubscript_elim h fun v z p h=>onSlice_elim h fun l hh t w h=>zkk h fun h1 h2 h3 h4 =>
  .none (fun d e=>zeq (f:=fun x l=>(evo S _ hi).bind fun h=>(evo S _ st).bind fun t=>zei x l h t) e fun y l g1 g2 e=>zeq e fun hh t g3 g4 e=>ylb ((ha X h1).e _ g1) (hlo X h2 _ g2) (hhi X h3 _ g3) (hst X h4 _ g4) e) rfl
theorem yqp:ESnd G A S (.olen n):=fun X h=>by
 refine onCallN_elim h fun f np es p h=>onL1_elim h fun z h=>onName_elim h fun y yp h=>zkk h fun q0 h1 h2 h3=>?_
 obtain rfl:=of_decide_eq_true q0
 exact .none (fun d e=>zdv e fun xs g e=>soi e▸yff (X.name h2) (X.own' h3) g (X.isG h1)) rfl
theorem yqo (ha:ESnd G A S a):ESnd G A S (.oget n a):=fun X h =>
 onSubscript_elim h fun z s p h=>onName_elim h fun y yp h=>zkk h fun h1 h2 h3 h4 =>
  .none (fun d e=>zdv e fun xs g e=>zaq e fun y g2 e=>yfe h1 (X.name h2) (X.own' h3) g ((ha X h4).e _ g2) e) rfl
theorem yne (hx:EsSnd G A S args):ESnd G A S (.ocall f n args):=fun X h =>
 onCallN_elim h fun g np es p h=>onCons_elim h fun z es h=>onName_elim h fun y yp h=>zyz h fun h0 h1 h2 h3 h4 =>
  .none (fun d e=>zdv e fun xs g e=>zaq e fun ds g2 e=>zaq e fun d' g3 e=>zfd e fun hs=>zzd X.F (X.nmOf h1) (X.glob h0).1 (X.glob h0).2 (hx.ns X h4) (X.name h2) (X.own' h3) g ((hx X h4).el _ g2) g3 hs) rfl
theorem ytf:EsSnd G A S .nil:=fun X h =>
 onNil_elim h fun _=>⟨rfl,fun ds e=>soi e▸zzc,fun o d e=>n_s e,fun o b e=>(soi e).symm⟩
theorem ych {x:Expr} {xs:List Expr} (h:zbh x=true) (h':zci xs=true):zci (x::xs)=true:=Bool.and_eq_true_iff.mpr ⟨h,h'⟩
theorem zmp {β:Type} {c:Bool} {x r:β} {y:Option β} (h:(if c then some x else y)=some r):(c=true→x=r)∧(c=false→y=some r):=by
 cases c
 ·exact ⟨f_t,fun _=>h⟩
 ·exact ⟨fun _=>soi h,t_f⟩
theorem ytg (he:ESnd G A S e):EsSnd G A S (.cons e .nil):=fun X h =>
 onCons_elim h fun x xs h=>zhd h fun h1 h2 h3=>onNil_elim h3 fun _ =>
  ⟨ych h1 rfl,fun ds g=>zaq g fun d' hd g=>soi g▸ztu ((he X h2).e _ hd) zzc (zch h1 []),fun o d g=>yli ((he X h2).e d g),
  fun o t g=>zaq g fun c' hc g=>⟨c',(he X h2).t _ hc,fun q=>((zmp g).1 q).symm,fun q=>(soi ((zmp g).2 q)).symm⟩⟩
theorem yqn (he:ESnd G A S e) (hr:EsSnd G A S (.cons e2 r)):EsSnd G A S (.cons e (.cons e2 r)):=fun X h=>by
 refine onCons_elim h fun x xs h=>zhd h fun h1 h2 h3=>?_
 refine ⟨ych h1 (hr.ns X h3),fun ds g=>zeq g fun d' ds' hd hds g=>soi g▸ztu ((he X h2).e _ hd) ((hr X h3).el _ hds) (zch h1 _),fun o d g=>zaq g fun d' hd g=>zaq g fun t ht g=>?_,fun o t g=>zaq g fun c' hc g=>⟨c',(he X h2).t _ hc,fun q=>((zmp g).1 q).symm,fun q=>(hr X h3).al o t ((zmp g).2 q)⟩⟩
 rcases xs with ⟨⟩ | ⟨y,ys⟩
 ·exact f_t h3
 ·exact yfk ((he X h2).e _ hd) ht (fun q=>(zmp g).1 q) fun q=>(hr X h3).bo o d ((zmp g).2 q)
theorem s_no:zws G A S .no:=fun X h od e=>onNone_elim h fun _=>soi e▸ycq
theorem ytn (ha:ESnd G A S a):zws G A S (.yes a):=fun X h od e=>onSome_elim h fun y h=>zaq e fun d g e=>soi e▸ycr ((ha X h).e _ g)
theorem s_se (ha:ESnd G A S a):zga G A S (.e a):=fun {c iter} _ _ _ _ _ X h ht ds e =>
 zrv (a:=zjp iter) (b:=chkE c a iter) h fun h1 h2=>zaq e fun d e1 e2=>⟨ytp ((ha X h2).e _ e1) e2 ht,h1⟩
theorem yth:zga G A S (.own n):=fun X h ht ds e =>
 onName_elim h fun y p h=>zrv h fun h1 h2=>zdv e fun xs g e=>soi e▸⟨ynn (X.name h1) (X.own' h2) g ht,rfl⟩
theorem ynf (hx:EsSnd G A S args):zga G A S (.range args):=fun X h ht ds e=>by
 refine onCallN_elim h fun y np es p h=>zhd h fun q0 h1 h2=>?_
 obtain rfl:=of_decide_eq_true q0
 exact zaq e fun es e1 e2=>⟨ydo (X.isG h1) (hx.ns X h2) ((hx X h2).el _ e1) e2 ht,rfl⟩
theorem yqk (ha:ESnd G A S a):zga G A S (.enum a):=fun X h ht ds e=>by
 refine onCallN_elim h fun y np es p h=>onL1_elim h fun z h=>zkk h fun q0 h1 h2 h3=>?_
 obtain rfl:=of_decide_eq_true q0
 exact zdv e fun xs g e=>soi e▸⟨yim (X.isG h1) h2 ((ha X h3).e _ g) ht,rfl⟩
theorem yti (ha:ESnd G A S a):zga G A S (.rev a):=fun X h ht ds e=>by
 refine onCallN_elim h fun y np es p h=>onL1_elim h fun z h=>zkk h fun q0 h1 h2 h3=>?_
 obtain rfl:=of_decide_eq_true q0
 exact zdv e fun xs g e=>soi e▸⟨yno (X.isG h1) h2 ((ha X h3).e _ g) ht,rfl⟩
theorem yto (hx:EsSnd G A S args):zga G A S (.zip args):=fun X h ht ds e=>by
 refine onCallN_elim h fun y np es p h=>zhd h fun q0 h1 h2=>?_
 obtain rfl:=of_decide_eq_true q0
 refine zaq e fun ls e1 e2=>zfd (P:=fun ds=>zjx _ _ _ _ _ _ _ _ _ ds _∧_) e2 fun c=>?_
 obtain ⟨_,c⟩:=bap c
 obtain ⟨c1,c2⟩:=bap c
 exact zaq e1 fun es' e3 e4=>⟨ynp (X.isG h1) (hx.ns X h2) ((hx X h2).el _ e3) e4 c1 ((Bool.or_eq_true_iff.mp c2).imp of_decide_eq_true of_decide_eq_true) ht,rfl⟩
theorem ysp:zpc G A S .nil:=fun X h hd a hl hw hkn he ρ out hno hnd e=>by
 revert hd
 refine onNil_elim h fun _ hd=>?_
 exact zmx (P:=fun out=>zet G A _ _ _ _ _ _ _ _ _ _ ρ out) e fun d e1=>he _ ρ d (List.getElem?_eq_none (List.drop_eq_nil_iff.mp hd)) e1
theorem yph {tg:List Nat} {src:Src} {ifs:Es} {r:Gs} (hsrc:zga G A S src) (hifs:EsSnd G A S ifs) (hr:zpc G A S r):zpc G A S (.cons tg src ifs r):=fun {ci env own O WC Dd kd gens suf scope pos k eltf} X h hd a hl hw hkn he ρ out hno hnd e=>by
 revert hd
 refine onCons_elim h fun g suf h=>yey h fun ha h1 h2 h3 h3' h4 h5 h6 hd=>?_
 obtain ⟨target,iter,ifs',as⟩:=g
 obtain rfl:as=0:=of_decide_eq_true ha
 refine zaq e fun ds hds e=>?_
 obtain ⟨hs,hns⟩:=hsrc (tg:=target) (O:=O) X h4 h3 ds hds
 obtain ⟨h3',hz⟩:=bap (show (!ybj src&&!zeu src)=true from h3')
 have hz:zeu src=false:=Bool.not_eq_true' _▸hz
 have hs:zjx G A false iter env own O ρ target ds true:=hz▸h3'▸hs
 have hgk:=(List.getElem?_drop (i:=_+1) (j:=0)).symm.trans (congrArg (·[0]?) hd)
 have hd':=(List.drop_drop (i:=1)).symm.trans (congrArg (List.drop 1) hd)
 exact zxl a (yjq X hgk (fun g' hg'=>zvc h6 g' (((congrArg (·[0]?) hd').symm.trans List.getElem?_drop).trans hg')) h1 h2 hl hw hkn hno hnd (fun ρ' b hb=>(hifs X h5).al .And b hb) (fun ρ' out' hno' he'=>hr X h6 hd' a hl hw hkn he ρ' out' hno' (List.nodup_append.mp hnd).2.1 he')) hs hns e
end arms
mutual
theorem zap:∀ e:E,ESnd G A S e
 | .lit _=>ytd
 | .var _=>ytm
 | .glob _=>yql
 | .bin _ a b=>ysy (zap a) (zap b)
 | .neg a=>yte (zap a)
 | .inv a=>ytb (zap a)
 | .cmp _ a b=>yta (zap a) (zap b)
 | .bop _ xs=>ysz (zbe xs)
 | .ite a b d=>ytc (zap a) (zap b) (zap d)
 | .list xs=>yqm (zbe xs)
 | .tup xs=>ytl (zbe xs)
 | .dict _=>yqj
 | .comp _ .nil=>ync
 | .comp e (.cons _ src ifs r)=>yqi (zap e) (zfg src) (zbe ifs) (zke r)
 | .call _ args=>yqh (zbe args)
 | .bf _ args=>s_bf (zbe args)
 | .mt _ o args=>s_mt (zap o) (zbe args)
 | .repl a _ _=>yqq (zap a)
 | .setlen a=>yie (zap a)
 | .dcomp _ _ .nil=>yid
 | .dcomp k v (.cons _ src ifs r)=>ynd (zap k) (zap v) (zfg src) (zbe ifs) (zke r)
 | .sub a b=>ytk (zap a) (zap b)
 | .slc a lo hi st=>ytj (zap a) (zoq lo) (zoq hi) (zoq st)
 | .olen _=>yqp
 | .oget _ a=>yqo (zap a)
 | .ocall _ _ args=>yne (zbe args)
theorem zbe:∀ es:Es,EsSnd G A S es
 | .nil=>ytf
 | .cons e .nil=>ytg (zap e)
 | .cons e (.cons e2 r)=>yqn (zap e) (zbe (.cons e2 r))
theorem zoq:∀ os:Os,zws G A S os
 | .no=>s_no
 | .yes a=>ytn (zap a)
theorem zfg:∀ src:Src,zga G A S src
 | .e a=>s_se (zap a)
 | .own _=>yth
 | .range args=>ynf (zbe args)
 | .enum a=>yqk (zap a)
 | .rev a=>yti (zap a)
 | .zip es=>yto (zbe es)
theorem zke:∀ r:Gs,zpc G A S r
 | .nil=>ysp
 | .cons _ src ifs r=>yph (zfg src) (zbe ifs) (zke r)
end
end
end Internal
namespace Internal
section
variable {G:GC} {A:Around} {S:Sig}
theorem yfx {c:Cx} {env:Env} {own:Own} {O:List Addr} {ρ:Rho} {elt:E} {gs:Gs} {e:Expr} {gens:List Comprehension} {scope:Scope} {pos pos':Pos} {d:D} {s:Shared} {use:Option (Value→Sem Unit)} {Q E:Value→Shared→Prop}
  (X:CxOK G A S c env own) (h:chkE c (.comp elt gs) (.ListComp e gens scope pos)=true) (he:ev S ρ (.comp elt gs)=some d) (I:Inv G A env own O ρ s)
  (fin:∀ C D s' (vs:Array Value) out,d=.list out→out.length≤16777216→Ext G s s'→C≠D→s.heap.get? C=none→s.heap.get? D=none→G.h₀.get? C=none→G.h₀.get? D=none→(∃ m,s'.heap.Ns C m)→s'.heap.PlainList D vs→VReps G.w (C::D::O) s'.heap vs.toList out →
   Inv G A env own (C::D::O) ρ s'→compPost (mdl G) A E use Q (.ref D) C (.ok .next) s') :
  wpAny (mdl G) A (comprehension (.ListComp e gens scope pos) scope env pos' (newList []) (firstAsync gens) (firstIter gens env) use) Q E s:=by
 rcases gs with ⟨⟩ | ⟨tg,src,ifs,r⟩
 ·refine zmc (show (decide (scope.kind=.function)&&!gens.isEmpty&&zfx c.nm c.sc scope.names (tgs .nil)&&decide ((tgs .nil).Nodup)&&chkE { c with sc:=relN scope.names c.sc } elt e&&zcz gens true)=true from h) fun _ h1 _ _ _ h2=>False.elim ?_
  exact onNil_elim (P:=fun gens=>(!gens.isEmpty)=true→False) h2 (fun _ h1=>f_t h1) h1
 ·exact zpo (fun X h=>zap elt X h) (fun X h=>zfg src X h) (fun X h=>zbe ifs X h) (fun {_ _ _ _ _ _ _ _ _ _ _ _ _}=>zke r) X h he I fun C D s' out e hl xs h1 h2 h3 h4 h5 h6 ac I'=>ac.elim fun vs k=>fin C D s' vs out e hl xs h1 h2 h3 h4 h5 h6 k.1 k.2 I'
structure FI (G:GC) (A:Around) (env:Env) (own:Own) (O Oc M:List Addr) (ρ:Rho) (s:Shared):Prop where
 inv:Inv G A env own O ρ s
 mO:∀ a∈M,a∈O
 ml:env.locals∈M
 mc:∀ x c,env.cells.lookup x=some c→c∈M
 mo:∀ n a,own.at' n=some a→a∈M
 m0:∀ a∈M,G.h₀.get? a=none
 mt:∀ a∈M,∀ o,s.heap.get? a=some o→Mut o
 cO:∀ a∈Oc,a∈O
 cM:∀ a∈M,a∉Oc
 inj:∀ n m a,own.at' n=some a→own.at' m=some a→n=m
structure Step (G:GC) (O M:List Addr) (s:Shared) (O' M':List Addr) (s':Shared):Prop where
 sx:SExt G M s s'
 oO:∀ a∈O,a∈O'
 mM:∀ a∈M,a∈M'
 nM:∀ a∈M',a∈M∨s.heap.get? a=none
 nO:∀ a∈O',a∈O∨s.heap.get? a=none
theorem Step.refl {O M:List Addr} {s:Shared} (B:Base G s.heap) (p:0<s.toks):Step G O M s O M s:=⟨.refl B p,fun _ m=>m,fun _ m=>m,fun _ m=>.inl m,fun _ m=>.inl m⟩
theorem Step.trans {O M O' M' O'' M'':List Addr} {s s' s'':Shared} (hMO:∀ a∈M,a∈O) (x:Step G O M s O' M' s') (y:Step G O' M' s' O'' M'' s''):Step G O M s O'' M'' s'':=by
 have back:∀ a,a∉M→s'.heap.get? a=none→s.heap.get? a=none:=fun a m e=>x.sx.back a m e
 refine ⟨⟨?_,fun b o m e c=>?_,y.sx.base,y.sx.pos,fun b m e=>?_⟩,fun a m=>y.oO a (x.oO a m),fun a m=>y.mM a (x.mM a m),fun a m=>?_,fun a m=>?_⟩
 ·obtain ⟨h,t,rfl⟩:=x.sx.same;obtain ⟨h',t',rfl⟩:=y.sx.same;exact ⟨h',t',rfl⟩
 ·refine y.sx.keep b o (fun q=>?_) (x.sx.keep b o m e c) c
  rcases x.nM b q with q | q
  ·exact m q
  ·rw [q] at e;exact nn e
 ·by_cases q:b∈M'
  ·rcases x.nM b q with q | q
   ·exact absurd q m
   ·exact q
  ·exact x.sx.back b m (y.sx.back b q e)
 ·rcases y.nM a m with q | q
  ·exact x.nM a q
  ·by_cases q':a∈M
   ·exact .inl q'
   ·exact .inr (x.sx.back a q' q)
 ·rcases y.nO a m with q | q
  ·exact x.nO a q
  ·by_cases q':a∈M
   ·exact .inl (hMO a q')
   ·exact .inr (x.sx.back a q' q)
theorem Ext.step {O M:List Addr} {s s':Shared} (x:Ext G s s'):Step G O M s O M s':=⟨x.sext,fun _ m=>m,fun _ m=>m,fun _ m=>.inl m,fun _ m=>.inl m⟩
theorem FI.turn {env:Env} {own:Own} {O Oc M:List Addr} {ρ:Rho} {s:Shared} (x:FI G A env own O Oc M ρ s):zcc O M s.heap:=fun a m o e=>⟨x.mt a m o e,fun _=>x.mO a m⟩
theorem FI.ext {env:Env} {own:Own} {O Oc M:List Addr} {ρ:Rho} {s s':Shared} (x:FI G A env own O Oc M ρ s) (e:Ext G s s'):FI G A env own O Oc M ρ s' :=
 ⟨x.inv.ext e,x.mO,x.ml,x.mc,x.mo,x.m0,fun a m o q=>(by
   obtain ⟨o',e',c⟩:=x.inv.ov a (x.mO a m)
   rw [e.keep a o' e' c] at q
   obtain rfl:=soi q
   exact x.mt a m _ e'),x.cO,x.cM,x.inj⟩
noncomputable def StOK (G:GC) (A:Around) (t:Sem Flow) (env:Env) (Oc:List Addr) (ns:List Nat) (ρ:Rho) (out:Out):Prop :=
 ∀ (own:Own) (O M:List Addr) (s:Shared),own.ns=ns→FI G A env own O Oc M ρ s→∀ (Q:Flow→Shared→Prop) (E:Value→Shared→Prop),
  (∀ ρ' own' O' M' s',out=.next ρ'→own'.ns=ns→FI G A env own' O' Oc M' ρ' s'→Step G O M s O' M' s'→Q .next s') →
  (∀ d v s',out=.ret d→SExt G M s s'→VRep G.w Oc s'.heap v d→Q (.ret v) s')→wpAny (mdl G) A t Q E s
theorem yra {env:Env} {Oc:List Addr} {ns:List Nat} {ρ:Rho}:StOK G A (execs [] env) env Oc ns ρ (.next ρ):=fun own O M s hn F Q E q _ =>
 wpAny_execs_nil (q ρ own O M s rfl hn F (.refl F.inv.base F.inv.pos))
theorem ydq {env:Env} {Oc:List Addr} {ns:List Nat} {ρ:Rho} {x:Stmt} {xs:List Stmt} {o1 out:Out} (h1:StOK G A (exec x env) env Oc ns ρ o1) (h2:∀ ρ',o1=.next ρ'→StOK G A (execs xs env) env Oc ns ρ' out) (h3:∀ d,o1=.ret d→out=.ret d) :
  StOK G A (execs (x::xs) env) env Oc ns ρ out:=fun own O M s hn F Q E q1 q2=>by
 rw [arm_execs_cons]
 refine wpAny_bind (h1 own O M s hn F _ _ (fun ρ' own' O' M' s' e hn' F' st=>?_) (fun d v s' e sx r=>?_))
 ·exact h2 ρ' e own' O' M' s' hn' F' _ _ (fun ρ2 own2 O2 M2 s2 e2 hn2 F2 st2=>q1 ρ2 own2 O2 M2 s2 e2 hn2 F2 (Step.trans F.mO st st2)) (fun d v s2 e2 sx r=>q2 d v s2 e2 (Step.trans F.mO st ⟨sx,fun _ m=>m,fun _ m=>m,fun _ m=>.inl m,fun _ m=>.inl m⟩:Step G O M s O' M' s2).sx r)
 ·exact wpAny_pure (q2 d v s' (h3 d e) sx r)
end
end Internal
namespace Internal
section
variable {G:GC} {A:Around} {S:Sig} {env:Env} {own:Own} {O Oc M:List Addr} {ρ:Rho} {d:D} {ns:List Nat}
theorem FI.back {s:Shared} (F:FI G A env own O Oc M ρ s):∀ a∈M,∃ o,s.heap.get? a=some o∧zhj o:=fun a m=>F.inv.ov a (F.mO a m)
noncomputable def wtg (G:GC) (env:Env) (tg:List Nat):List Addr:=env.locals::tg.filterMap fun n=>(G.names[n]?).bind fun x=>if env.kindOf x==some .cell then env.cells.lookup x else none
theorem zmb (tg:List Nat):WOK env G (wtg G env tg) tg:=⟨mch,fun n m x c h1 h2 h3=>mct _ (List.mem_filterMap.mpr ⟨n,m,by rw [h1];simp [h2,h3]⟩)⟩
theorem yep {tg:List Nat} {a:Addr} (m:a∈wtg G env tg):a=env.locals∨∃ x,(env.kindOf x=some .cell∨env.kindOf x=some .free)∧env.cells.lookup x=some a:=by
 rcases mcp m with rfl | m
 ·exact .inl rfl
 ·obtain ⟨n,_,e⟩:=List.mem_filterMap.mp m
  obtain ⟨x,_,e⟩:=Option.bind_eq_some_iff.mp e
  split at e
  ·rename_i c;exact .inr ⟨x, .inl (bqp c),e⟩
  ·exact nn e
theorem FI.wtg {s:Shared} (F:FI G A env own O Oc M ρ s) {tg:List Nat}:∀ a∈wtg G env tg,a∈M:=fun a m=>by
 rcases yep m with rfl | ⟨x,_,e⟩
 ·exact F.ml
 ·exact F.mc x a e
theorem FI.stored {s s':Shared} {ρ':Rho} {tg:List Nat} (F:FI G A env own O Oc M ρ s) (x:SExt G (Internal.wtg G env tg) s s') (I:Inv G A env own O ρ' s'):FI G A env own O Oc M ρ' s' :=
 ⟨I,F.mO,F.ml,F.mc,F.mo,F.m0,fun a m o e=>(by
  by_cases c:a∈Internal.wtg G env tg
  ·exact (znk I (fun a m=>yep m) a c o e).1
  ·obtain ⟨o',e',q⟩:=F.back a m
   rw [x.keep a o' c e' q] at e
   obtain rfl:=soi e
   exact F.mt a m _ e'),F.cO,F.cM,F.inj⟩
theorem FI.step {s s':Shared} {tg:List Nat} (F:FI G A env own O Oc M ρ s) (x:SExt G (Internal.wtg G env tg) s s'):Step G O M s O M s':=⟨x.mono F.wtg,fun _ m=>m,fun _ m=>m,fun _ m=>.inl m,fun _ m=>.inl m⟩
theorem FI.weaken {s:Shared} {ρ':Rho} (F:FI G A env own O Oc M ρ s) (h:∀ n d,ρ'.get n=some d→ρ.get n=some d):FI G A env own O Oc M ρ' s :=
 ⟨⟨F.inv.ok,F.inv.hh,F.inv.base,F.inv.pos,F.inv.ov,F.inv.envr.weaken h⟩,F.mO,F.ml,F.mc,F.mo,F.m0,F.mt,F.cO,F.cM,F.inj⟩
noncomputable abbrev EvF (G:GC) (A:Around) (x:Expr) (env:Env) (ns:List Nat) (ρ:Rho) (d:D):Prop:=∀ own O,own.ns=ns→EvOK G A x env own O ρ d
noncomputable abbrev TrF (G:GC) (A:Around) (x:Expr) (env:Env) (ns:List Nat) (ρ:Rho) (b:Bool):Prop:=∀ own O,own.ns=ns→TrOK G A x env own O ρ b
theorem zii {env:Env} (h:env.scope.kind=.function):interactive env=false:=by unfold interactive;rw [h];rfl
noncomputable def zki (e:Expr):Bool:=e.ctorIdx==8 || e.ctorIdx==9 || e.ctorIdx==10
theorem zcw {value:Expr} (h:zki value=false) (t:Option Expr) (l:Nat) (env:Env):swapsWith value t l env=pure false:=by
 cases value <;> first | rfl | cases h
noncomputable def zmf (kind:Str→Option NameKind) (t:Str) (p:Pos) (value:Expr):Bool:=match value with
 | .ListComp _ _ s _ | .SetComp _ _ s _ | .DictComp _ _ _ s _=>kind t==some .local&&p.line==value.pos.line&&!(s.names.any fun (n,k)=>n==t&&(k==.local || k==.cell))
 | _=>false
theorem zys {value:Expr} (h:zki value=false) (kind:Str→Option NameKind) (t:Str) (p:Pos):zmf kind t p value=false:=by
 cases value <;> first | rfl | cases h
theorem zkh {value:Expr} {t:Str} {p:Pos} {l:Nat} {env:Env} (h:env.scope.kind=.function):swapsWith value (some (.Name t p)) l env=pure (zmf env.kindOf t p value):=by
 have e:(env.blockKind==.function)=true:=by unfold Env.blockKind;rw [h];rfl
 cases value <;> first | rfl | (unfold swapsWith zmf;simp only [e,Bool.true_and])
theorem zni {value:Expr} {es:List Expr} {k:Nat} {p:Pos} {l:Nat} {env:Env}:swapsWithSole [.Tuple es k p] value l env=pure false:=by
 cases value <;> rfl
theorem yrb {x:Expr} {pos:Pos} (h:EvF G A x env ns ρ d):StOK G A (exec (.Return (some x) pos) env) env Oc ns ρ (.ret d):=fun own O M s hn F Q E _ q=>by
 rw [arm_exec_Return]
 exact wpAny_bind (wpAny_standAt (wpAny_bind (h own O hn s F.inv _ _ fun v s1 x1 r1=>wpAny_pure (q d v s1 rfl x1.sext (r1.sub F.cO)))))
theorem yqz {c:Expr} {a b:List Stmt} {pos:Pos} {t:Bool} {out:Out} (hc:TrF G A c env ns ρ t) (ha:t=true→StOK G A (execs a env) env Oc ns ρ out) (hb:t=false→StOK G A (execs b env) env Oc ns ρ out):StOK G A (exec (.If c a b pos) env) env Oc ns ρ out:=fun own O M s hn F Q E q1 q2=>by
 refine wpAny_If (hc own O hn s F.inv _ _ fun s1 x1=>?_)
 have k1:∀ ρ' own' O' M' s',out=.next ρ'→own'.ns=ns→FI G A env own' O' Oc M' ρ' s'→Step G O M s1 O' M' s'→Q .next s':=fun ρ' own' O' M' s' e1 e2 e3 e4=>q1 ρ' own' O' M' s' e1 e2 e3 (Step.trans F.mO x1.step e4)
 have k2:∀ d v s',out=.ret d→SExt G M s1 s'→VRep G.w Oc s'.heap v d→Q (.ret v) s':=fun d v s' e1 e2 e3=>q2 d v s' e1 (x1.sext.trans e2) e3
 cases t with
 | true=>exact ha rfl own O M s1 hn (F.ext x1) Q E k1 k2
 | false=>exact hb rfl own O M s1 hn (F.ext x1) Q E k1 k2
theorem ydp {c:Expr} {m:Option Expr} {pos:Pos} (hc:TrF G A c env ns ρ true):StOK G A (exec (.Assert c m pos) env) env Oc ns ρ (.next ρ):=fun own O M s hn F Q E q _ =>
 wpAny_Assert_holds (hc own O hn s F.inv _ _ fun s1 x1=>⟨rfl,q ρ own O M s1 rfl hn (F.ext x1) x1.step⟩)
theorem yre {body:List Stmt} {h₀:ExceptHandler} {hs:List ExceptHandler} {pos:Pos} {out:Out} (h:StOK G A (execs body env) env Oc ns ρ out):StOK G A (exec (.Try body (h₀::hs) [] [] pos) env) env Oc ns ρ out:=fun own O M s hn F Q E q1 q2 =>
 wpAny_Try_except (h own O M s hn F _ _ (fun ρ' own' O' M' s' e1 e2 e3 e4=>wpAny_execs_nil (q1 ρ' own' O' M' s' e1 e2 e3 e4)) (fun d v s' e1 e2 e3=>q2 d v s' e1 e2 e3))
theorem yrd {n:Nat} {x:Str} {k:NameKind} {value:Expr} {np pos:Pos} (nm:G.names[n]?=some x) (hk:env.kindOf x=some k) (hkk:k=.local∨k=.cell) (hno:n∉ns) (hfn:env.scope.kind=.function) (hs:zmf env.kindOf x np value=false)
  (h:EvF G A value env ns ρ d):StOK G A (exec (.Assign [.Name x np] value pos) env) env Oc ns ρ (.next (ρ.set n d)):=fun own O M s hn F Q E q _=>by
 refine wpAny_Assign_Name (h own O hn s F.inv _ _ fun v s1 x1 r1=>?_) (by rw [zkh hfn,hs])
 refine zfz (W:=wtg G env [n]) (F.inv.ext x1) nm hk hkk (zhr (hn▸hno) r1) ⟨mch,fun hc c e=>(zmb (G:=G) (env:=env) [n]).2 n (by simp) x c nm hc e⟩ fun s2 x2 _ I2=>?_
 have F1:=F.ext x1
 exact q _ own O M s2 rfl hn (F1.stored x2 I2) (Step.trans F.mO x1.step (F1.step x2))
theorem yqw {n:Nat} {x:Str} {k:NameKind} {value:Expr} {o:Operator} {np pos:Pos} {a b:D} (nm:G.names[n]?=some x) (hk:env.kindOf x=some k) (hkk:k=.local∨k=.cell) (hno:n∉ns) (hx:(x==("__classdict__" : Str))=false) (hg:ρ.get n=some a)
  (h:EvF G A value env ns ρ b) (hb:zuo o a b=some d):StOK G A (exec (.AugAssign (.Name x np) o value pos) env) env Oc ns ρ (.next (ρ.set n d)):=fun own O M s hn F Q E q _=>by
 refine wpAny_AugAssign_Name (zlo F.inv nm hk (hkk.imp id .inl) hx hg fun v r=>h own O hn s F.inv _ _ fun u s1 x1 r1=>?_)
 unfold SRep at r
 rw [if_neg (hn▸hno)] at r
 refine zxk x1.base x1.pos (r.keep x1.keep) r1 hb _ _ fun z s2 x2 r2=>?_
 have x12:=x1.trans x2
 refine zfz (W:=wtg G env [n]) (F.inv.ext x12) nm hk hkk (zhr (hn▸hno) r2) ⟨mch,fun hc c e=>(zmb (G:=G) (env:=env) [n]).2 n (by simp) x c nm hc e⟩ fun s3 x3 _ I3=>?_
 have F1:=F.ext x12
 exact q _ own O M s3 rfl hn (F1.stored x3 I3) (Step.trans F.mO x12.step (F1.step x3))
end
end Internal
namespace Internal
section
variable {G:GC} {A:Around} {S:Sig} {env:Env} {own:Own} {O Oc M:List Addr} {ρ:Rho} {d:D} {ns:List Nat}
theorem VReps.grow {w:World} {O O':List Addr} {h:Heap} {vs:List Value} {ds:List D} (r:VReps w O h vs ds) (k:∀ a∈O',a∈O∨h.get? a=Option.none):VReps w O' h vs ds :=
 let ⟨as,x,y,z⟩:=r
 ⟨as,x,fun b m=>⟨fun q=>(k b q).elim (y b m).1 fun e=>(by obtain ⟨o,e',_⟩:=zcg x b m;rw [e] at e';exact nn e'),(y b m).2⟩,z⟩
theorem Step.vreps {O' M':List Addr} {s s':Shared} {vs:List Value} {ds:List D} (F:FI G A env own O Oc M ρ s) (x:Step G O M s O' M' s') (r:VReps G.w O s.heap vs ds):VReps G.w O' s'.heap vs ds :=
 (r.grow x.nO).but x.sx.keep fun a m o e=>⟨F.mt a m o e,fun _=>x.oO a (F.mO a m)⟩
inductive ApartIt (G:GC) (A:Around) (O M:List Addr) (tg:Expr) (s:Shared) (ds:List D) (I:Addr) (s':Shared):Prop
 | mk (fp wr:List Addr) (vs:List Value) (es:List D) (St:Nat→Heap→Prop) (P Md:Nat→Value→Heap→Prop) (it:IterOK G A false tg I fp wr ds vs es St P Md) (st:St 0 s'.heap) (rv:VReps G.w O s'.heap vs es) (h1:∀ b∈wr,s.heap.get? b=none)
  (h2:∀ b∈fp,∃ o,s'.heap.get? b=some o) (h3:∀ b∈fp,s.heap.get? b=none∨b∉M∨∃ vs,s'.heap.IsTuple b vs)
noncomputable def ysf (G:GC) (A:Around) (O M:List Addr) (tg:Expr) (t:Sem Value) (s:Shared) (ds:List D):Prop :=
 ∀ (Q:Value→Shared→Prop) (E:Value→Shared→Prop),(∀ I s',Ext G s s'→ApartIt G A O M tg s ds I s'→Q (.ref I) s')→wpAny (mdl G) A t (fun x s₁=>wpAny (mdl G) A (pyIter x) Q E s₁) E s
inductive ForI (G:GC) (A:Around) (env:Env) (O Oc M wr:List Addr) (ns:List Nat) (St:Nat→Heap→Prop) (f:D→Rho→Option Out) (out:Out) (ds es:List D) (vs:List Value) (s1:Shared) (n:Nat) (s':Shared):Prop
 | mk (i:Nat) (ρi:Rho) (own':Own) (O' M':List Addr) (hi:i≤ds.length) (hn:n=ds.length+1-i) (hg:goL f (ds.drop i) ρi=some out) (hn':own'.ns=ns) (F':FI G A env own' O' Oc M' ρi s') (sp:Step G (wr++O) (wr++M) s1 (wr++O') (wr++M') s')
  (hO:∀ a∈O,a∈O') (hM:∀ a∈M,a∈M') (hO':∀ a∈O',a∈O∨s1.heap.get? a=none) (hM':∀ a∈M',a∈M∨s1.heap.get? a=none) (st':St i s'.heap) (rv':VReps G.w O' s'.heap vs es)
theorem yjo {target iter:Expr} {body:List Stmt} {pos:Pos} {tg:List Nat} {ds:List D} {f:D→Rho→Option Out} {out:Out} {s:Shared} (hn:own.ns=ns) (F:FI G A env own O Oc M ρ s) (hsrc:ysf G A O M target (eval iter env) s ds) (hns:zjp iter=true)
  (ht:∀ own,own.ns=ns→TargetOK G env own target tg) (hb:∀ x ρ' o,f x ρ'=some o→∃ ρ'',zcn ρ' tg x=some ρ''∧StOK G A (execs body env) env Oc ns ρ'' o) (hf:goL f ds ρ=some out) (Q:Flow→Shared→Prop) (E:Value→Shared→Prop)
  (q1:∀ ρ' own' O' M' s',out=.next ρ'→own'.ns=ns→FI G A env own' O' Oc M' ρ' s'→Step G O M s O' M' s'→Q .next s')
  (q2:∀ d v s',out=.ret d→SExt G M s s'→VRep G.w Oc s'.heap v d→Q (.ret v) s'):wpAny (mdl G) A (exec (.For target iter body [] pos) env) Q E s:=by
 refine wpAny_For (hsrc _ _ fun I s1 gext git=>?_) (fun x=>zle hns env x)
 obtain ⟨fp,wr,vs,es,St,P,Md,it,st,rv,h1,h2,h3⟩:=git
 have T:=it.turns
 have F1:=F.ext gext
 have hwO:∀ b∈wr,b∉O:=fun b m mO=>by obtain ⟨o,e,_⟩:=F.inv.ov b mO;rw [h1 b m] at e;exact nn e
 have hw0:∀ b∈wr,G.h₀.get? b=none:=fun b m=>zby (fun o e=>F.inv.base.keep b o e) (h1 b m)
 have hfM:∀ b∈fp,b∉M:=fun b m mM=>by
  rcases h3 b m with h | h | ⟨us,h⟩
  ·obtain ⟨o,e,_⟩:=F.back b mM;rw [h] at e;exact nn e
  ·exact h mM
  ·obtain ⟨o,e,c,n,hd⟩:=h
   exact (F1.mt b mM o e).1 _ _ c hd
 have hfs:∀ b∈fp,s1.heap.get? b≠none:=fun b m e=>by obtain ⟨o,e'⟩:=h2 b m;rw [e] at e';exact nn e'
 have hMO:∀ a∈wr++M,a∈wr++O:=fun a m=>(map2 m).elim (fun m=>List.mem_append_left _ m) fun m=>List.mem_append_right _ (F.mO a m)
 have lift:∀ {O1 M1 O2 M2:List Addr} {t t':Shared},Step G O1 M1 t O2 M2 t'→Step G (wr++O1) (wr++M1) t (wr++O2) (wr++M2) t':=fun x =>
  ⟨x.sx.mono fun a m=>List.mem_append_right _ m,fun a m=>(map2 m).elim (fun m=>List.mem_append_left _ m) fun m=>List.mem_append_right _ (x.oO a m),
  fun a m=>(map2 m).elim (fun m=>List.mem_append_left _ m) fun m=>List.mem_append_right _ (x.mM a m),
  fun a m=>(map2 m).elim (fun m=>.inl (List.mem_append_left _ m)) fun m=>(x.nM a m).imp (fun m=>List.mem_append_right _ m) id,
  fun a m=>(map2 m).elim (fun m=>.inl (List.mem_append_left _ m)) fun m=>(x.nO a m).imp (fun m=>List.mem_append_right _ m) id⟩
 have drop:∀ {O2 M2:List Addr} {t:Shared},Step G (wr++O) (wr++M) s1 (wr++O2) (wr++M2) t→(∀ a∈O,a∈O2)→(∀ a∈M,a∈M2)→(∀ a∈O2,a∉wr)→(∀ a∈M2,a∉wr)→Step G O M s O2 M2 t:=fun {O2 M2 t} x k1 k2 k3 k4=>by
  have xs:=gext.sext.trans x.sx
  refine ⟨⟨xs.same,fun b o m e c=>xs.keep b o (fun mm=>?_) e c,xs.base,xs.pos,fun b m e=>?_⟩,k1,k2,fun a m=>?_,fun a m=>?_⟩
  ·rcases map2 mm with mm | mm
   ·rw [h1 b mm] at e;exact nn e
   ·exact m mm
  ·by_cases mm:b∈wr
   ·exact h1 b mm
   ·exact xs.back b (fun q=>(map2 q).elim mm m) e
  ·rcases x.nM a (List.mem_append_right _ m) with q | q
   ·exact (map2 q).elim (fun q=>absurd q (k4 a m)) .inl
   ·exact .inr (gext.back a q)
  ·rcases x.nO a (List.mem_append_right _ m) with q | q
   ·exact (map2 q).elim (fun q=>absurd q (k3 a m)) .inl
   ·exact .inr (gext.back a q)
 refine codeAny_forLoop_any
  (ForI G A env O Oc M wr ns St f out ds es vs s1) (fun n s' hI=>?_) (ds.length+1)
  ⟨0,ρ,own,O,M,Nat.zero_le _,rfl,by simpa using hf,hn,F1, .refl F1.inv.base F1.inv.pos,fun _ m=>m,fun _ m=>m,fun _ m=>.inl m,fun _ m=>.inl m,st,rv⟩
 obtain ⟨i,ρi,own',O',M',hi,rfl,hg,hn',F',sp,hO,hM,hO',hM',st',rv'⟩:=hI
 have wrO:∀ b∈wr,b∉O':=fun b m mO=>(hO' b mO).elim (hwO b m) (hfs b (T.sub b m))
 have wrM:∀ b∈wr,b∉M':=fun b m mM=>wrO b m (F'.mO b mM)
 have fpM:∀ b∈fp,b∉M':=fun b m mM=>(hM' b mM).elim (hfM b m) (hfs b m)
 by_cases hlt:i<ds.length
 ·refine wpAny_with_toks (n:=1) F'.inv.pos (T.item i _ _ _ hlt st' fun v g1 tk hMd hk1 p1=>?_)
  refine wpAny_with_toks (n:=1) p1 (T.go i v _ _ _ hMd fun g2 hP st2 hk2 p2=>?_)
  have hk:∀ b o,b∉wr→s'.heap.get? b=some o→g2.get? b=some o:=fun b o m e=>hk2 b o m (hk1 b o m e)
  obtain ⟨I2,t2,sx2⟩:=F'.inv.iter (fun b m=>it.wrc i _ st' b m) wrO hw0 hk p2
  have F2:FI G A env own' O' Oc M' ρi { s' with heap:=g2,toks:=tk }:=⟨I2,F'.mO,F'.ml,F'.mc,F'.mo,F'.m0,fun a m o e=>(by
   obtain ⟨o',e',_⟩:=F'.back a m
   have e2:g2.get? a=some o:=e
   rw [hk a o' (fun q=>wrM a q m) e'] at e2
   obtain rfl:=soi e2
   exact F'.mt a m _ e'),F'.cO,F'.cM,F'.inj⟩
  have rv2:VReps G.w O' g2 vs es:=rv'.but sx2.keep t2
  have sp2:Step G (wr++O') (wr++M') s' (wr++O') (wr++M') { s' with heap:=g2,toks:=tk }:=⟨sx2.mono fun a m=>List.mem_append_left _ m,fun _ m=>m,fun _ m=>m,fun _ m=>.inl m,fun _ m=>.inl m⟩
  have hx:ds[i]?=some ds[i]:=List.getElem?_eq_getElem hlt
  have ri:=it.item O' g2 i v _ rv2 hP hx
  have hdrop:ds.drop i=ds[i]::ds.drop (i+1):=List.drop_eq_getElem_cons hlt
  rw [hdrop] at hg
  cases hfo:f ds[i] ρi with
  | none=>unfold goL at hg;rw [hfo] at hg;exact nn hg
  | some o =>
   obtain ⟨ρ'',hbd,hst⟩:=hb _ _ _ hfo
   refine zfj (W:=wtg G env tg) (ht own' hn') I2 ri hbd (zmb tg) fun s3 x3 k3 I3=>?_
   have F3:=F2.stored x3 I3
   have sp3:=F2.step x3
   have rv3:=k3 _ _ rv2
   have frame:∀ (t t':Shared) (j:Nat),St j t.heap→KeepBut M' t.heap t'.heap→St j t'.heap:=fun t t' j hst hkb =>
    T.frame j _ _ hst fun b hb o e=>hkb b o (fpM b hb) e (it.solid j _ hst b hb o e)
   have st3:=frame { s' with heap:=g2,toks:=tk } s3 _ st2 sp3.sx.keep
   have sp13:Step G (wr++O) (wr++M) s1 (wr++O') (wr++M') s3:=Step.trans hMO (Step.trans hMO sp sp2) (lift sp3)
   refine hst own' O' M' s3 hn' F3 _ _ (fun ρ3 own3 O3 M3 s4 e3 hn3 F4 sp4=>?_) (fun d v s4 e3 sx4 r4=>?_)
   ·subst e3
    have hg':goL f (ds.drop (i+1)) ρ3=some out:=by unfold goL at hg;rw [hfo] at hg;exact hg
    have fr3:∀ a,s3.heap.get? a=none→a∈M∨s1.heap.get? a=none:=fun a e=>by
     by_cases q:a∈wr++M
     ·rcases map2 q with q | q
      ·obtain ⟨o,e'⟩:=it.ex _ _ st3 a q;rw [e] at e';exact nn e'
      ·exact .inl q
     ·exact .inr (sp13.sx.back a q e)
    refine ⟨ds.length+1-(i+1),by omega,i+1,ρ3,own3,O3,M3,hlt,rfl,hg',hn3,F4,Step.trans hMO sp13 (lift sp4),fun a m=>sp4.oO a (hO a m),fun a m=>sp4.mM a (hM a m),fun a m=>?_,fun a m=>?_,frame s3 s4 _ st3 sp4.sx.keep,sp4.vreps F3 rv3⟩
    ·rcases sp4.nO a m with q | q
     ·exact hO' a q
     ·exact (fr3 a q).imp (F.mO a) id
    ·rcases sp4.nM a m with q | q
     ·exact hM' a q
     ·exact fr3 a q
   ·subst e3
    have hout:out=.ret d:=by unfold goL at hg;rw [hfo] at hg;obtain rfl:=soi hg;rfl
    have sp14:Step G (wr++O) (wr++M) s1 (wr++O') (wr++M') s4:=Step.trans hMO sp13 (lift ⟨sx4,fun _ m=>m,fun _ m=>m,fun _ m=>.inl m,fun _ m=>.inl m⟩)
    exact q2 d v s4 hout (drop sp14 hO hM (fun a m mw=>wrO a mw m) (fun a m mw=>wrM a mw m)).sx r4
 ·have hi':i=ds.length:=Nat.le_antisymm hi (Nat.not_lt.mp hlt)
  subst hi'
  have hg':out=.next ρi:=by rw [List.drop_length] at hg;obtain rfl:=soi hg;rfl
  refine wpAny_with_toks (n:=1) F'.inv.pos (T.done _ _ _ st' fun g1 tk hk p1=>wpAny_execs_nil ?_)
  obtain ⟨I2,t2,sx2⟩:=F'.inv.iter (fun b m=>it.wrc _ _ st' b m) wrO hw0 hk p1
  have F2:FI G A env own' O' Oc M' ρi { s' with heap:=g1,toks:=tk }:=⟨I2,F'.mO,F'.ml,F'.mc,F'.mo,F'.m0,fun a m o e=>(by
   obtain ⟨o',e',_⟩:=F'.back a m
   have e2:g1.get? a=some o:=e
   rw [hk a o' (fun q=>wrM a q m) e'] at e2
   obtain rfl:=soi e2
   exact F'.mt a m _ e'),F'.cO,F'.cM,F'.inj⟩
  have sp2:Step G (wr++O') (wr++M') s' (wr++O') (wr++M') { s' with heap:=g1,toks:=tk }:=⟨sx2.mono fun a m=>List.mem_append_left _ m,fun _ m=>m,fun _ m=>m,fun _ m=>.inl m,fun _ m=>.inl m⟩
  exact q1 ρi own' O' M' _ hg' hn' F2 (drop (Step.trans hMO sp sp2) hO hM (fun a m mw=>wrO a mw m) (fun a m mw=>wrM a mw m))
theorem yqy {target iter:Expr} {body:List Stmt} {pos:Pos} {tg:List Nat} {ds:List D} {f:D→Rho→Option Out} {out:Out} (hsrc:∀ own O,own.ns=ns→zjx G A false iter env own O ρ target ds true) (hns:zjp iter=true)
  (ht:∀ own,own.ns=ns→TargetOK G env own target tg) (hb:∀ x ρ' o,f x ρ'=some o→∃ ρ'',zcn ρ' tg x=some ρ''∧StOK G A (execs body env) env Oc ns ρ'' o) (hf:goL f ds ρ=some out) :
  StOK G A (exec (.For target iter body [] pos) env) env Oc ns ρ out:=fun own O M s hn F Q E q1 q2 =>
 yjo hn F (fun Q' E' q=>hsrc own O hn s F.inv Q' E' fun I s' got=>q I s' got.ext (by
  obtain ⟨fp,wr,vs,es,St,P,Md,it,st,rv,h1,h2,h3⟩:=got.it
  exact ⟨fp,wr,vs,es,St,P,Md,it,st,rv,h1,h2,fun b m=>(h3 b m).imp id fun h=>h.imp (fun h mM=>h rfl (F.mO b mM)) id⟩)) hns ht hb hf Q E q1 q2
end
end Internal
namespace Internal
section
variable {G:GC} {A:Around} {S:Sig} {env:Env} {own:Own} {O Oc M:List Addr} {ρ:Rho} {d:D} {ns:List Nat}
noncomputable def znh (kind:Str→Option NameKind) (ts vs:List Expr):Option (Option (List Str)) :=
 if !(ts.length==2 || ts.length==3) || vs.length != ts.length then some none
 else if vs.any (fun | .Starred ..=>true | _=>false) then some none
 else
  let line:=(ts.head?.map (·.pos.line)).getD 0
  let names:=ts.filterMap fun
   | .Name id pos=>if kind id==some .local&&pos.line==line then some id else none
   | _=>none
  if names.length != ts.length || names.eraseDups.length != names.length then some none
  else if vs.all (foldedForSure 8) then some none
  else if vs.all (constantsAlone 8) then none
  else some (some names)
theorem ydz {ts vs:List Expr} {k k':Nat} {p p':Pos} {r:Option (List Str)} (hfn:env.scope.kind=.function) (h:znh env.kindOf ts vs=some r):swappedStores [.Tuple ts k p] (.Tuple vs k' p') env=pure r:=by
 have e:(env.blockKind != .function)=false:=by unfold Env.blockKind;rw [hfn];rfl
 unfold swappedStores
 simp only [e,Bool.or_false]
 unfold znh at h
 split at h
 ·rename_i c;obtain rfl:=soi h;exact if_pos c
 ·rename_i c
  refine (if_neg c).trans ?_
  split at h
  ·rename_i c2;obtain rfl:=soi h;exact if_pos c2
  ·rename_i c2
   refine (if_neg c2).trans ?_
   dsimp only at h
   split at h
   ·rename_i c3;obtain rfl:=soi h;exact if_pos c3
   ·rename_i c3
    refine (if_neg c3).trans ?_
    split at h
    ·rename_i c4;obtain rfl:=soi h;exact if_pos c4
    ·rename_i c4
     refine (if_neg c4).trans ?_
     split at h
     ·exact nn h
     ·rename_i c5
      obtain rfl:=soi h
      exact if_neg c5
theorem yrf {es:List Expr} {k:Nat} {value:Expr} {tp pos:Pos} {tg:List Nat} {xs:List D} (ht:∀ own,own.ns=ns→TargetOK G env own (.Tuple es k tp) tg) (hl:xs.length=tg.length) (hsw:swappedStores [.Tuple es k tp] value env=pure none)
  (h:EvF G A value env ns ρ (.tuple xs)):StOK G A (exec (.Assign [.Tuple es k tp] value pos) env) env Oc ns ρ (.next (zbl ρ tg xs)):=fun own O M s hn F Q E q _=>by
 refine Assign_Tuple (h own O hn s F.inv _ _ fun v s1 x1 r1=>?_) zni hsw
 have hb:zcn ρ tg (.tuple xs)=some (zbl ρ tg xs):=by
  cases ht own hn with
  | tup _ h2 =>
   exact zzf (fun e=>by omega) hl
 refine zfj (W:=wtg G env tg) (ht own hn) (F.inv.ext x1) r1 hb (zmb tg) fun s2 x2 _ I2=>?_
 have F1:=F.ext x1
 exact q _ own O M s2 rfl hn (F1.stored x2 I2) (Step.trans F.mO x1.step (F1.step x2))
inductive NmsOK (G:GC) (env:Env) (own:Own):List Str→List Nat→Prop
 | nil:NmsOK G env own [] []
 | cons {x k n xs ns}:G.names[n]?=some x→env.kindOf x=some k→(k=.local∨k=.cell)→n∉own.ns→NmsOK G env own xs ns→NmsOK G env own (x::xs) (n::ns)
theorem NmsOK.append {a b:List Str} {m n:List Nat} (h:NmsOK G env own a m) (h':NmsOK G env own b n):NmsOK G env own (a++b) (m++n):=by
 induction h with
 | nil=>exact h'
 | cons h1 h2 h3 h4 _ ih=>exact .cons h1 h2 h3 h4 ih
theorem NmsOK.reverse {a:List Str} {m:List Nat} (h:NmsOK G env own a m):NmsOK G env own a.reverse m.reverse:=by
 induction h with
 | nil=>exact .nil
 | cons h1 h2 h3 h4 _ ih=>rw [List.reverse_cons,List.reverse_cons];exact ih.append (.cons h1 h2 h3 h4 .nil)
theorem yqb {line:Nat} {es:List Expr} {tg:List Nat} (h:TgOK G env own es tg):∀ {names:List Str},(es.filterMap fun
   | .Name id pos=>if env.kindOf id==some .local&&pos.line==line then some id else none
   | _=>none)=names→names.length=es.length→NmsOK G env own names tg:=by
 induction h with
 | nil=>intro names h _;cases h;exact .nil
 | cons h1 h2 h3 h4 h5 ih =>
  rename_i x pos n k es tg
  intro names h hl
  rw [List.filterMap_cons] at h
  dsimp only at h
  split at h
  ·rename_i e
   exfalso
   have:=List.length_filterMap_le (fun e:Expr=>match e with
    | .Name id pos=>if env.kindOf id==some .local&&pos.line==line then some id else none
    | _=>none) es
   rw [← h,List.length_cons] at hl
   have hl':(es.filterMap fun e:Expr=>match e with
    | .Name id pos=>if env.kindOf id==some .local&&pos.line==line then some id else none
    | _=>none).length=es.length+1:=hl
   omega
  ·rename_i y e
   split at e
   ·obtain rfl:=soi e
    subst h
    exact .cons h1 h2 h3 h4 (ih rfl (by simpa using hl))
   ·exact nn e
theorem yfj {W:List Addr}:∀ {xs:List Str} {tg:List Nat},NmsOK G env own xs tg→∀ {ρ:Rho} {vs:List Value} {ds:List D} {s:Shared},Inv G A env own O ρ s→VReps G.w O s.heap vs ds→ds.length=tg.length→WOK env G W tg →
  ∀ {Q:Unit→Shared→Prop} {E:Value→Shared→Prop},(∀ s',SExt G W s s'→Inv G A env own O (zbl ρ tg ds) s'→Q () s')→wpAny (mdl G) A (assignInOrder (xs.map fun n=>bindName env n) vs) Q E s:=by
 intro xs tg h
 induction h with
 | nil =>
  intro ρ vs ds s I r hl hW Q E q
  obtain rfl:ds=[]:=List.length_eq_zero_iff.mp hl
  exact assignInOrder_nil (q s (.refl I.base I.pos) I)
 | cons h1 h2 h3 h4 h5 ih =>
  intro ρ vs ds s I r hl hW Q E q
  cases ds with
  | nil=>simp at hl
  | cons d ds =>
   obtain ⟨v,vs,rfl,r1,r2⟩:=r.cons_inv
   refine assignInOrder_cons (wpAny_bindName (zfz (W:=W) I h1 h2 h3 (zhr h4 r1) ⟨hW.1,fun hk c hc=>hW.2 _ (by simp) _ c h1 hk hc⟩ fun s1 x1 k1 I1=>?_))
   exact ih I1 (k1 _ _ r2) (by simpa using hl) ⟨hW.1,fun m hm=>hW.2 m (mct _ hm)⟩ fun s2 x2 I2=>q s2 (x1.trans x2) I2
theorem zgz:∀ (ns:List Nat) (ds:List D) (ρ:Rho) (m:Nat),ns.Nodup→(zbl ρ ns ds).get m=match (ns.zip ds).lookup m with | some d=>some d | none=>ρ.get m
 | [],_,_,_,_=>by simp [zbl]
 | n::ns,[],_,_,_=>by simp [zbl]
 | n::ns,d::ds,ρ,m,h=>by
  obtain ⟨h1,h2⟩:=List.nodup_cons.mp h
  unfold zbl
  rw [zgz ns ds _ m h2,List.zip_cons_cons,List.lookup_cons,Rho.get_set]
  by_cases e:m=n
  ·subst e
   have:(ns.zip ds).lookup m=none:=by
    cases q:(ns.zip ds).lookup m with
    | none=>rfl
    | some d' =>
     exfalso
     have key:∀ {l:List (Nat × D)} {n:Nat} {c:D},l.lookup n=some c→(n,c)∈l:=by
      intro l
      induction l with
      | nil=>intro n c h;simp at h
      | cons p r ih =>
       intro n c h
       rw [List.lookup_cons] at h
       cases hb:n==p.1 with
       | true=>rw [hb] at h;obtain rfl:=soi h;rw [bqp hb];exact mch
       | false=>rw [hb] at h;exact mct _ (ih h)
     exact h1 (List.of_mem_zip (key q)).1
   rw [this];simp
  ·have hb:(m==n)=false:=by simpa using e
   rw [hb]
   simp only [e,if_false]
theorem zfe {l:List (Nat × D)} (hn:(l.map (·.1)).Nodup) {n:Nat} {c:D}:l.lookup n=some c↔(n,c)∈l:=by
 induction l with
 | nil=>simp
 | cons p r ih =>
  obtain ⟨h1,h2⟩:=List.nodup_cons.mp hn
  rw [List.lookup_cons]
  cases hb:n==p.1 with
  | true =>
   have e:=bqp hb
   constructor
   ·intro h;obtain rfl:=soi h;rw [e];exact mch
   ·intro h
    rcases mcp h with h | h
    ·rw [← h]
    ·exact absurd (show p.1∈r.map (·.1) by rw [← e];exact List.mem_map_of_mem (f:=(·.1)) h) h1
  | false =>
   have e:n≠p.1:=by simpa using hb
   rw [ih h2]
   constructor
   ·intro h;exact mct _ h
   ·intro h
    rcases mcp h with h | h
    ·exact absurd (by rw [← h]) e
    ·exact h
theorem zqs {α:Type} {l:List α} (h:l.Nodup):l.reverse.Nodup:=List.pairwise_reverse.mpr (h.imp fun x=>x.symm)
theorem yev {α β:Type}:∀ {a:List α} {b:List β},a.length=b.length→a.reverse.zip b.reverse=(a.zip b).reverse
 | [],[],_=>rfl
 | x::a,y::b,h=>by
  have h':a.length=b.length:=by simpa using h
  rw [List.reverse_cons,List.reverse_cons,List.zip_append (by simpa using h'),yev h']
  simp
 | [],_::_,h=>by simp at h
 | _::_,[],h=>by simp at h
theorem zyd {ns:List Nat} {ds:List D} {ρ:Rho} (h:ns.Nodup) (hl:ds.length=ns.length) (m:Nat):(zbl ρ ns.reverse ds.reverse).get m=(zbl ρ ns ds).get m:=by
 rw [zgz _ _ _ _ (zqs h),zgz _ _ _ _ h]
 have e:ns.reverse.zip ds.reverse=(ns.zip ds).reverse:=yev (by omega)
 have n1:((ns.zip ds).map (·.1)).Nodup:=by
  have:(ns.zip ds).map (·.1)=ns:=List.map_fst_zip (by omega)
  rw [this];exact h
 have n2:((ns.zip ds).reverse.map (·.1)).Nodup:=by rw [List.map_reverse];exact zqs n1
 have:(ns.zip ds).reverse.lookup m=(ns.zip ds).lookup m:=by
  cases q:(ns.zip ds).lookup m with
  | some d=>exact (zfe n2).mpr (List.mem_reverse.mpr ((zfe n1).mp q))
  | none =>
   cases q2:(ns.zip ds).reverse.lookup m with
   | none=>rfl
   | some d =>
    have:=(zfe n1).mpr (List.mem_reverse.mp ((zfe n2).mp q2))
    rw [q] at this;exact nn this
 rw [e,this]
theorem yns {es:List Expr} {k:Nat} {value:Expr} {tp pos:Pos} {tg:List Nat} {xs:List D} {names:List Str} (ht:∀ own,own.ns=ns→NmsOK G env own names tg) (hl:xs.length=tg.length) (hnd:tg.Nodup) (hsw:swappedStores [.Tuple es k tp] value env=pure (some names))
  (hln:names.length=tg.length) (h:EvF G A value env ns ρ (.tuple xs)):StOK G A (exec (.Assign [.Tuple es k tp] value pos) env) env Oc ns ρ (.next (zbl ρ tg xs)):=fun own O M s hn F Q E q _=>by
 refine Assign_Tuple_swapped (h own O hn s F.inv _ _ fun v s1 x1 r1=>?_) zni hsw
 obtain ⟨a,vs,rfl,lt,rr⟩:=r1.tuple_inv
 have e:=rr.length
 simp only [Array.length_toList] at e
 have hsz:names.length=vs.size:=by rw [hln,← hl,e]
 rw [hsz]
 refine wpAny_unpackItems_tuple F.inv.hh lt fun h' hk=>?_
 have hk':∀ b o,s1.heap.get? b=some o→h'.get? b=some o:=fun b o e=>hk b o (fun q=>by rw [q,zak] at e;exact nn e) e
 have x0:Ext G s1 { s1 with heap:=h' }:=.all (t:=s1.toks) x1.base hk' x1.pos
 have x01:=x1.trans x0
 have rrev:VReps G.w O h' vs.toList.reverse xs.reverse:=by
  have r0:=rr.keep x0.keep
  refine .of_get (by simp [r0.length]) fun i v d e1 e2=>?_
  have hi:i<xs.length:=by have:=(List.getElem?_eq_some_iff.mp e2).1;simpa using this
  rw [List.getElem?_reverse (by rw [r0.length];exact hi)] at e1
  rw [List.getElem?_reverse hi] at e2
  obtain ⟨v',e3,r3⟩:=r0.get _ d e2
  rw [r0.length] at e1
  rw [e1] at e3;obtain rfl:=soi e3;exact r3
 refine yfj (W:=wtg G env tg.reverse) (ht own hn).reverse (F.inv.ext x01) rrev (by simpa using hl) (zmb _) fun s2 x2 I2=>?_
 have F1:=F.ext x01
 have F2:=F1.stored x2 I2
 exact q _ own O M s2 rfl hn (F2.weaken fun n d e=>by rw [zyd hnd hl];exact e) (Step.trans F.mO x01.step (F1.step x2))
end
end Internal
namespace Internal
section
variable {G:GC} {A:Around} {S:Sig} {env:Env} {own:Own} {O Oc M:List Addr} {ρ:Rho} {d:D} {ns:List Nat}
noncomputable def Own.put (own:Own) (n:Nat) (a:Addr):Own:=⟨own.ns,fun m=>if m=n then some a else own.at' m⟩
theorem EnvR.reown {own':Own} {h:Heap} (x:EnvR G env own O ρ h) (hns:own'.ns=own.ns) (ha:∀ m d,ρ.get m=some d→own'.at' m=own.at' m) (hi:∀ n a,own'.at' n=some a→a∈O):EnvR G env own' O ρ h :=
 { x with
  oin:=hi
  ns:=let ⟨m,a,b⟩:=x.ns;⟨m,a,fun n y d h1 h2 h3=>let ⟨v,e,r⟩:=b n y d h1 h2 h3;⟨v,e,by unfold SRep at *;rw [hns,ha n d h3];exact r⟩⟩
  cl:=fun n y d h1 h2 h3=>let ⟨c,v,e,q,r⟩:=x.cl n y d h1 h2 h3;⟨c,v,e,q,by unfold SRep at *;rw [hns,ha n d h3];exact r⟩ }
noncomputable def ztr (G:GC) (A:Around) (O:List Addr) (t:Sem Value) (s:Shared) (xs:List D):Prop :=
 ∀ (Q E:Value→Shared→Prop),(∀ s1 D (vs:Array Value),Ext G s s1→s.heap.get? D=none→s1.heap.PlainList D vs→VReps G.w (D::O) s1.heap vs.toList xs→Q (.ref D) s1)→wpAny (mdl G) A t Q E s
theorem FI.newOwn {s s1:Shared} {n:Nat} {D:Addr} {vs:Array Value} {xs:List Internal.D} (F:FI G A env own O Oc M ρ s) (x:Ext G s s1) (hD:s.heap.get? D=none) (pl:s1.heap.PlainList D vs) (r:VReps G.w (D::O) s1.heap vs.toList xs) (hl:xs.length≤16777216) (hn:n∈own.ns) :
  FI G A env (own.put n D) (D::O) Oc (D::M) (ρ.del [n]) s1∧SRep G.w (own.put n D) n (D::O) s1.heap (.ref D) (.list xs)∧Step G O M s (D::O) (D::M) s1:=by
 have F1:=F.ext x
 have hne:∀ a,(∃ o,s.heap.get? a=some o)→a≠D:=fun a ⟨o,e⟩ q=>by rw [q,hD] at e;exact nn e
 have hMD:∀ a∈M,a≠D:=fun a m=>hne a (let ⟨o,e,_⟩:=F.back a m;⟨o,e⟩)
 have gr:∀ a∈[D],s.heap.get? a=none:=fun a m=>by rw [msp m];exact hD
 obtain ⟨n0,e0⟩:=id pl
 refine ⟨⟨⟨F.inv.ok,F.inv.hh,x.base,x.pos,fun a m=>?_, ?_⟩,fun a m=>?_,mct _ F.ml,fun y c e=>mct _ (F.mc y c e),fun m a e=>?_,fun a m=>?_,fun a m o e=>?_,fun a m=>mct _ (F.cO a m),fun a m q=>?_,fun m k a e1 e2=>?_⟩, ?_,⟨x.sext,fun a m=>mct _ m,fun a m=>mct _ m,fun a m=>?_,fun a m=>?_⟩⟩
 ·rcases mcp m with rfl | m
  ·exact ⟨_,e0, .inl nofun⟩
  ·exact F1.inv.ov a m
 ·have E1:EnvR G env own (D::O) (ρ.del [n]) s1.heap:=((F.inv.envr.news gr).keep x.keep).weaken fun m d e=>by
   rw [Rho.get_del] at e;split at e
   ·exact nn e
   ·exact e
  refine E1.reown rfl (fun m d e=>?_) fun m a e=>?_
  ·rw [Rho.get_del] at e
   split at e
   ·exact nn e
   ·rename_i c
    have:m≠n:=fun q=>c (by simp [q])
    simp [Own.put,this]
  ·unfold Own.put at e
   dsimp only at e
   split at e
   ·obtain rfl:=soi e;exact mch
   ·exact mct _ (F.inv.envr.oin m a e)
 ·exact (mcp m).elim (fun e=>e▸mch) fun m=>mct _ (F.mO a m)
 ·unfold Own.put at e
  dsimp only at e
  split at e
  ·obtain rfl:=soi e;exact mch
  ·exact mct _ (F.mo m a e)
 ·rcases mcp m with rfl | m
  ·exact zby (fun o q=>F.inv.base.keep _ o q) hD
  ·exact F.m0 a m
 ·rcases mcp m with rfl | m
  ·rw [e0] at e;obtain rfl:=soi e;exact zft rfl rfl
  ·exact F1.mt a m o e
 ·rcases mcp m with rfl | m
  ·obtain ⟨o,e,_⟩:=F.inv.ov a (F.cO a q);rw [hD] at e;exact nn e
  ·exact F.cM a m q
 ·unfold Own.put at e1 e2
  dsimp only at e1 e2
  split at e1 <;> split at e2
  ·rename_i h1 h2;rw [h1,h2]
  ·obtain rfl:=soi e1;exact absurd rfl (hMD _ (F.mo _ _ e2))
  ·obtain rfl:=soi e2;exact absurd rfl (hMD _ (F.mo _ _ e1))
  ·exact F.inj _ _ _ e1 e2
 ·unfold SRep
  rw [if_pos (show n∈(own.put n D).ns from hn)]
  exact ⟨D,vs,xs,by simp [Own.put],rfl,mch,rfl,hl,pl,r⟩
 ·exact (mcp m).elim (fun e=>.inr (e▸hD)) .inl
 ·exact (mcp m).elim (fun e=>.inr (e▸hD)) .inl
theorem ynh (ρ:Rho) (n:Nat) (d:D) (m:Nat):((ρ.del [n]).set n d).get m=(ρ.set n d).get m:=by
 rw [Rho.get_set,Rho.get_set]
 by_cases c:m=n
 ·simp [c]
 ·rw [if_neg c,if_neg c,Rho.get_del]
  simp [c]
theorem yco {s s1:Shared} {n:Nat} {x:Str} {k:NameKind} {D:Addr} {vs:Array Value} {xs:List Internal.D} (F:FI G A env own O Oc M ρ s) (x1:Ext G s s1) (hD:s.heap.get? D=none) (pl:s1.heap.PlainList D vs) (r:VReps G.w (D::O) s1.heap vs.toList xs) (hl:xs.length≤16777216) (hn:n∈own.ns)
  (nm:G.names[n]?=some x) (hk:env.kindOf x=some k) (hkk:k=.local∨k=.cell) {Q:Unit→Shared→Prop} {E:Value→Shared→Prop}
  (q:∀ s2,FI G A env (own.put n D) (D::O) Oc (D::M) (ρ.set n (.list xs)) s2→Step G O M s (D::O) (D::M) s2→SExt G (wtg G env [n]) s1 s2→Q () s2):wpAny (mdl G) A (storeName env x (.ref D)) Q E s1:=by
 obtain ⟨F1,sr,sp⟩:=F.newOwn x1 hD pl r hl hn
 refine zfz (W:=wtg G env [n]) F1.inv nm hk hkk sr ⟨mch,fun hc c e=>(zmb (G:=G) (env:=env) [n]).2 n (by simp) x c nm hc e⟩ fun s2 x2 _ I2=>?_
 exact q s2 ((F1.stored x2 I2).weaken fun m d e=>by rw [ynh];exact e) (Step.trans F.mO sp (F1.step x2)) x2
theorem ydr {n:Nat} {x:Str} {k:NameKind} {value:Expr} {np pos:Pos} {xs:List D} (nm:G.names[n]?=some x) (hk:env.kindOf x=some k) (hkk:k=.local∨k=.cell) (hno:n∈ns) (hfn:env.scope.kind=.function) (hs:zmf env.kindOf x np value=false) (hl:xs.length≤16777216)
  (h:∀ own O s,own.ns=ns→Inv G A env own O ρ s→ztr G A O (eval value env) s xs):StOK G A (exec (.Assign [.Name x np] value pos) env) env Oc ns ρ (.next (ρ.set n (.list xs))):=fun own O M s hn F Q E q _=>by
 refine wpAny_Assign_Name (h own O s hn F.inv _ _ fun s1 D vs x1 hD pl r=>?_) (by rw [zkh hfn,hs])
 exact yco F x1 hD pl r hl (hn▸hno) nm hk hkk fun s2 F2 sp x2=>q _ (own.put n D) _ _ s2 rfl hn F2 sp
theorem zsz {es:List Expr} {pos:Pos} {xs:List D} {s:Shared} (I:Inv G A env own O ρ s) (h:EsOK G A es env own O ρ xs) (hl:xs.length≤1000):ztr G A O (eval (.List es pos) env) s xs:=fun Q E q=>by
 rw [arm_eval_List]
 refine wpAny_bind (wpAny_standAt (wpAny_bind (h s pos I _ _ fun vs s1 x1 r1=>?_)))
 have e:=r1.length
 have hk:∀ b o,s1.heap.get? b=some o→(s1.heap.push { cls:=.type "list",data:=.seq vs.toArray }).get? b=some o:=fun b o e=>Heap.get?_push_of_some _ e
 refine wpAny_newObj_type (q { s1 with heap:=s1.heap.push { cls:=.type "list",data:=.seq vs.toArray } } s1.heap.objs.size vs.toArray (x1.trans (.all (t:=s1.toks) x1.base hk x1.pos)) (x1.back _ (zak _)) ⟨0,Heap.get?_push_size _ rfl⟩ ?_) (by show vs.toArray.size≤sizeLine;rw [List.size_toArray,e,zay];omega)
 simpa using (r1.new (zak _)).keep (.of hk)
end
end Internal
namespace Internal
section
variable {G:GC} {A:Around} {S:Sig} {env:Env} {own:Own} {O Oc M:List Addr} {ρ:Rho} {d:D} {ns:List Nat}
theorem FI.turned {s:Shared} {n:Nat} {a:Addr} {vs vs':Array Value} {xs xs':List D} {h':Heap} (F:FI G A env own O Oc M ρ s) (hn:n∈own.ns) (ha:own.at' n=some a) (hg:ρ.get n=some (.list xs)) (pl:s.heap.PlainList a vs) (hs':Heap.SameBut a s.heap h') (pl':h'.PlainList a vs')
  (r':VReps G.w O h' vs'.toList xs') (hl:xs'.length≤16777216):FI G A env own O Oc M (ρ.set n (.list xs')) { s with heap:=h' }∧Step G O M s O M { s with heap:=h' }:=by
 have aM:a∈M:=F.mo n a ha
 have kb:KeepBut [a] s.heap h':=zdm (zat hs')
 obtain ⟨n0,e0⟩:=id pl
 obtain ⟨n1,e1⟩:=id pl'
 have ht:zcc O [a] s.heap:=fun b m o e=>by
  rcases msp m with rfl
  rw [e0] at e;obtain rfl:=soi e
  exact ⟨zft rfl rfl,fun _=>F.mO _ aM⟩
 have B:Base G h':=F.inv.base.but (zat hs') (fun b m=>by rcases msp m with rfl;exact F.m0 _ aM) fun b m o e=>(ht b m o e).1
 have loc_ne:env.locals∉[a]:=fun m=>by
  obtain ⟨mm,⟨o,es,ep,e2,e3,_⟩,_⟩:=F.inv.envr.ns
  rw [msp m,e0] at e2;obtain rfl:=soi e2;cases e3
 have cell_ne:∀ {c v},s.heap.IsCell c v→c∉[a]:=fun {c v} ⟨o,e2,e3⟩ m=>by
  rw [msp m,e0] at e2;obtain rfl:=soi e2;cases e3
 have oth:∀ m,m≠n→∀ b vs,own.at' m=some b→s.heap.PlainList b vs→b∉[a]:=fun m hm b _ hb _ q=>by
  rw [msp q] at hb
  exact hm (F.inj _ _ _ hb ha)
 have new:SRep G.w own n O h' (.ref a) (.list xs'):=by
  unfold SRep;rw [if_pos hn]
  exact ⟨a,vs',xs',ha,rfl,F.mO _ aM,rfl,hl,pl',r'⟩
 have val:∀ {v},SRep G.w own n O s.heap v (.list xs)→v=.ref a:=fun r=>by
  unfold SRep at r;rw [if_pos hn] at r
  obtain ⟨b,_,_,e,rfl,_⟩:=r
  rw [ha] at e;obtain rfl:=soi e;rfl
 have hnd:=F.inv.ok.nd
 refine ⟨⟨⟨F.inv.ok,F.inv.hh,B,F.inv.pos,F.inv.ov.but kb fun b m=>?_,⟨F.inv.envr.fn,F.inv.envr.gl,F.inv.envr.bi,F.inv.envr.lin,F.inv.envr.lfr,F.inv.envr.oin,F.inv.envr.cin,F.inv.envr.inj,fun y hy=>?_, ?_,fun m y d' h1 h2 h3=>?_⟩⟩,F.mO,F.ml,F.mc,F.mo,F.m0,fun b m o e=>?_,F.cO,F.cM,F.inj⟩,
  ⟨⟨⟨_,_,rfl⟩,kb.mono fun b m=>by rcases msp m with rfl;exact aM,B,F.inv.pos,fun b m e=>zby (fun o q=>zat hs' b o (fun mm=>m (by rcases msp mm with rfl;exact aM)) q) e⟩,fun _ m=>m,fun _ m=>m,fun _ m=>.inl m,fun _ m=>.inl m⟩⟩
 ·rcases msp m with rfl;exact ⟨_,e1, .inl nofun⟩
 ·obtain ⟨c,v,e,q⟩:=F.inv.envr.ce y hy
  exact ⟨c,v,e,kb.cell (cell_ne q) q⟩
 ·obtain ⟨mm,hm,hv⟩:=F.inv.envr.ns
  refine ⟨mm,kb.ns loc_ne hm,fun m y d' h1 h2 h3=>?_⟩
  rw [Rho.get_set] at h3
  by_cases c:m=n
  ·subst c
   rw [if_pos rfl] at h3;obtain rfl:=soi h3
   obtain ⟨v,e,r⟩:=hv m y _ h1 h2 hg
   rw [val r] at e
   exact ⟨_,e,new⟩
  ·rw [if_neg c] at h3
   obtain ⟨v,e,r⟩:=hv m y d' h1 h2 h3
   exact ⟨v,e,r.but kb ht (oth m c)⟩
 ·rw [Rho.get_set] at h3
  by_cases c:m=n
  ·subst c
   rw [if_pos rfl] at h3;obtain rfl:=soi h3
   obtain ⟨cc,v,e,q,r⟩:=F.inv.envr.cl m y _ h1 h2 hg
   rw [val r] at q
   exact ⟨cc,_,e,kb.cell (cell_ne q) q,new⟩
  ·rw [if_neg c] at h3
   obtain ⟨cc,v,e,q,r⟩:=F.inv.envr.cl m y d' h1 h2 h3
   exact ⟨cc,v,e,kb.cell (cell_ne q) q,r.but kb ht (oth m c)⟩
 ·by_cases c:b∈[a]
  ·rcases msp c with rfl
   have e:h'.get? b=some o:=e
   rw [e1] at e;obtain rfl:=soi e;exact zft rfl rfl
  ·obtain ⟨o',e',q⟩:=F.back b m
   have e:h'.get? b=some o:=e
   rw [kb b o' c e' q] at e;obtain rfl:=soi e
   exact F.mt b m _ e'
theorem yqv {n:Nat} {x:Str} {elt:Expr} {np ap p pos:Pos} {xs:List D} (N:NameOK G env n x) (hno:n∈ns) (hg:ρ.get n=some (.list xs)) (hp:(ap.endLine==p.line)=true) (hst:zbh elt=true) (hfn:env.scope.kind=.function) (h:EvF G A elt env ns ρ d) (hl:xs.length<1000000) :
  StOK G A (exec (.Expr (.Call (.Attribute (.Name x np) "append" ap) [elt] [] p) pos) env) env Oc ns ρ (.next (ρ.set n (.list (xs++[d])))):=fun own O M s hn F Q E q _=>by
 refine wpAny_Expr ?_ (zii hfn) (zcw rfl _ _ _)
 refine zgl rfl (show (zbh elt&&true)=true by rw [hst];rfl) (show 1<30 by omega) hp (zim N F.inv (hn▸hno) hg fun a vs ha aO z l r pl=>?_)
 obtain ⟨n0,e0⟩:=id l
 refine getMethod_builtin (T:="list") ⟨_,e0,rfl⟩ PySem.F.plainAttrs_list slot_list_append PySem.F.type_list_append (fun a' e'=>by cases e';exact ⟨_,e0,rfl⟩) ⟨_,rfl, ?_⟩
 rw [zch hst]
 refine spliced_cons (h own O hn s F.inv _ _ fun v s1 x1 r1=>spliced_nil ?_)
 have F1:=F.ext x1
 have l1:=zbd l x1.keep
 have e:=r.length
 simp only [Array.length_toList] at e
 refine wpAny_list_append_plain l1 (fun h' pl' hs'=>?_) (by rw [zay,e];omega)
 have ht:zcc O [a] s1.heap:=fun b m o e=>by
  rcases msp m with rfl
  exact F1.turn b (F.mo n b ha) o e
 have rr:VReps G.w O h' (vs.push v).toList (xs++[d]):=by
  rw [Array.toList_push]
  exact ((r.keep x1.keep).append (.cons r1 .nil)).but (zdm (zat hs')) ht
 obtain ⟨F2,sp⟩:=F1.turned (hn▸hno) ha hg l1 hs' pl' rr (by simp;omega)
 exact q _ own O M _ rfl hn F2 (Step.trans F.mO x1.step sp)
end
end Internal
namespace Internal
section
variable {G:GC} {A:Around} {S:Sig} {env:Env} {own:Own} {O Oc M:List Addr} {ρ:Rho} {d:D} {ns:List Nat}
theorem yqx {n:Nat} {x:Str} {idx:Expr} {np sp pos:Pos} {xs:List D} {i:Int} {j:Nat} (N:NameOK G env n x) (hno:n∈ns) (hg:ρ.get n=some (.list xs)) (hi:EvF G A idx env ns ρ (.int i)) (hj:seqIndex? i xs.length=some j) :
  StOK G A (exec (.Delete [.Subscript (.Name x np) idx sp] pos) env) env Oc ns ρ (.next (ρ.set n (.list (xs.eraseIdx j)))):=fun own O M s hn F Q E q _=>by
 refine wpAny_Delete (wpAny_deleteEach_cons (wpAny_delete_Subscript (zim N F.inv (hn▸hno) hg fun a vs ha aO z l r=>hi own O hn s F.inv _ _ fun u s1 x1 r1=>?_)))
 obtain ⟨t,rfl⟩:=r1.int_inv
 have F1:=F.ext x1
 have l1:=zbd l x1.keep
 have e:=r.length
 simp only [Array.length_toList] at e
 obtain ⟨hlt,hc⟩:=zfy hj
 have e63:(2:Int)^63=9223372036854775808:=by decide
 have hfit:Builtin.List.listFitsIndex i=true:=by
  unfold Builtin.List.listFitsIndex
  rw [e63]
  rcases hc with ⟨h0,h3⟩ | ⟨h0,h3,h4⟩
  ·rw [decide_eq_true (by omega),decide_eq_true (by omega)];rfl
  ·rw [decide_eq_true (by omega),decide_eq_true (by omega)];rfl
 refine wpAny_delItem_plain l1 hfit (by rw [e];exact hj) (fun h' pl' hs'=>wpAny_deleteEach_nil ?_) (by rw [zay,e];exact z)
 have ht:zcc O [a] s1.heap:=fun b m o e=>by
  rcases msp m with rfl
  exact F1.turn b (F.mo n b ha) o e
 have ev:(vs.eraseIdxIfInBounds j).toList=vs.toList.eraseIdx j:=by simp
 have rr:VReps G.w O h' (vs.eraseIdxIfInBounds j).toList (xs.eraseIdx j):=by
  rw [ev]
  refine VReps.but ?_ (zdm (zat hs')) ht
  have r0:=r.keep x1.keep
  refine .of_get (by rw [List.length_eraseIdx,List.length_eraseIdx,r0.length]) fun k v d e1 e2=>?_
  rw [List.getElem?_eraseIdx] at e1 e2
  split at e1
  ·rename_i c
   rw [if_pos c] at e2
   obtain ⟨v',e3,r3⟩:=r0.get _ d e2
   rw [e1] at e3;obtain rfl:=soi e3;exact r3
  ·rename_i c
   rw [if_neg c] at e2
   obtain ⟨v',e3,r3⟩:=r0.get _ d e2
   rw [e1] at e3;obtain rfl:=soi e3;exact r3
 obtain ⟨F2,sp⟩:=F1.turned (hn▸hno) ha hg l1 hs' pl' rr (Nat.le_trans (by rw [List.length_eraseIdx];split <;> omega) z)
 exact q _ own O M _ rfl hn F2 (Step.trans F.mO x1.step sp)
theorem yrc {n:Nat} {x:Str} {np ap p pos:Pos} {xs:List D} (N:NameOK G env n x) (hno:n∈ns) (hg:ρ.get n=some (.list xs)) (hp:(ap.endLine==p.line)=true) (hfn:env.scope.kind=.function) :
  StOK G A (exec (.Expr (.Call (.Attribute (.Name x np) "reverse" ap) [] [] p) pos) env) env Oc ns ρ (.next (ρ.set n (.list xs.reverse))):=fun own O M s hn F Q E q _=>by
 refine wpAny_Expr ?_ (zii hfn) (zcw rfl _ _ _)
 refine zgl rfl rfl (show 0<30 by omega) hp (zim N F.inv (hn▸hno) hg fun a vs ha aO z l r pl=>?_)
 obtain ⟨n0,e0⟩:=id l
 refine getMethod_builtin (T:="list") ⟨_,e0,rfl⟩ PySem.F.plainAttrs_list PySem.F.slot_list_reverse PySem.F.type_list_reverse (fun a' e'=>by cases e';exact ⟨_,e0,rfl⟩) ⟨_,rfl,spliced_nil ?_⟩
 have e:=r.length
 simp only [Array.length_toList] at e
 refine call_meets PySem.F.slot_list_reverse ⟨_,e0,rfl⟩ PySem.F.entry_list_reverse (PySem.F.args_list_reverse_1 _) (AutoListH.list_reverse_list_0 a vs n0 (by rw [zay,e];exact z)) ⟨e0, ?_⟩
 have hs':Heap.SameBut a s.heap (s.heap.update a (Obj.mapSeq fun x=>x.reverse)):=Heap.SameBut.update ..
 have pl':(s.heap.update a (Obj.mapSeq fun x=>x.reverse)).PlainList a vs.reverse:=⟨_,IsL.update (n:=n0) e0 _⟩
 have ht:zcc O [a] s.heap:=fun b m o e=>by
  rcases msp m with rfl
  exact F.turn b (F.mo n b ha) o e
 have rr:VReps G.w O (s.heap.update a (Obj.mapSeq fun x=>x.reverse)) vs.reverse.toList xs.reverse:=by
  refine VReps.but ?_ (zdm (zat hs')) ht
  rw [Array.toList_reverse]
  refine .of_get (by simp [e]) fun i v d e1 e2=>?_
  have hi:i<xs.length:=by have:=(List.getElem?_eq_some_iff.mp e2).1;simpa using this
  rw [List.getElem?_reverse (by rw [r.length];exact hi),r.length] at e1
  rw [List.getElem?_reverse hi] at e2
  obtain ⟨v',e3,r3⟩:=r.get _ d e2
  rw [e1] at e3;obtain rfl:=soi e3;exact r3
 obtain ⟨F2,sp⟩:=F.turned (hn▸hno) ha hg l hs' pl' rr (by simpa using z)
 exact q _ own O M _ rfl hn F2 sp
theorem ynr {n:Nat} {x:Str} {np pos:Pos} {xs:List D} (N:NameOK G env n x) (hno:n∈ns) (hg:ρ.get n=some (.list xs)):StOK G A (exec (.Return (some (.Name x np)) pos) env) env Oc ns ρ (.ret (.list xs)):=fun own O M s hn F Q E _ q=>by
 rw [arm_exec_Return]
 refine wpAny_bind (wpAny_standAt (wpAny_bind (zim N F.inv (hn▸hno) hg fun a vs ha aO z l r=>wpAny_pure (q (.list xs) _ s rfl (.refl F.inv.base F.inv.pos) ?_))))
 exact .list_of z (F.cM a (F.mo n a ha)) l.isList (fun o e=>by obtain ⟨n0,e'⟩:=l;rw [e'] at e;obtain rfl:=soi e;rfl) (r.sub F.cO)
end
end Internal
section
open PySem.Builtin PySem.Builtin.Str
namespace Internal
section
variable {G:GC} {A:Around} {S:Sig} {env:Env} {own:Own} {O Oc M:List Addr} {ρ:Rho} {d:D} {ns:List Nat}
theorem ziq {w:World} {h:Heap}:∀ {tk:Nat} {l:List Str},sokAll (l.map .str)=true→VReps w O h (strsFrom tk l) (l.map .str)
 | _,[],_=>.nil
 | tk,x::r,hs=>by
  obtain ⟨h1,h2⟩:=bap (show (sok (.str x)&&sokAll (r.map .str))=true from hs)
  exact .cons (.str h1) (ziq h2)
theorem zwz {x y:Str} {t u:Tok} {s:Shared} (B:Base G s.heap) (p:0<s.toks) (ov:OVal O s.heap) (hx:x.length≤16777216) (hy:0<y.length) (hs:sok (.list ((Txt.split x y).map .str))=true):ztr G A O (call (.builtin "str.split") [.str x t, .str y u]) s ((Txt.split x y).map .str):=fun Q E q=>by
 obtain ⟨hl,hsa⟩:=bap (show (decide (((Txt.split x y).map PyData.str).length≤16777216)&&sokAll ((Txt.split x y).map .str))=true from hs)
 have hl:=of_decide_eq_true hl
 have hy0:(y.length==0)=false:=by simpa using Nat.pos_iff_ne_zero.mp hy
 have key:∀ (vs:Array Value) (k:Nat),0<k→VReps G.w O s.heap vs.toList ((Txt.split x y).map .str)→Q (.ref s.heap.objs.size) { s with heap:=s.heap.push { cls:=.type "list",data:=.seq vs },toks:=k }:=fun vs k hk r=>by
  have kk:∀ b o,s.heap.get? b=some o→(s.heap.push { cls:=.type "list",data:=.seq vs }).get? b=some o:=fun b o e=>Heap.get?_push_of_some _ e
  exact q _ s.heap.objs.size vs (.all B kk hk) (zak _) ⟨0,Heap.get?_push_size _ rfl⟩ ((r.new (zak _)).keep (.of kk))
 cases h1:(decide (x.length<y.length) || decide (strKind x<strKind y))
 ·cases hf:(occurrences x y 0 x.length (x.length+1)).isEmpty
  ·have e:Txt.split x y=partsBetween x (occurrences x y 0 x.length (x.length+1)) y.length:=(if_neg (ne_true_of_eq_false h1)).trans (if_neg (ne_true_of_eq_false hf))
   rw [e] at hsa hl key
   refine call_meets PySem.F.slot_str_split (typeIs_str _ _ _) PySem.F.entry_str_split (PySem.F.args_str_split_2 _ _) (meets_str_split_sep x y t u h1 hy0 hf (by rw [zay];exact hx) (by rw [zay];simpa using hl)) ?_
   exact key _ _ (Nat.lt_of_lt_of_le p (Nat.le_add_right _ _)) (by simpa using ziq hsa)
  ·have e:Txt.split x y=[x]:=(if_neg (ne_true_of_eq_false h1)).trans (if_pos hf)
   rw [e] at hsa key
   refine call_meets PySem.F.slot_str_split (typeIs_str _ _ _) PySem.F.entry_str_split (PySem.F.args_str_split_2 _ _) (meets_str_split_not_found x y t u h1 hy0 hf) ?_
   exact key #[.str x t] s.toks p (.cons (.str (by simpa [sokAll] using hsa)) .nil)
 ·have e:Txt.split x y=[x]:=if_pos h1
  rw [e] at hsa key
  refine call_meets PySem.F.slot_str_split (typeIs_str _ _ _) PySem.F.entry_str_split (PySem.F.args_str_split_2 _ _) (meets_str_split_cannot_occur x y t u h1) ?_
  exact key #[.str x t] s.toks p (.cons (.str (by simpa [sokAll] using hsa)) .nil)
theorem ycd {a b:Expr} {ap p:Pos} {x y:Str} {s:Shared} (I:Inv G A env own O ρ s) (hb:zgo a=true) (hst:zbh b=true) (hp:(ap.endLine==p.line)=true) (ha:EvOK G A a env own O ρ (.str x)) (h:EvOK G A b env own O ρ (.str y)) (hy:0<y.length) (hs:sok (.list ((Txt.split x y).map .str))=true) :
  ztr G A O (eval (.Call (.Attribute a "split" ap) [b] [] p) env) s ((Txt.split x y).map .str):=fun Q E q=>by
 refine zgl hb (show (zbh b&&true)=true by rw [hst];rfl) (show 1<30 by omega) hp (ha s I _ _ fun u s1 x1 r1 pl=>?_)
 have hx:=(sok_str.mp r1.sok).2
 obtain ⟨t,rfl⟩:=r1.str_inv
 refine GM.split ⟨_,rfl, ?_⟩
 rw [zch hst]
 refine spliced_cons (h s1 (I.ext x1) _ _ fun v s2 x2 r2=>spliced_nil ?_)
 obtain ⟨t',rfl⟩:=r2.str_inv
 have x12:=x1.trans x2
 exact zwz x12.base x12.pos (I.ext x12).ov hx hy hs _ _ fun s3 D vs x3 h3 pl3 r3=>q s3 D vs (x12.trans x3) (x12.back _ h3) pl3 r3
end
end Internal
end
namespace Internal
section
variable {G:GC} {A:Around} {S:Sig} {env:Env} {own:Own} {O Oc M:List Addr} {ρ:Rho} {d:D} {ns:List Nat}
theorem FI.addC {s s':Shared} {C:Addr} (F:FI G A env own O Oc M ρ s) (x:Ext G s s') (hC:s.heap.get? C=none) (hC':∃ o,s'.heap.get? C=some o∧zhj o):FI G A env own (C::O) Oc M ρ s':=by
 have F1:=F.ext x
 refine ⟨⟨F.inv.ok,F.inv.hh,x.base,x.pos,fun a m=>?_,(F.inv.envr.news (N:=[C]) fun a m=>by rw [msp m];exact hC).keep x.keep⟩,fun a m=>mct _ (F.mO a m),F.ml,F.mc,F.mo,F.m0,F1.mt,fun a m=>mct _ (F.cO a m),F.cM,F.inj⟩
 rcases mcp m with rfl | m
 ·exact hC'
 ·exact F1.inv.ov a m
theorem EnvR.sub {O':List Addr} {h:Heap} (x:EnvR G env own O ρ h) (k:∀ a∈O',a∈O) (hl:env.locals∈O') (hc:∀ y c,env.cells.lookup y=some c→c∈O') (ho:∀ n a,own.at' n=some a→a∈O'):EnvR G env own O' ρ h:=by
 have sr:∀ {n v d},SRep G.w own n O h v d→SRep G.w own n O' h v d:=fun {n v d} r=>by
  unfold SRep at *
  split at r
  ·rename_i q;rw [if_pos q]
   obtain ⟨a,vs,xs,y,e,m,q,z,l,r⟩:=r
   exact ⟨a,vs,xs,y,e,ho _ _ y,q,z,l,r.sub k⟩
  ·rename_i q;rw [if_neg q];exact r.sub k
 exact { x with
  lin:=hl
  oin:=ho
  cin:=fun y c e=>⟨hc y c e,(x.cin y c e).2⟩
  ns:=let ⟨m,a,b⟩:=x.ns;⟨m,a,fun n y d h1 h2 h3=>let ⟨v,e,r⟩:=b n y d h1 h2 h3;⟨v,e,sr r⟩⟩
  cl:=fun n y d h1 h2 h3=>let ⟨c,v,e,q,r⟩:=x.cl n y d h1 h2 h3;⟨c,v,e,q,sr r⟩ }
theorem FI.letC {s:Shared} {C:Addr} {h':Heap} (F:FI G A env own (C::O) Oc M ρ s) (hO:C∉O) (hMO:∀ a∈M,a∈O) (hc:∀ a∈Oc,a∈O) (h0:G.h₀.get? C=none) (hm:∃ m,s.heap.Ns C m) (hs':Heap.SameBut C s.heap h'):FI G A env own O Oc M ρ { s with heap:=h' }:=by
 have hM:C∉M:=fun m=>hO (hMO C m)
 obtain ⟨m,o,es,ep,e,dd,_⟩:=hm
 have ht:zcc (C::O) [C] s.heap:=fun b m o' e'=>by
  rcases msp m with rfl
  rw [e] at e';obtain rfl:=soi e'
  exact ⟨zgx dd,fun _=>mch⟩
 have kb:KeepBut [C] s.heap h':=zdm (zat hs')
 have B:Base G h':=F.inv.base.but (zat hs') (fun b m=>by rcases msp m with rfl;exact h0) fun b m o e=>(ht b m o e).1
 have E1:=F.inv.envr.but kb ht (fun m=>hM (msp m▸F.ml)) (fun y c e m=>hM (msp m▸F.mc y c e)) fun n a _ e _ m=>hM (msp m▸F.mo n a e)
 refine ⟨⟨F.inv.ok,F.inv.hh,B,F.inv.pos,fun a m=>?_,E1.sub (fun a m=>mct _ m) (hMO _ F.ml) (fun y c e=>hMO _ (F.mc y c e)) fun n a e=>hMO _ (F.mo n a e)⟩,hMO,F.ml,F.mc,F.mo,F.m0,fun a m o' e'=>?_,hc,F.cM,F.inj⟩
 ·obtain ⟨o2,e2,q⟩:=F.inv.ov a (mct _ m)
  exact ⟨o2,kb a o2 (fun q=>hO (msp q▸m)) e2 q,q⟩
 ·have c:a∉[C]:=fun q=>hM (msp q▸m)
  obtain ⟨o2,e2,q⟩:=F.back a m
  have e':h'.get? a=some o':=e'
  rw [kb a o2 c e2 q] at e';obtain rfl:=soi e'
  exact F.mt a m _ e2
theorem zyo {c:Cx} {n:Nat} {x:Str} {k:NameKind} {e:Expr} {gens:List Comprehension} {scope:Scope} {np lp pos:Pos} {elt:E} {gs:Gs} (X:∀ own,own.ns=ns→CxOK G A S c env own) (hch:chkE c (.comp elt gs) (.ListComp e gens scope lp)=true) (hev:ev S ρ (.comp elt gs)=some d)
  (nm:G.names[n]?=some x) (hk:env.kindOf x=some k) (hkk:k=.local∨k=.cell) (hno:n∉ns) (hfn:env.scope.kind=.function) (hs:zmf env.kindOf x np (.ListComp e gens scope lp)=true) :
  StOK G A (exec (.Assign [.Name x np] (.ListComp e gens scope lp) pos) env) env Oc ns ρ (.next (ρ.set n d)):=fun own O M s hn F Q E q _=>by
 rw [exec_Assign_Name_used _ _ _ _ (by rw [zkh hfn,hs])]
 refine wpAny_bind (wpAny_standAt (wpAny_bind ?_))
 show wpAny _ A (comprehension (.ListComp e gens scope lp) scope env (firstIterPos gens lp) (newList []) (firstAsync gens) (firstIter gens env) (some (assign (.Name x np) env)) >>= fun _=>pure ()) _ _ s
 refine wpAny_bind (yfx (X own hn) hch hev F.inv fun C D s' vs out hd hl xs h1 h2 h3 h4 h5 h6 h7 h8 h9=>?_)
 subst hd
 obtain ⟨mm,hmm⟩:=h6
 have hsol:∀ {h:Heap} {m},h.Ns C m→∃ o,h.get? C=some o∧zhj o:=fun {h m} ⟨o,es,ep,e,dd,_⟩=>⟨o,e, .inr fun vs q=>by rw [dd] at q;cases q⟩
 have FC:=F.addC xs h2 (hsol hmm)
 have hCM:C∉M:=fun m=>by obtain ⟨o,e,_⟩:=F.back C m;rw [h2] at e;exact nn e
 have rD:VRep G.w (C::O) s'.heap (.ref D) (.list out):=by
  refine .list_of hl (fun m=>?_) h7.isList (fun o e=>by obtain ⟨n0,e'⟩:=h7;rw [e'] at e;obtain rfl:=soi e;rfl) (h8.sub fun a m=>?_)
  ·rcases mcp m with m | m
   ·exact h1 m.symm
   ·obtain ⟨o,e,_⟩:=F.inv.ov D m;rw [h3] at e;exact nn e
  ·rcases mcp m with rfl | m
   ·exact mch
   ·exact mct _ (mct _ m)
 refine wpAny_assign_Name (zfz (W:=wtg G env [n]) FC.inv nm hk hkk (zhr (hn▸hno) rD) ⟨mch,fun hc c e=>(zmb (G:=G) (env:=env) [n]).2 n (by simp) x c nm hc e⟩ fun s2 x2 _ I2=>?_)
 have F2:=FC.stored x2 I2
 have hCw:C∉wtg G env [n]:=fun m=>hCM (FC.wtg C m)
 have hm2:=x2.keep.ns hCw hmm
 refine ⟨mm,hm2,fun h' hs'=>wpAny_pure (wpAny_pure ?_)⟩
 have hCO:C∉O:=fun m=>by obtain ⟨o,e,_⟩:=F.inv.ov C m;rw [h2] at e;exact nn e
 have F3:=F2.letC hCO F.mO F.cO h4 ⟨mm,hm2⟩ hs'
 refine q _ own O M _ rfl hn F3 ⟨?_,fun _ m=>m,fun _ m=>m,fun _ m=>.inl m,fun _ m=>.inl m⟩
 have y:SExt G (C::M) s { s2 with heap:=h' }:=by
  refine (xs.sext.trans (x2.mono fun a m=>mct _ (FC.wtg a m))).trans ⟨⟨_,_,rfl⟩,(zdm (zat hs')).mono fun a m=>by rcases msp m with rfl;exact mch,F3.inv.base,F3.inv.pos,fun b m e=>zby (fun o q=>zat hs' b o (fun mm=>m (by rcases msp mm with rfl;exact mch)) q) e⟩
 refine ⟨y.same,fun b o m e c=>y.keep b o (fun mm=>?_) e c,y.base,y.pos,fun b m e=>?_⟩
 ·rcases mcp mm with rfl | mm
  ·rw [h2] at e;exact nn e
  ·exact m mm
 ·by_cases c:b=C
  ·rw [c];exact h2
  ·exact y.back b (fun q=>(mcp q).elim c m) e
end
section
variable {G:GC} {A:Around} {S:Sig} {env:Env} {own:Own} {O Oc M:List Addr} {ρ:Rho} {d:D} {ns:List Nat}
noncomputable def Own.out (own:Own) (n:Nat):Own:=⟨own.ns,fun m=>if m=n then none else own.at' m⟩
theorem FI.aside {s:Shared} {n:Nat} {a:Addr} {vs:Array Value} (F:FI G A env own O Oc M ρ s) (ha:own.at' n=some a) (pl:s.heap.PlainList a vs) (ck:∀ y c,env.cells.lookup y=some c→env.kindOf y=some .cell∨env.kindOf y=some .free) :
  FI G A env (own.out n) O Oc (M.filter (· != a)) (ρ.del [n]) s:=by
 obtain ⟨k,e⟩:=id pl
 have hl:env.locals≠a:=fun q=>by
  obtain ⟨m,⟨o',es,ep,e',d,_⟩,_⟩:=F.inv.envr.ns
  rw [q,e] at e';obtain rfl:=soi e';cases d
 have hc:∀ x c,env.cells.lookup x=some c→c≠a:=fun x c h q=>by
  obtain ⟨c',v,e1,o',e2,d⟩:=F.inv.envr.ce x (ck x c h)
  rw [h] at e1;obtain rfl:=soi e1
  rw [q,e] at e2;obtain rfl:=soi e2;cases d
 have sub:∀ b,b∈M.filter (· != a)→b∈M:=fun b m=>(List.mem_filter.mp m).1
 have fil:∀ b,b∈M→b≠a→b∈M.filter (· != a):=fun b m h=>List.mem_filter.mpr ⟨m,by simpa using h⟩
 have out':∀ m b,(own.out n).at' m=some b→m≠n∧own.at' m=some b:=fun m b h=>by
  unfold Own.out at h
  dsimp only at h
  split at h
  ·exact nn h
  ·exact ⟨by assumption,h⟩
 have we:∀ m d,(ρ.del [n]).get m=some d→m≠n∧ρ.get m=some d:=fun m d h=>by
  rw [Rho.get_del] at h
  split at h
  ·exact nn h
  ·rename_i c
   exact ⟨fun q=>c (by simp [q]),h⟩
 refine ⟨⟨F.inv.ok,F.inv.hh,F.inv.base,F.inv.pos,F.inv.ov,(F.inv.envr.weaken fun m d h=>(we m d h).2).reown (own':=own.out n) rfl (fun m d h=>?_) fun m b h=>F.inv.envr.oin m b (out' m b h).2⟩,fun b m=>F.mO b (sub b m),fil _ F.ml hl,fun x c h=>fil _ (F.mc x c h) (hc x c h),fun m b h=>fil _ (F.mo m b (out' m b h).2) fun q=>(out' m b h).1 (F.inj m n a (q▸(out' m b h).2) ha),fun b m=>F.m0 b (sub b m),fun b m=>F.mt b (sub b m),F.cO,fun b m=>F.cM b (sub b m),fun m k b h1 h2=>F.inj m k b (out' m b h1).2 (out' k b h2).2⟩
 unfold Own.out
 dsimp only
 rw [if_neg (we m d h).1]
theorem FI.back_in {own':Own} {O' M':List Addr} {s s':Shared} {n:Nat} {a:Addr} {vs:Array Value} {ρ':Rho} (F:FI G A env own O Oc M ρ s) (ha:own.at' n=some a) (pl:s.heap.PlainList a vs) (F':FI G A env own' O' Oc M' ρ' s') (x:Step G O (M.filter (· != a)) s O' M' s') :
  FI G A env own' O' Oc (a::M') ρ' s'∧Step G O M s O' (a::M') s':=by
 obtain ⟨k,e⟩:=id pl
 have aM:=F.mo n a ha
 have aO':=x.oO a (F.mO a aM)
 have e':s'.heap.get? a=some { cls:=.type "list",data:=.seq vs k }:=x.sx.keep a _ (fun m=>by have:=(List.mem_filter.mp m).2;simp at this) e (.inl nofun)
 have sub:∀ b,b∈M.filter (· != a)→b∈M:=fun b m=>(List.mem_filter.mp m).1
 refine ⟨⟨F'.inv,fun b m=>?_,mct _ F'.ml,fun y c h=>mct _ (F'.mc y c h),fun m b h=>mct _ (F'.mo m b h),fun b m=>?_,fun b m o h=>?_,F'.cO,fun b m=>?_,F'.inj⟩,⟨x.sx.mono sub,x.oO,fun b m=>?_,fun b m=>?_,x.nO⟩⟩
 ·rcases mcp m with rfl | m
  ·exact aO'
  ·exact F'.mO b m
 ·rcases mcp m with rfl | m
  ·exact F.m0 _ aM
  ·exact F'.m0 b m
 ·rcases mcp m with rfl | m
  ·rw [e'] at h;obtain rfl:=soi h;exact zft rfl rfl
  ·exact F'.mt b m o h
 ·rcases mcp m with rfl | m
  ·exact F.cM _ aM
  ·exact F'.cM b m
 ·by_cases q:b=a
  ·exact q▸mch
  ·exact mct _ (x.mM b (List.mem_filter.mpr ⟨m,by simpa using q⟩))
 ·rcases mcp m with rfl | m
  ·exact .inl aM
  ·exact (x.nM b m).imp (sub b) id
theorem zqi {s:Shared} {tg:Expr} {ds:List D} (hh:A.handled=none) (B:Base G s.heap) (p:0<s.toks) (hn:zbq tg=true) {a:Addr} {vs:Array Value} (l:s.heap.IsList a vs) (r:VReps G.w O s.heap vs.toList ds)
  {Q:Value→Shared→Prop} {E:Value→Shared→Prop} (q:∀ I s',Ext G s s'→(∃ fp wr vs es St P Md,IterOK G A false tg I fp wr ds vs es St P Md∧St 0 s'.heap∧VReps G.w O s'.heap vs es∧(∀ b∈wr,s.heap.get? b=none)∧(∀ b∈fp,∃ o,s'.heap.get? b=some o) ∧
   (∀ b∈fp,s.heap.get? b=none∨b=a))→Q (.ref I) s'):wpAny (mdl G) A (pyIter (.ref a)) Q E s:=by
 have hk:∀ b o,s.heap.get? b=some o→(s.heap.push { cls:=.type "list_iterator",data:=.fields #[.ref a, .int 0 0] }).get? b=some o:=fun b o e=>Heap.get?_push_of_some _ e
 have hne:a≠s.heap.objs.size:=fun e=>by obtain ⟨o,e',_⟩:=l;rw [e,zak] at e';exact nn e'
 have hsz:vs.size=ds.length:=by rw [← r.length];simp
 have W:=Walks.list (prog:=G.prog) (w:=G.w) (A:=A) hh s.heap.objs.size a hne vs
 rw [hsz] at W
 refine wpAny_pyIter_list l (q _ _ (.all B hk p) ⟨[s.heap.objs.size,a],[s.heap.objs.size],vs.toList,ds,_,_,_,
  ⟨KTurns.ofWalks W fun i v s' Q' E' st q'=>zmu hn st.1 q',W.self,fun O' h i v d r' hP e=>?_,fun i h st b hb o e=>?_,fun i h st b hb o e=>?_,fun i h st b hb=>(by rcases msp hb with rfl;obtain ⟨⟨o',e',_⟩,_⟩:=st;exact ⟨_,e'⟩)⟩, ?_,r.keep (.of hk),fun b hb=>?_,fun b hb=>?_,fun b hb=>?_⟩)
 ·obtain ⟨v',e',r''⟩:=r'.get i d e
  have hP:vs[i]?=some v:=hP
  rw [Array.getElem?_toList,hP] at e'
  obtain rfl:=soi e';exact r''
 ·rcases mcp hb with rfl | hb
  ·obtain ⟨⟨o',e',c,_⟩,_⟩:=st;rw [e] at e';obtain rfl:=soi e';exact zaz c
  ·rcases msp hb with rfl
   exact zaz (zka st.2 e)
 ·rcases msp hb with rfl
  obtain ⟨⟨o',e',c,dd⟩,_⟩:=st;rw [e] at e';obtain rfl:=soi e';exact zgv c dd (by decide)
 ·exact ⟨⟨_,Heap.get?_push_size _ rfl,rfl,rfl⟩,l.push _⟩
 ·rcases msp hb with rfl
  exact zak _
 ·rcases mcp hb with rfl | hb
  ·exact ⟨_,Heap.get?_push_size _ rfl⟩
  ·rcases msp hb with rfl
   obtain ⟨o,e,_⟩:=l;exact ⟨o,hk _ _ e⟩
 ·rcases mcp hb with rfl | hb
  ·exact .inl (zak _)
  ·exact .inr (msp hb)
theorem zyn {target:Expr} {y:Str} {np:Pos} {body:List Stmt} {pos:Pos} {n:Nat} {tg:List Nat} {ds:List D} {f:D→Rho→Option Out} {out:Out} (N:NameOK G env n y) (hno:n∈ns) (hg:ρ.get n=some (.list ds)) (hn':zbq target=true)
  (ck:∀ y c,env.cells.lookup y=some c→env.kindOf y=some .cell∨env.kindOf y=some .free)
  (ht:∀ own,own.ns=ns→TargetOK G env own target tg) (hb:∀ x ρ' o,f x ρ'=some o→∃ ρ'',zcn ρ' tg x=some ρ''∧StOK G A (execs body env) env Oc ns ρ'' o) (hf:goL f ds (ρ.del [n])=some out) :
  StOK G A (exec (.For target (.Name y np) body [] pos) env) env Oc ns ρ out:=fun own O M s hn F Q E q1 q2=>by
 have key:∃ a vs,own.at' n=some a∧a∈O∧s.heap.PlainList a vs∧VReps G.w O s.heap vs.toList ds:=by
  have un:∀ {v},SRep G.w own n O s.heap v (.list ds)→∃ a vs,own.at' n=some a∧a∈O∧s.heap.PlainList a vs∧VReps G.w O s.heap vs.toList ds:=fun r=>by
   unfold SRep at r
   rw [if_pos (hn▸hno)] at r
   obtain ⟨a,vs,xs,h1,_,h3,h4,_,h6,h7⟩:=r
   cases h4
   exact ⟨a,vs,h1,h3,h6,h7⟩
  obtain ⟨k,hk,hkk⟩:=N.kd
  rcases hkk with rfl | hkk
  ·obtain ⟨m,_,hv⟩:=F.inv.envr.ns
   obtain ⟨v,_,r⟩:=hv n y _ N.nm hk hg
   exact un r
  ·obtain ⟨c,v,_,_,r⟩:=F.inv.envr.cl n y _ N.nm (by rcases hkk with rfl | rfl;exact .inl hk;exact .inr hk) hg
   exact un r
 obtain ⟨a,vs,ha,hO,pl,rv⟩:=key
 have F2:=F.aside ha pl ck
 refine yjo (own:=own.out n) (hn:=hn) F2 (fun Q' E' q=>?_) rfl ht hb hf Q E (fun ρ' own' O' M' s' e h1 F3 x=>?_) (fun d v s' e x r=>q2 d v s' e (x.mono fun b m=>(List.mem_filter.mp m).1) r)
 ·refine zim N F.inv (hn▸hno) hg fun b us hb' _ _ pl' _=>?_
  rw [ha] at hb';obtain rfl:=soi hb'
  refine zqi (O:=O) F.inv.hh F.inv.base F.inv.pos hn' pl.isList rv fun I s' ext it=>q I s' ext ?_
  obtain ⟨fp,wr,vs',es,St,P,Md,it,st,rv',h1,h2,h3⟩:=it
  refine ⟨fp,wr,vs',es,St,P,Md,it,st,rv',h1,h2,fun b m=>(h3 b m).imp id fun h=>.inl fun mm=>?_⟩
  have:=(List.mem_filter.mp mm).2
  rw [h] at this;simp at this
 ·obtain ⟨F4,x4⟩:=F.back_in ha pl F3 x
  exact q1 ρ' own' O' (a::M') s' e h1 F4 x4
end
end Internal
namespace Internal
noncomputable def tgt (c:Cx) (n:Nat) (y:Str):Bool:=c.nm[n]?==some y&&(c.sc.lookup y==some .local || c.sc.lookup y==some .cell)
noncomputable def yrg (c:Cx) (es:List Expr) (e:Expr):Bool:=!(zfv e fun _ _ _=>true) || zfv e fun vs _ _=>(znh (fun y=>c.sc.lookup y) es vs).isSome
noncomputable def yjz (e:Expr):Bool:=!(zfv e fun _ _ _=>true)
noncomputable def ymp (i:Int) (e:Expr):Bool:=zee e fun k _ _=>(match k with | .int j=>i==j | _=>false)
noncomputable def ypp (i:Int) (x:Expr):Bool:=ymp i x || zik x fun o a _=>(decide (o=.USub)&&ymp (-i) a)
theorem yjx {i:Int} {x:Expr} (h:ymp i x=true):∃ n p,x=.Constant (.int i) n p:=by
 refine onConstant_elim (P:=fun x=>∃ n p,x=.Constant (.int i) n p) h fun k n p h=>?_
 rcases k with ⟨⟩ | ⟨⟩
 case int j=>exact ⟨n,p,by rw [bqp h]⟩
 all_goals exact absurd h Bool.false_ne_true
noncomputable def ykc (e:E) (k:E→Gs→Bool):Bool:=if h:e.ctorIdx=12 then E.comp.elim (motive_1:=fun _=>Bool) e h k else false
theorem zzl {e:E} (h:ykc e (fun _ _=>true)=true):∃ el gs,e=.comp el gs:=by
 obtain ⟨x,hx⟩:=dt h
 exact E.comp.elim (motive_1:=fun e=>∃ el gs,e=.comp el gs) e x fun el gs=>⟨el,gs,rfl⟩
noncomputable def zqu (x:Stmt) (k:Expr→Expr→Bool):Bool:=zqz x fun z v _=>onL1 z fun t=>k t v
@[elab_as_elim] theorem onAsg_elim {x:Stmt} {k:Expr→Expr→Bool} {P:Stmt→Prop} (h:zqu x k=true) (q:∀ t v p,k t v=true→P (.Assign [t] v p)):P x:=by
 refine onSAssign_elim h fun z v p h=>?_
 exact onL1_elim h fun t h=>q t v p h
noncomputable def ycm (x:Stmt) (k:Str→Str→List Expr→Pos→Pos→Bool):Bool:=zte x fun z _=>zlr z fun o m ap es p=>zcl o fun y _=>k y m es ap p
@[elab_as_elim] theorem onMeth_elim {x:Stmt} {k:Str→Str→List Expr→Pos→Pos→Bool} {P:Stmt→Prop} (h:ycm x k=true) (q:∀ y np m es ap p sp,k y m es ap p=true→P (.Expr (.Call (.Attribute (.Name y np) m ap) es [] p) sp)):P x:=by
 refine onSExpr_elim h fun z sp h=>?_
 refine onCallA_elim h fun o m ap es p h=>?_
 exact onName_elim h fun y np h=>q y np m es ap p sp h
mutual
noncomputable def chkS (c:Cx):St→Stmt→Bool
 | .set n e,x=>zqu x fun z v=>zcl z fun y np=>(tgt c n y&&!c.own.contains n&&chkE c e v&&(ykc e (fun _ _=>true) || !zmf (fun y=>c.sc.lookup y) y np v))
 | .unp tg e,x=>zqu x fun z v=>zfv z fun es k tp=>(tgIs c tg (.Tuple es k tp)&&decide tg.Nodup&&yrg c es v&&chkE c e v)
 | .aug n o e,x=>zjq x fun z1 o' v w2=>zcl z1 fun y w1=>(decide (o=o')&&tgt c n y&&!c.own.contains n&&!(y==("__classdict__" : Str))&&chkE c e v)
 | .newO n es,x=>zqu x fun z v=>zcl z fun y _=>ycl v fun xs _=>(tgt c n y&&c.own.contains n&&zfl c es xs)
 | .splitO n a b,x=>zqu x fun z v=>zcl z fun y _=>zlr v fun ob m ap es p=>onL1 es fun arg=>(tgt c n y&&c.own.contains n&&decide (m = "split")&&zgo ob&&zbh arg&&(ap.endLine==p.line)&&chkE c a ob&&chkE c b arg)
 | .app n e,x=>ycm x fun y m es ap p=>onL1 es fun elt=>(decide (m = "append")&&zgm c n y&&c.own.contains n&&(ap.endLine==p.line)&&zbh elt&&chkE c e elt)
 | .rev n,x=>ycm x fun y m es ap p=>zcz es <| (decide (m = "reverse")&&zgm c n y&&c.own.contains n&&(ap.endLine==p.line))
 | .del n i,x=>zra x fun z _=>onL1 z fun z=>zdn z fun z idx _=>zcl z fun y _=>(zgm c n y&&c.own.contains n&&ypp i idx)
 | .ifs t a b,x=>ymx x fun e xs ys w1=>(chkE c t e&&zsa c a xs&&zsa c b ys)
 | .loop tg src body,x=>ykf x fun target iter bd z1 w1=>zcz z1 <| (tgIs c tg target&&(ynm src target&&!zeu src)&&zzj c src iter&&zsa c body bd)
 | .ret e,x=>zgp x fun z1 w1=>zna z1 fun v=>(chkE c e v)
 | .retO n,x=>zgp x fun z1 w2=>zna z1 fun z2=>zcl z2 fun y w1=>(zgm c n y&&c.own.contains n)
 | .tryE body,x=>ykg x fun bd z1 z2 z3 w3=>zcd z1 fun w1 w2=>zcz z2 <| zcz z3 <| (zsa c body bd)
 | .assert e,x=>zqy x fun v w1 w2=>(chkE c e v)
 | .hole,_=>true
noncomputable def zsa (c:Cx):Sts→List Stmt→Bool
 | .nil,xs=>zcz xs true
 | .cons s r,xs=>zcd xs fun x xs=>(chkS c s x&&zsa c r xs)
end
section
variable {G:GC} {A:Around} {S:Sig}
theorem CxOK.tgt {c:Cx} {env:Env} {own:Own} (X:CxOK G A S c env own) {n:Nat} {y:Str} (h:Internal.tgt c n y=true):G.names[n]?=some y∧∃ k,env.kindOf y=some k∧(k=.local∨k=.cell):=by
 simp only [Internal.tgt,Bool.and_eq_true,Bool.or_eq_true,beq_iff_eq] at h
 have e:env.kindOf y=c.sc.lookup y:=by show env.scope.names.lookup y=_;rw [X.sc]
 exact ⟨X.nm▸h.1,by rcases h.2 with h | h;exact ⟨_,e.trans h, .inl rfl⟩;exact ⟨_,e.trans h, .inr rfl⟩⟩
theorem ypq {env:Env} {ns:List Nat} {ρ:Rho} {i:Int} {x:Expr} (h:ypp i x=true):EvF G A x env ns ρ (.int i):=fun own O _=>by
 rcases Bool.or_eq_true_iff.mp h with h | h
 ·obtain ⟨n,p,rfl⟩:=yjx h
  exact zrw
 ·refine onUnaryOp_elim h fun o a p h=>?_
  obtain ⟨h1,h2⟩:=bap h
  obtain rfl:=of_decide_eq_true h1
  obtain ⟨n,q,rfl⟩:=yjx h2
  have e:EvOK G A (.UnaryOp .USub (.Constant (.int (-i)) n q) p) env own O ρ (.int (- -i)):=zzb zrw
  rw [Int.neg_neg] at e
  exact e
theorem yiq {env:Env} {own:Own} {es:List Expr} {tg:List Nat} (h:TgOK G env own es tg):es.length=tg.length:=by
 induction h with
 | nil=>rfl
 | cons _ _ _ _ _ ih=>simp [ih]
theorem zrn {kind:Str→Option NameKind} {ts vs:List Expr} {names:List Str} (h:znh kind ts vs=some (some names)):∃ line,(ts.filterMap fun
   | .Name id pos=>if kind id==some .local&&pos.line==line then some id else none
   | _=>none)=names∧names.length=ts.length:=by
 unfold znh at h
 split at h
 ·cases h
 ·split at h
  ·cases h
  ·dsimp only at h
   split at h
   ·cases h
   ·rename_i c
    split at h
    ·cases h
    ·split at h
     ·exact nn h
     ·cases h
      refine ⟨_,rfl, ?_⟩
      simp only [Bool.or_eq_true,bne_iff_ne,ne_eq,not_or,Decidable.not_not] at c
      exact c.1
structure FxOK (G:GC) (A:Around) (S:Sig) (c:Cx) (env:Env) (ns:List Nat):Prop where
 cx:∀ own,own.ns=ns→CxOK G A S c env own
 ck:∀ y c,env.cells.lookup y=some c→env.kindOf y=some .cell∨env.kindOf y=some .free
variable {c:Cx} {env:Env} {ns:List Nat} {Oc:List Addr}
theorem FxOK.any (X:FxOK G A S c env ns):CxOK G A S c env ⟨ns,fun _=>none⟩:=X.cx _ rfl
theorem FxOK.ev (X:FxOK G A S c env ns) {e:E} {x:Expr} (h:chkE c e x=true) {ρ:Rho} {d:D} (he:ev S ρ e=some d):EvF G A x env ns ρ d:=fun own O hn=>(zap e (X.cx own hn) h).1 d he
theorem FxOK.evT (X:FxOK G A S c env ns) {e:E} {x:Expr} (h:chkE c e x=true) {ρ:Rho} {b:Bool} (he:evT S ρ e=some b):TrF G A x env ns ρ b:=fun own O hn=>(zap e (X.cx own hn) h).2 b he
theorem zoz {es:List Expr} {k:Nat} {tp:Pos} {v:Expr} (h:yjz v=true):swappedStores [.Tuple es k tp] v env=pure none:=by cases v <;> first | rfl | exact ff h
variable {st:St} {sts a' b':Sts} {e a b:E} {es args:Es} {n f:Nat}
noncomputable def zhc (G:GC) (A:Around) (S:Sig) (c:Cx) (env:Env) (ns:List Nat) (Oc:List Addr) (st:St):Prop:=∀ {x:Stmt} {ρ:Rho} {out:Out},FxOK G A S c env ns→chkS c st x=true→ex S ρ st=some out→StOK G A (exec x env) env Oc ns ρ out
noncomputable def zpd (G:GC) (A:Around) (S:Sig) (c:Cx) (env:Env) (ns:List Nat) (Oc:List Addr) (sts:Sts):Prop:=∀ {xs:List Stmt} {ρ:Rho} {out:Out},FxOK G A S c env ns→zsa c sts xs=true→exs S ρ sts=some out→StOK G A (execs xs env) env Oc ns ρ out
theorem FxOK.kd (X:FxOK G A S c env ns):env.kindOf=fun y=>c.sc.lookup y:=by funext y;show env.scope.names.lookup y=_;rw [X.any.sc]
theorem yty:zhc G A S c env ns Oc (.set n e):=fun X h he=>by
 refine onAsg_elim h fun t v pos h=>onName_elim h fun y np h=>zkk h fun h1 h2 h3 h4=>zmx (P:=StOK G A _ env Oc ns _) he fun d e1=>?_
 obtain ⟨nm,k,hk,hkk⟩:=X.any.tgt h1
 rw [← X.kd] at h4
 rcases Bool.eq_false_or_eq_true (zmf env.kindOf y np v) with hs | hs
 ·rw [hs,Bool.not_true,Bool.or_false] at h4
  obtain ⟨el,gs,rfl⟩:=zzl h4
  exact onListComp_elim (P:=fun v=>zmf env.kindOf y np v=true→chkE c (.comp el gs) v=true→StOK G A (exec (.Assign [.Name y np] v pos) env) env Oc ns _ _) h3 (fun _ _ _ _ _ hs h3=>zyo X.cx h3 e1 nm hk hkk (X.any.nown h2) X.any.fn hs) hs h3
 ·exact yrd nm hk hkk (X.any.nown h2) X.any.fn hs (X.ev h3 e1)
theorem yrk (v:Expr):yjz v=true∨∃ vs k p,v=.Tuple vs k p:=by
 rcases v with ⟨⟩ | ⟨⟩
 case Tuple=>exact .inr ⟨_,_,_,rfl⟩
 all_goals exact .inl rfl
theorem yhj {a b:Rho} (h:Out.next a=.next b):a=b:=by cases h;rfl
theorem ytz {tg:List Nat}:zhc G A S c env ns Oc (.unp tg e):=fun {x ρ out} X h he=>by
 refine onAsg_elim h fun t v pos h=>onTuple_elim h fun es k tp h=>zkk h fun h1 h2 h3 h4=>ynu he fun xs hx he=>zfd (P:=StOK G A _ env Oc ns _) he fun hl=>?_
 have ht:∀ own,own.ns=ns→TargetOK G env own (.Tuple es k tp) tg:=fun own hn=>(X.cx own hn).target h1
 have key:∀ r,swappedStores [.Tuple es k tp] v env=pure r→(∀ names,r=some names→∀ own,own.ns=ns→NmsOK G env own names tg∧names.length=tg.length)→StOK G A (exec (.Assign [.Tuple es k tp] v pos) env) env Oc ns ρ (.next (zbl ρ tg xs)):=fun r hr hn=>by
  rcases r with _ | names
  ·exact yrf ht hl hr (X.ev h4 hx)
  ·exact yns (fun own ho=>(hn names rfl own ho).1) hl (of_decide_eq_true h2) hr (hn names rfl ⟨ns,fun _=>none⟩ rfl).2 (X.ev h4 hx)
 rcases yrk v with hv | ⟨vs,k',p',rfl⟩
 ·exact key none (zoz hv) fun _ e=>n_s e
 ·obtain ⟨r,hr⟩:=Option.isSome_iff_exists.mp (show (znh (fun y=>c.sc.lookup y) es vs).isSome=true from h3)
  rw [← X.kd] at hr
  refine key r (ydz X.any.fn hr) fun names e1 own hn=>?_
  subst e1
  obtain ⟨line,n1,n2⟩:=zrn hr
  have hT:TgOK G env own es tg:=by
   cases (X.cx own hn).target h1 with
   | tup h _=>exact h
  exact ⟨yqb hT n1 n2,n2.trans (yiq hT)⟩
theorem yts {o:Operator}:zhc G A S c env ns Oc (.aug n o e):=fun X h he=>by
 refine onSAugAssign_elim h fun t o' v pos h=>onName_elim h fun y np h=>zyz h fun q0 h1 h2 h3 h4=>zaq he fun a hg he=>zaq he fun b hb he=>zmx (P:=StOK G A _ env Oc ns _) he fun d e1=>?_
 obtain rfl:=of_decide_eq_true q0
 obtain ⟨nm,k,hk,hkk⟩:=X.any.tgt h1
 exact yqw nm hk hkk (X.any.nown h2) (zjb h3) hg (X.ev h4 hb) e1
theorem yrp:zhc G A S c env ns Oc (.newO n es):=fun X h he=>by
 refine onAsg_elim h fun t v pos h=>onName_elim h fun y np h=>onList_elim h fun xs lp h=>zhd h fun h1 h2 h3=>zaq he fun ds hds he=>zfd (P:=StOK G A _ env Oc ns _) he fun hl=>?_
 obtain ⟨nm,k,hk,hkk⟩:=X.any.tgt h1
 exact ydr nm hk hkk (X.any.own' h2) X.any.fn rfl (Nat.le_trans hl (by decide)) fun own O s hn I=>zsz I ((zbe es (X.cx own hn) h3).el ds hds) hl
theorem yix:zhc G A S c env ns Oc (.splitO n a b):=fun X h he=>by
 refine onAsg_elim h fun t v pos h=>onName_elim h fun y np h=>onCallA_elim h fun ob m ap es p h=>onL1_elim h fun arg h=>yey h fun h1 h2 q2 h3 h4 h5 h6 h7=>zly he fun xx ha he=>zly he fun yy hb he=>zfd (P:=StOK G A _ env Oc ns _) he fun g=>?_
 obtain rfl:=of_decide_eq_true q2
 obtain ⟨g1,g2⟩:=zae g
 obtain ⟨nm,k,hk,hkk⟩:=X.any.tgt h1
 exact ydr nm hk hkk (X.any.own' h2) X.any.fn rfl (of_decide_eq_true (zae (b:=sokAll _) g2).1) fun own O s hn I=>ycd I h3 h4 h5 (X.ev h6 ha own O hn) (X.ev h7 hb own O hn) (of_decide_eq_true g1) g2
theorem ytr:zhc G A S c env ns Oc (.app n e):=fun X h he=>by
 refine onMeth_elim h fun y np m es ap p sp h=>onL1_elim h fun elt h=>zmc h fun q0 h1 h2 h3 h4 h5=>zdv he fun xs hg he=>zaq he fun d hd he=>zfd (P:=StOK G A _ env Oc ns _) he fun hl=>?_
 obtain rfl:=of_decide_eq_true q0
 exact yqv (X.any.name h1) (X.any.own' h2) hg h3 h4 X.any.fn (X.ev h5 hd) hl
theorem ytx:zhc G A S c env ns Oc (.rev n):=fun X h he=>by
 refine onMeth_elim h fun y np m es ap p sp h=>onNil_elim h fun h=>zkk h fun q0 h1 h2 h3=>zdv he fun xs hg he=>soi he▸?_
 obtain rfl:=of_decide_eq_true q0
 exact yrc (X.any.name h1) (X.any.own' h2) hg h3 X.any.fn
theorem ytt {i:Int}:zhc G A S c env ns Oc (.del n i):=fun X h he =>
 onSDelete_elim h fun z pos h=>onL1_elim h fun z h=>onSubscript_elim h fun z idx sp h=>onName_elim h fun y np h=>zhd h fun h1 h2 h3=>zdv he fun xs hg he=>zaq he fun j hj he=>soi he ▸
  yqx (X.any.name h1) (X.any.own' h2) hg (ypq h3) hj
theorem ytu (ha:zpd G A S c env ns Oc a') (hb:zpd G A S c env ns Oc b'):zhc G A S c env ns Oc (.ifs e a' b'):=fun X h he =>
 onSIf_elim h fun t xs ys pos h=>zhd h fun h1 h2 h3=>zpg he (fun ht he=>yqz (X.evT h1 ht) (fun _=>ha X h2 he) t_f) fun ht he=>yqz (X.evT h1 ht) f_t fun _=>hb X h3 he
theorem yro {tg:List Nat} {src:Src} (hb:zpd G A S c env ns Oc sts):zhc G A S c env ns Oc (.loop tg src sts):=fun {x ρ out} X h he=>by
 refine onSFor_elim h fun target iter bd z pos h=>onNil_elim h fun h=>zkk h fun h1 h2 h4 h5=>zaq he fun ds hds he=>?_
 have hbody:∀ x ρ' o,((zcn ρ' tg x).bind fun ρ''=>exs S ρ'' sts)=some o→∃ ρ'',zcn ρ' tg x=some ρ''∧StOK G A (execs bd env) env Oc ns ρ'' o:=fun x ρ' o ho=>zaq ho fun ρ'' hb' ho=>⟨ρ'',hb',hb X h5 ho⟩
 have gen:ybj src=false→zov ρ src=ρ→StOK G A (exec (.For target iter bd [] pos) env) env Oc ns ρ out:=fun h3 hst=>by
  refine yqy (fun own O hn=>?_) (zfg src (O:=[]) (tg:=target) X.any h4 (zae h2).1 ds hds).2 (fun own hn=>(X.cx own hn).target h1) hbody (hst▸he)
  have:=(zfg src (O:=O) (tg:=target) (X.cx own hn) h4 (zae h2).1 ds hds).1
  rw [h3,zjb (zae h2).2] at this;exact this
 rcases src with ⟨⟩ | ⟨⟩
 case own n =>
  refine onName_elim (P:=fun iter=>StOK G A (exec (.For target iter bd [] pos) env) env Oc ns ρ out) h4 fun y np h4=>zdv hds fun xs hxs hds=>?_
  obtain rfl:=soi hds
  exact zyn (X.any.name (zae h4).1) (X.any.own' (zae h4).2) hxs (zae h2).1 X.ck (fun own hn=>(X.cx own hn).target h1) hbody he
 all_goals exact gen rfl rfl
theorem ytw:zhc G A S c env ns Oc (.ret e):=fun X h he =>
 onSReturn_elim h fun z pos h=>onSome_elim h fun v h=>zmx (P:=StOK G A _ env Oc ns _) he fun d e1=>yrb (X.ev h e1)
theorem yrq:zhc G A S c env ns Oc (.retO n):=fun X h he =>
 onSReturn_elim h fun z pos h=>onSome_elim h fun v h=>onName_elim h fun y np h=>zdv he fun xs hg he=>soi he▸ynr (X.any.name (zae h).1) (X.any.own' (zae h).2) hg
theorem yrr (hb:zpd G A S c env ns Oc sts):zhc G A S c env ns Oc (.tryE sts):=fun X h he =>
 onSTry_elim h fun bd z1 z2 z3 pos h=>onCons_elim h fun w1 w2 h=>onNil_elim h fun h=>onNil_elim h fun h=>yre (hb X h he)
theorem yiw:zhc G A S c env ns Oc (.assert e):=fun X h he =>
 onSAssert_elim h fun v m pos h=>zpg he (fun ht he=>soi he▸ydp (X.evT h ht)) fun _ he=>n_s he
theorem ytv:zpd G A S c env ns Oc .nil:=fun X h he=>onNil_elim h fun _=>soi he▸yra
theorem yrn (hs:zhc G A S c env ns Oc st) (hr:zpd G A S c env ns Oc sts):zpd G A S c env ns Oc (.cons st sts):=fun {xs ρ out} X h he =>
 onCons_elim h fun x xs h=>zrv h fun h1 h2=>by
  have he:(match ex S ρ st with | some (.next ρ')=>exs S ρ' sts | o=>o)=some out:=he
  rcases e:ex S ρ st with _ | ρ' | d
  ·rw [e] at he;exact n_s he
  ·rw [e] at he
   exact ydq (hs X h1 e) (fun ρ2 e=>yhj e▸hr X h2 he) (fun d e=>Out.noConfusion e)
  ·rw [e] at he
   exact ydq (hs X h1 e) (fun ρ2 e=>Out.noConfusion e) (fun d' e=>soi he▸e)
mutual
theorem ygj:∀ st:St,zhc G A S c env ns Oc st
 | .set ..=>yty
 | .unp ..=>ytz
 | .aug ..=>yts
 | .newO ..=>yrp
 | .splitO ..=>yix
 | .app ..=>ytr
 | .rev ..=>ytx
 | .del ..=>ytt
 | .ifs _ a b=>ytu (zfb a) (zfb b)
 | .loop _ _ body=>yro (zfb body)
 | .ret ..=>ytw
 | .retO ..=>yrq
 | .tryE body=>yrr (zfb body)
 | .assert ..=>yiw
 | .hole=>fun X h he=>n_s he
theorem zfb:∀ sts:Sts,zpd G A S c env ns Oc sts
 | .nil=>ytv
 | .cons s r=>yrn (ygj s) (zfb r)
end
end
end Internal
namespace Internal
section
variable {G:GC} {A:Around}
theorem zpi {kindOf:Str→Option NameKind}:∀ (xs:List Str) (vs:List Value) (m:Str→Option Value) (y:Str),xs.Nodup→kindOf y=some .local →
  bindL kindOf (xs.zip vs) m y=match (xs.zip vs).lookup y with | some v=>some v | none=>m y
 | [],_,m,y,_,_=>by simp [bindL]
 | _::_,[],m,y,_,_=>by simp [bindL]
 | x::xs,v::vs,m,y,hn,hk=>by
  obtain ⟨h1,h2⟩:=List.nodup_cons.mp hn
  rw [List.zip_cons_cons]
  unfold bindL
  rw [zpi xs vs _ y h2 hk,List.lookup_cons]
  by_cases c:y=x
  ·subst c
   have:(xs.zip vs).lookup y=none:=by
    cases q:(xs.zip vs).lookup y with
    | none=>rfl
    | some d=>exact absurd (List.of_mem_zip (mem_of_lookup q)).1 h1
   rw [this];simp [hk]
  ·have hb:(y==x)=false:=by simpa using c
   rw [hb]
   simp only []
   split
   ·rfl
   ·split <;> simp [c]
theorem zph {kindOf:Str→Option NameKind}:∀ (xs:List Str) (vs:List Value) (m:Str→Option Value) (y:Str),xs.Nodup→kindOf y≠some .local →
  bindC kindOf (xs.zip vs) m y=match (xs.zip vs).lookup y with | some v=>some v | none=>m y
 | [],_,m,y,_,_=>by simp [bindC]
 | _::_,[],m,y,_,_=>by simp [bindC]
 | x::xs,v::vs,m,y,hn,hk=>by
  obtain ⟨h1,h2⟩:=List.nodup_cons.mp hn
  rw [List.zip_cons_cons]
  unfold bindC
  rw [zph xs vs _ y h2 hk,List.lookup_cons]
  by_cases c:y=x
  ·subst c
   have:(xs.zip vs).lookup y=none:=by
    cases q:(xs.zip vs).lookup y with
    | none=>rfl
    | some d=>exact absurd (List.of_mem_zip (mem_of_lookup q)).1 h1
   rw [this];simp [hk]
  ·have hb:(y==x)=false:=by simpa using c
   rw [hb]
   simp only []
   split
   ·rfl
   ·split <;> simp [c]
inductive ParOK (G:GC):List Str→List Nat→Prop
 | nil:ParOK G [] []
 | cons {x n xs ns}:G.names[n]?=some x→ParOK G xs ns→ParOK G (x::xs) (n::ns)
theorem ymz (hnd:G.names.Nodup) {w:World} {O:List Addr} {h:Heap}:∀ {xs:List Str} {tg:List Nat} {vs:List Value} {ds:List D},ParOK G xs tg→VReps w O h vs ds→∀ {n:Nat} {d:D} {y:Str},(tg.zip ds).lookup n=some d→G.names[n]?=some y →
  ∃ v,(xs.zip vs).lookup y=some v∧VRep w O h v d:=by
 intro xs tg vs ds hp
 induction hp generalizing vs ds with
 | nil=>intro r n d y h;simp at h
 | cons h1 h2 ih =>
  rename_i x m xs tg
  intro r n d y hl hy
  cases ds with
  | nil=>simp at hl
  | cons d0 ds =>
   obtain ⟨v,vs,rfl,r1,r2⟩:=r.cons_inv
   rw [List.zip_cons_cons,List.lookup_cons] at hl
   rw [List.zip_cons_cons,List.lookup_cons]
   by_cases c:n=m
   ·subst c
    simp only [beq_self_eq_true] at hl
    obtain rfl:=soi hl
    rw [h1] at hy;obtain rfl:=soi hy
    exact ⟨v,by simp,r1⟩
   ·have hb:(n==m)=false:=by simpa using c
    rw [hb] at hl
    have hyx:y≠x:=fun e=>c (zig hnd (e▸hy) h1)
    have hb2:(y==x)=false:=by simpa using hyx
    rw [hb2]
    exact ih r2 hl hy
end
end Internal
namespace Internal
section
variable {G:GC} {A:Around} {S:Sig}
structure DefOK (G:GC) (a:Addr) (fd:FuncData) (body:List Stmt) (xs:List Str):Prop where
 at':∃ o,G.h₀.get? a=some o∧o.data=.func fd
 code:G.h₀.CodeRec fd.code fd.qualname
 body:fd.body=.stmts body
 clo:fd.closure=[]
 gl:fd.globals=mainGlobals
 bi:fd.builtins=builtinsNs
 bind:∀ vals:List Value,vals.length=xs.length→bindArgs fd ⟨vals,[]⟩=pure (xs.zip vals)
 co:fd.scope.isCoroutine=false
 gen:fd.scope.isGenerator=false
 kind:fd.scope.kind=.function
noncomputable def zid (nm:List Str) (f:Fn) (fd:FuncData) (xs:List Str):Bool :=
 decide xs.Nodup&&decide f.params.Nodup&&decide (f.params.map (nm[·]?)=xs.map some)&&f.params.all (fun n=>!f.own.contains n) &&
 fd.scope.names.all (fun p=>match p.2 with | .free=>false | _=>true)&&xs.all (fun x=>fd.scope.names.lookup x==some .local || fd.scope.names.lookup x==some .cell)
noncomputable def fnOK (nm:List Str) (f:Fn) (fd:FuncData) (body:List Stmt) (xs:List Str):Bool :=
 zsa ⟨nm,fd.scope.names,f.own⟩ f.body body&&zid nm f fd xs&&fd.scope.names.all (fun p=>p.2 != .cell || fd.scope.names.lookup p.1==some .cell)
theorem ykh {nm:List Str}:∀ {ps:List Nat} {xs:List Str},ps.map (nm[·]?)=xs.map some→nm=G.names→ParOK G xs ps
 | [],[],_,_=>.nil
 | [],_::_,h,_=>by simp at h
 | _::_,[],h,_=>by simp at h
 | n::ps,x::xs,h,e=>by
  simp only [List.map_cons,List.cons.injEq] at h
  exact .cons (e▸h.1) (ykh h.2 e)
theorem zug {f:Fn} {fd:FuncData} {body:List Stmt} {xs:List Str} {a:Addr} {Oc:List Addr} {s s1:Shared} {vs:List Value} {ds:List D} (ok:GOK G) (hh:A.handled=none) (B:Base G s.heap) (p1:0<s1.toks) (ov:OVal Oc s.heap) (r:VReps G.w Oc s.heap vs ds) (Df:DefOK G a fd body xs) (hf:zid G.names f fd xs=true) (hl:ds.length=f.params.length)
  (x:InCallC s (callEnvC fd s.heap.objs.size a).locals (bindL (callEnvC fd s.heap.objs.size a).kindOf (xs.zip vs) fun _=>none) (callEnvC fd s.heap.objs.size a).cells (bindC (callEnvC fd s.heap.objs.size a).kindOf (xs.zip vs) fun _=>none) s1) :
  ∃ O M,FI G A (callEnvC fd s.heap.objs.size a) ⟨f.own,fun _=>none⟩ O Oc M (zbl [] f.params ds) s1∧(∀ b∈M,s.heap.get? b=none)∧Ext G s s1:=by
 simp only [zid,Bool.and_eq_true,decide_eq_true_eq] at hf
 obtain ⟨⟨⟨⟨⟨h2,h3⟩,h4⟩,h5⟩,h6⟩,h7⟩:=hf
 generalize hce:callEnvC fd s.heap.objs.size a=ce at x ⊢
 have e1:ce.scope=fd.scope:=by rw [← hce];rfl
 have e2:ce.locals=s.heap.objs.size:=by rw [← hce];rfl
 have e3:ce.globals=fd.globals:=by rw [← hce];rfl
 have e4:ce.cells=cellsFrom (s.heap.objs.size+1) fd.scope.names []:=by rw [← hce];rfl
 have e5:ce.builtins=fd.builtins:=by rw [← hce];rfl
 have xk:=x.toInCall.keep
 obtain ⟨hh1,tk1,e6⟩:=x.toInCall.same
 have X:Ext G s s1:=by
  refine ⟨⟨hh1,tk1,e6⟩, .of xk,B.all xk,p1,fun b e=>zby (fun o q=>xk b o q) e⟩
 have hab:∀ y c,ce.cells.lookup y=some c→s.heap.objs.size<c:=fun y c e=>by have:=x.above y c (mem_of_lookup e);rw [e2] at this;exact this
 have fr:∀ b,s.heap.objs.size≤b→s.heap.get? b=none:=fun b q=>zfn q
 have fr0:∀ b,s.heap.get? b=none→G.h₀.get? b=none:=fun b e=>zby (fun o q=>B.keep b o q) e
 let mcs:=fd.scope.names.filterMap fun p=>ce.cells.lookup p.1
 have hM:∀ b∈ce.locals::mcs,s.heap.get? b=none:=fun b m=>by
  rcases mcp m with rfl | m
  ·rw [e2];exact fr _ (Nat.le_refl _)
  ·obtain ⟨p,_,hp⟩:=List.mem_filterMap.mp m
   have:=x.above p.1 b (mem_of_lookup hp)
   rw [e2] at this
   exact fr _ (Nat.le_of_lt this)
 have celem:∀ y c,ce.cells.lookup y=some c→c∈ce.locals::mcs:=fun y c e=>mct _ (List.mem_filterMap.mpr ⟨(y, .cell),(zdd _ _ _ _ (e4▸mem_of_lookup e)).1,e⟩)
 have kd:∀ y,ce.kindOf y=fd.scope.names.lookup y:=fun y=>by show ce.scope.names.lookup y=_;rw [e1]
 have nofree:∀ y,ce.kindOf y≠some .free:=fun y e=>by
  rw [kd] at e
  have:=latp h6 _ (mem_of_lookup e)
  simp at this
 have val:∀ n y d,G.names[n]?=some y→(zbl [] f.params ds).get n=some d→∃ v,(xs.zip vs).lookup y=some v∧VRep G.w Oc s.heap v d∧n∉f.own:=fun n y d hy hd=>by
  rw [zgz _ _ _ _ h3] at hd
  cases q:(f.params.zip ds).lookup n with
  | none=>rw [q] at hd;simp [Rho.get] at hd
  | some d' =>
   rw [q] at hd
   obtain rfl:=soi hd
   obtain ⟨v,e,rv⟩:=ymz ok.nd (ykh h4 rfl) r q hy
   have hm:n∈f.params:=by
    have:=(zfe (by rw [List.map_fst_zip (by omega)];exact h3)).mp q
    exact (List.of_mem_zip this).1
   have:=latp h5 n hm
   exact ⟨v,e,rv,by simpa using this⟩
 have grow:∀ {v d},VRep G.w Oc s.heap v d→VRep G.w ((ce.locals::mcs)++Oc) s1.heap v d:=fun r=>(r.news hM).keep X.keep
 have cellv:∀ y c,ce.cells.lookup y=some c→s1.heap.IsCell c (bindC ce.kindOf (xs.zip vs) (fun _=>none) y):=fun y c e=>x.cell y c e
 have srep:∀ {n v d},n∉f.own→VRep G.w Oc s.heap v d→SRep G.w ⟨f.own,fun _=>none⟩ n ((ce.locals::mcs)++Oc) s1.heap v d:=fun hn r=>zhr hn (grow r)
 refine ⟨(ce.locals::mcs)++Oc,ce.locals::mcs,⟨⟨ok,hh,X.base,X.pos,fun b m=>?_,⟨e1▸Df.kind,e3.trans Df.gl,e5.trans Df.bi,List.mem_append_left _ mch,fr0 _ (hM _ mch),fun n b e=>(by exact nn e),fun y c e=>⟨List.mem_append_left _ (celem y c e),fr0 _ (hM _ (celem y c e))⟩,fun y z c e e'=>name_of_addr x.apart (mem_of_lookup e) (mem_of_lookup e'),fun y hy=>?_,⟨_,x.toInCall.ns,fun n y d h8 h9 h10=>?_⟩,fun n y d h8 h9 h10=>?_⟩⟩,fun b m=>List.mem_append_left _ m,mch,celem,fun n b e=>(by exact nn e),fun b m=>fr0 _ (hM b m),fun b m o e=>?_,fun b m=>List.mem_append_right _ m,fun b m m'=>?_,fun n m b e=>(by exact nn e)⟩,hM,X⟩
 ·rcases map2 m with m | m
  ·rcases mcp m with rfl | m
   ·obtain ⟨o,es,ep,e,dd,_⟩:=x.toInCall.ns
    exact ⟨o,e, .inr fun vs q=>by rw [dd] at q;cases q⟩
   ·obtain ⟨p,_,hp⟩:=List.mem_filterMap.mp m
    obtain ⟨o,e,dd⟩:=cellv p.1 b hp
    exact ⟨o,e, .inr fun vs q=>by rw [dd] at q;cases q⟩
  ·obtain ⟨o,e,q⟩:=ov b m;exact ⟨o,xk b o e,q⟩
 ·rcases hy with hy | hy
  ·rw [kd] at hy
   obtain ⟨c,hc⟩:=zbr _ (s.heap.objs.size+1) _ (mem_of_lookup hy)
   obtain ⟨c',e'⟩:=zbs (l:=ce.cells) (by rw [e4];exact hc)
   exact ⟨c',_,e',cellv y c' e'⟩
  ·exact absurd hy (nofree y)
 ·obtain ⟨v,v1,v2,v3⟩:=val n y d h8 h10
  exact ⟨v,by rw [zpi _ _ _ _ h2 h9,v1],srep v3 v2⟩
 ·have hnl:ce.kindOf y≠some .local:=fun q=>by rw [q] at h9;rcases h9 with h9 | h9 <;> cases h9
  obtain ⟨v,v1,v2,v3⟩:=val n y d h8 h10
  rcases h9 with h9 | h9
  ·rw [kd] at h9
   obtain ⟨c,hc⟩:=zbr _ (s.heap.objs.size+1) _ (mem_of_lookup h9)
   obtain ⟨c',e'⟩:=zbs (l:=ce.cells) (by rw [e4];exact hc)
   have:=cellv y c' e'
   rw [zph _ _ _ _ h2 hnl,v1] at this
   exact ⟨c',v,e',this,srep v3 v2⟩
  ·exact absurd h9 (nofree y)
 ·rcases mcp m with rfl | m
  ·obtain ⟨o',es,ep,e',dd,_⟩:=x.toInCall.ns
   rw [e'] at e;obtain rfl:=soi e;exact zgx dd
  ·obtain ⟨p,_,hp⟩:=List.mem_filterMap.mp m
   obtain ⟨o',e',dd⟩:=cellv p.1 b hp
   rw [e'] at e;obtain rfl:=soi e;exact zkf dd
 ·obtain ⟨o,e,_⟩:=ov b m'
  rw [hM b m] at e;exact nn e
end
end Internal
namespace Internal
section
variable {G:GC} {A:Around} {S:Sig}
theorem zuw {f:Fn} {fd:FuncData} {body:List Stmt} {xs:List Str} {a:Addr} {Oc:List Addr} {s:Shared} {vs:List Value} {ds:List D} {d:D} (ok:GOK G) (hh:A.handled=none) (hr:A.depth<recursionLimit) (hu:A.units+103<cLine) (B:Base G s.heap) (p:0<s.toks) (ov:OVal Oc s.heap) (r:VReps G.w Oc s.heap vs ds)
  (Df:DefOK G a fd body xs) (hf:fnOK G.names f fd body xs=true) (F:∀ env,FunOK G (A.deeper env) S.cal) (gl:zhf G S.gl) (h:zbb S f ds=some d):Sat G A Oc (call (.ref a) vs) s d:=fun Q E q=>by
 have hl:ds.length=f.params.length:=by
  unfold zbb at h
  split at h
  ·assumption
  ·exact nn h
 obtain ⟨h10,hck⟩:=bap hf
 obtain ⟨h1,hf0⟩:=bap h10
 have hf1:=hf0
 simp only [zid,Bool.and_eq_true,decide_eq_true_eq] at hf1
 obtain ⟨⟨⟨⟨⟨h2,h3⟩,h4⟩,h5⟩,h6⟩,h7⟩:=hf1
 have hpl:xs.length=f.params.length:=by have:=congrArg List.length h4;simpa using this.symm
 obtain ⟨o,ho,hdat⟩:=Df.at'
 have hvl:vs.length=xs.length:=by rw [r.length,hl,hpl]
 refine wpAny_call (codeAny_call_function hr (B.keep _ _ ho) hdat Df.co Df.gen Df.body (Df.code.keeps B.keep) ?_)
 rw [Df.bind vs hvl,Df.clo]
 refine wpAny_pure (wpAny_with_toks (Nat.le_refl s.toks) (wpAny_newFunctionEnv_cells Df.kind (fun y hy=>?_) fun env he s1 x tk=>?_))
 ·obtain ⟨y1,y2⟩:=y
  have hm:=(List.of_mem_zip hy).1
  have:=latp h7 y1 hm
  rcases Bool.or_eq_true_iff.mp this with e | e
  ·exact .inl (by simpa using e)
  ·have e:fd.scope.names.lookup y1=some .cell:=by simpa using e
   refine .inr ⟨e, ?_⟩
   obtain ⟨c,hc⟩:=zbr _ (s.heap.objs.size+1) _ (mem_of_lookup e)
   obtain ⟨c',e'⟩:=zbs hc
   exact Option.isSome_iff_exists.mpr ⟨c',e'⟩
 ·have he:env=callEnvC fd s.heap.objs.size a:=he
  subst he
  refine ⟨(ok.lim.keeps B.keep).keeps x.toInCall.keep,codeAny_func ?_⟩
  obtain ⟨O,M,FF,hM,X⟩:=zug (A:=A.deeper (callEnvC fd s.heap.objs.size a)) ok hh B (Nat.lt_of_lt_of_le p tk) ov r Df hf0 hl x
  have hb:∃ out,exs S (zbl [] f.params ds) f.body=some out∧(match out with | .ret d'=>d'=d | .next _=>d=.none):=by
   unfold zbb at h
   rw [if_pos hl] at h
   split at h
   ·rename_i d' e;obtain rfl:=soi h;exact ⟨_,e,rfl⟩
   ·rename_i ρ' e;obtain rfl:=soi h;exact ⟨_,e,rfl⟩
   ·exact nn h
  obtain ⟨out,e1,e2⟩:=hb
  have FX:FxOK G (A.deeper (callEnvC fd s.heap.objs.size a)) S ⟨G.names,fd.scope.names,f.own⟩ (callEnvC fd s.heap.objs.size a) f.own :=
   ⟨fun own hn=>⟨rfl,rfl,fun n=>by rw [hn];simp,Df.kind,F _,gl,hh,(by show A.units+3+100<cLine;omega)⟩,fun y c e=>.inl (by
    have m:=(zdd _ _ _ _ (show (y,c)∈cellsFrom (s.heap.objs.size+1) fd.scope.names [] from mem_of_lookup e)).1
    have:=latp hck _ m
    have h9:fd.scope.names.lookup y=some .cell:=by simpa using this
    exact h9)⟩
  refine zfb f.body FX h1 e1 _ O M s1 rfl FF _ _ (fun ρ' own' O' M' s' eo _ F' st=>?_) (fun d' v s' eo sx rv=>?_)
  ·subst eo
   cases e2
   exact q _ _ ((X.sext.trans st.sx).ext hM) .none
  ·subst eo
   cases e2
   exact q _ _ ((X.sext.trans sx).ext hM) rv
end
end Internal
namespace Internal
section
variable {G:GC} {A:Around}
noncomputable abbrev noOwn:Own:=⟨[],fun _=>none⟩
theorem zex {n:Nat} {O:List Addr} {h:Heap} {v:Value} {d:D}:SRep G.w noOwn n O h v d=VRep G.w O h v d:=by unfold SRep;rw [if_neg (by simp)]
structure NFun (G:GC) (h:Heap) (f:Addr) (fd:FuncData) (body:List Stmt) (clos:List (Str × Addr)):Prop where
 at':∃ o,h.get? f=some o∧o.data=.func fd
 code:∃ c,fd.code=.ref c∧CodeIs h c fd.qualname
 body:fd.body=.stmts body
 clo:fd.closure=clos
 gl:fd.globals=mainGlobals
 bi:fd.builtins=builtinsNs
 co:fd.scope.isCoroutine=false
 gen:fd.scope.isGenerator=false
 kind:fd.scope.kind=.function
theorem NFun.keepBut {h h':Heap} {f:Addr} {fd:FuncData} {body:List Stmt} {clos:List (Str × Addr)} {W:List Addr} (x:NFun G h f fd body clos) (k:KeepBut W h h') (hW:∀ a∈W,∀ o,h.get? a=some o→(∀ fd,o.data≠.func fd)∧(∀ vs,o.data≠.fields vs)):NFun G h' f fd body clos :=
 { x with
  at':=let ⟨o,e,d⟩:=x.at';⟨o,k _ _ (fun m=>(hW _ m _ e).1 _ d) e (.inr fun vs q=>by rw [d] at q;cases q),d⟩
  code:=by obtain ⟨c,e,o,vs,t,a,b,d,r⟩:=x.code;exact ⟨c,e,o,vs,t,k _ _ (fun m=>(hW _ m _ a).2 _ d) a (.inl (by rw [b];nofun)),b,d,r⟩ }
theorem NFun.keep {h h':Heap} {f:Addr} {fd:FuncData} {body:List Stmt} {clos:List (Str × Addr)} (x:NFun G h f fd body clos) (k:Keep h h'):NFun G h' f fd body clos :=
 x.keepBut (W:=[]) (fun b o _ e c=>k b o e c) (fun _ m=>by cases m)
theorem zqp {O:List Addr} {s:Shared} {f:Addr} {fd:FuncData} {body:List Stmt} {clos:List (Str × Addr)} {xs:List Str} {vs:List Value} {ρ:Rho} {Q:Value→Shared→Prop} {E:Value→Shared→Prop}
  (ok:GOK G) (hh:A.handled=none) (hr:A.depth<recursionLimit) (B:Base G s.heap) (p:0<s.toks) (ov:OVal O s.heap) (N:NFun G s.heap f fd body clos)
  (bind:bindArgs fd ⟨vs,[]⟩=pure (xs.zip vs)) (loc:∀ x∈xs,fd.scope.names.lookup x=some .local) (nocell:∀ x∈fd.scope.names,x.2≠.cell)
  (cin:∀ x c,clos.lookup x=some c→c∈O∧G.h₀.get? c=none) (inj:∀ x y c,clos.lookup x=some c→clos.lookup y=some c→x=y)
  (ce:∀ x,fd.scope.names.lookup x=some .free→∃ c v,clos.lookup x=some c∧s.heap.IsCell c v)
  (hl:∀ n x d,G.names[n]?=some x→fd.scope.names.lookup x=some .local→ρ.get n=some d→∃ v,(xs.zip vs).reverse.lookup x=some v∧VRep G.w O s.heap v d)
  (hf:∀ n x d,G.names[n]?=some x→fd.scope.names.lookup x=some .free→ρ.get n=some d→∃ c v,clos.lookup x=some c∧s.heap.IsCell c (some v)∧VRep G.w O s.heap v d)
  (k:∀ env s1,env.scope=fd.scope→env.cells=clos→s.heap.get? env.locals=none→Ext G s s1→Inv G (A.deeper env) env noOwn (env.locals::O) ρ s1 →
   ∀ E',wpAny (mdl G) (A.deeper env) (execs body env) (fun fl s'=>Q (match fl with | .ret v=>v | _=>.none) s') E' s1) :
  wpAny (mdl G) A (call (.ref f) vs) Q E s:=by
 obtain ⟨o,ho,hdat⟩:=N.at'
 obtain ⟨c,hc,hci⟩:=N.code
 refine wpAny_call (codeAny_call_function hr ho hdat N.co N.gen N.body (by rw [hc];exact hci.rec') ?_)
 rw [bind,N.clo]
 refine wpAny_pure (wpAny_newFunctionEnv nocell (fun y hy=>loc y.1 (List.of_mem_zip hy).1) (fun h' hns hsb=>⟨?_,codeAny_func ?_⟩) N.kind)
 ·exact ((ok.lim.keeps B.keep).keeps fun b o e=>hsb.extBut b o (Nat.ne_of_lt (Heap.lt_size e)) (Heap.get?_push_of_some _ e))
 ·generalize he:newEnv fd.scope s.heap.objs.size fd.globals clos (fd.qualname ++ ".<locals>.") (some f) fd.code none fd.builtins=env
  have e1:env.scope=fd.scope:=by rw [← he];rfl
  have e2:env.locals=s.heap.objs.size:=by rw [← he];rfl
  have e3:env.globals=fd.globals:=by rw [← he];rfl
  have e4:env.cells=clos:=by rw [← he];rfl
  have e5:env.builtins=fd.builtins:=by rw [← he];rfl
  have kk:∀ b o,s.heap.get? b=some o→h'.get? b=some o:=fun b o e=>hsb.extBut b o (Nat.ne_of_lt (Heap.lt_size e)) (Heap.get?_push_of_some _ e)
  have X:Ext G s { s with heap:=h',toks:=s.toks+(xs.zip vs).length }:=Ext.all B kk (Nat.lt_of_lt_of_le p (Nat.le_add_right _ _))
  have hL:s.heap.get? env.locals=none:=by rw [e2];exact zak _
  have hns:h'.Ns env.locals (fun x=>(xs.zip vs).reverse.lookup x):=by rw [e2];exact hns
  have kd:∀ y,env.kindOf y=fd.scope.names.lookup y:=fun y=>by show env.scope.names.lookup y=_;rw [e1]
  have grow:∀ {v d},VRep G.w O s.heap v d→VRep G.w (env.locals::O) h' v d:=fun r=>(VRep.news (N:=[env.locals]) r fun b m=>by rcases msp m with rfl;exact hL).keep X.keep
  have nocell':∀ y,env.kindOf y≠some .cell:=fun y e=>by rw [kd] at e;exact nocell _ (mem_of_lookup e) rfl
  refine k env _ e1 e4 hL X ⟨ok,hh,X.base,X.pos,fun b m=>?_,⟨by rw [e1];exact N.kind,by rw [e3];exact N.gl,by rw [e5];exact N.bi,mch,zby (fun o q=>B.keep _ o q) hL,fun n a e=>(by exact nn e),fun x c e=>?_,fun x y c=>by rw [e4];exact inj x y c,fun x hx=>?_,⟨_,hns,fun n x d h1 h2 h3=>?_⟩,fun n x d h1 h2 h3=>?_⟩⟩ _
  ·rcases mcp m with rfl | m
   ·obtain ⟨o,es,ep,e,dd,_⟩:=hns
    exact ⟨o,e, .inr fun vs q=>by rw [dd] at q;cases q⟩
   ·obtain ⟨o,e,q⟩:=ov b m;exact ⟨o,kk b o e,q⟩
  ·rw [e4] at e;exact ⟨mct _ (cin x c e).1,(cin x c e).2⟩
  ·have hx:fd.scope.names.lookup x=some .free:=by
    rcases hx with hx | hx
    ·exact absurd hx (nocell' x)
    ·rwa [kd] at hx
   obtain ⟨c,v,a1,a2⟩:=ce x hx
   exact ⟨c,v,by rw [e4];exact a1,a2.keeps kk⟩
  ·rw [kd] at h2
   obtain ⟨v,a1,a2⟩:=hl n x d h1 h2 h3
   exact ⟨v,a1,by rw [zex];exact grow a2⟩
  ·have h2:fd.scope.names.lookup x=some .free:=by
    rcases h2 with h2 | h2
    ·exact absurd h2 (nocell' x)
    ·rwa [kd] at h2
   obtain ⟨c,v,a1,a2,a3⟩:=hf n x d h1 h2 h3
   exact ⟨c,v,by rw [e4];exact a1,a2.keeps kk,by rw [zex];exact grow a3⟩
theorem ypx {S:Sig} {c:Cx} {env:Env} {O:List Addr} {ρ:Rho} {n:Nat} {x:Str} {e:E} {v:Expr} {np pos:Pos} {d:D} {s:Shared} {Q:Flow→Shared→Prop} {E:Value→Shared→Prop} (X:CxOK G A S c env noOwn) (I:Inv G A env noOwn O ρ s)
  (nm:G.names[n]?=some x) (hk:env.kindOf x=some .local) (hs:zmf env.kindOf x np v=false) (hc:chkE c e v=true) (he:ev S ρ e=some d)
  (q:∀ s',SExt G [env.locals] s s'→Inv G A env noOwn O (ρ.set n d) s'→Q .next s'):wpAny (mdl G) A (exec (.Assign [.Name x np] v pos) env) Q E s:=by
 refine wpAny_Assign_Name ((zap e X hc).1 d he s I _ _ fun u s1 x1 r1=>?_) (by rw [zkh X.fn,hs])
 refine zfz (W:=[env.locals]) (I.ext x1) nm hk (.inl rfl) (zhr (by simp) r1) ⟨mch,fun hc c e=>by rw [hk] at hc;cases hc⟩ fun s2 x2 _ I2=>?_
 exact q s2 (x1.sext.trans x2) I2
end
end Internal
namespace Internal
section
variable {G:GC} {A:Around}
structure TabsOK (G:GC):Prop where
 out:∀ t∈G.tabs,G.h₀.get? t.P=none
 inj:∀ t∈G.tabs,∀ t'∈G.tabs,t.P=t'.P→t=t'
theorem yln {env:Env} {t:Tab} {firstLine:Nat} {name:Str} {params:Arguments} {scope:Scope} {body:FuncBody} {s:Shared} {Q:Value→Shared→Prop} {E:Value→Shared→Prop} (T:TabsOK G) (B:Base G s.heap) (ht:t∈G.tabs) (hc:env.code=.ref t.c)
  (q:∀ c' h' tk,Heap.ExtBut t.P s.heap h'→Keep s.heap h'→Base G h'→0<tk→CodeIs h' c' t.qual→Q (.ref c') { s with heap:=h',toks:=tk }) (p:0<s.toks) :
  wpAny (mdl G) A (functionCode env t.pos firstLine name t.qual params scope body) Q E s:=by
 obtain ⟨C,ps,e1,e2,e3⟩:=B.memo t ht
 rcases e3 with e3 | ⟨c',e3,e4⟩
 ·refine wpAny_with_toks (Nat.le_refl s.toks) (wpAny_functionCodeX hc (C.code e1 e2) (C.tab e1) e3 fun c' h' tk hx hge hlt hco hrec htb hnew htk=>?_)
  obtain ⟨P',_,_,⟨⟨o,vs,f1,f2,f3,f4⟩,_⟩⟩:=hnew
  have ci:CodeIs h' c' t.qual:=by
   obtain ⟨c₂,o₂,vs₂,t₂,g1,g2,g3,g4⟩:=hrec
   cases g1
   rw [f1] at g2;obtain rfl:=soi g2
   rw [f3] at g3;cases g3
   exact ⟨o,vs,t₂,f1,f2,f3,g4⟩
  have kp:Keep s.heap h':=fun b o e c=>hx b o (fun q=>by
   rw [q,e1] at e;obtain rfl:=soi e
   rcases c with c | c
   ·exact c rfl
   ·exact c _ rfl) e
  refine q c' h' tk hx kp ⟨fun b o e=>hx b o (fun q=>by rw [q,T.out t ht] at e;exact nn e) (B.keep b o e),fun t' ht'=>?_⟩ (Nat.lt_of_lt_of_le p htk) ci
  by_cases hP:t'.P=t.P
  ·obtain rfl:=T.inj _ ht' _ ht hP
   refine ⟨CodeHd.of hco htb,_,htb.2, ?_, .inr ⟨c', ?_,ci⟩⟩
   ·simpa using TriplesOk_snoc _ _ _ _ e2
   ·simpa using codeAmong_snoc _ e2 e3
  ·obtain ⟨⟨o',vs',file,tf,flags,tg,inF,text,tt,b1,b2,b3⟩,ps',d1,d2,d3⟩:=B.memo t' ht'
   refine ⟨⟨o',vs',file,tf,flags,tg,inF,text,tt,kp _ _ b1 (.inl (by rw [b2];nofun)),b2,b3⟩,ps',hx _ _ hP d1,d2, ?_⟩
   rcases d3 with d3 | ⟨c₃,d3,o₃,vs₃,t₃,i1,i2,i3⟩
   ·exact .inl d3
   ·exact .inr ⟨c₃,d3,o₃,vs₃,t₃,kp _ _ i1 (.inl (by rw [i2];nofun)),i2,i3⟩
 ·exact wpAny_functionCode_hit hc (C.code e1 e2) e3 (q c' s.heap s.toks (fun b o _ e=>e) (.refl _) B p e4)
theorem ymr {env:Env} {t:Tab} {name:Str} {params:Arguments} {scope:Scope} {body:List Stmt} {clos:List (Str × Addr)} {s:Shared} {Q:Value→Shared→Prop} {E:Value→Shared→Prop} (ok:GOK G) (T:TabsOK G) (B:Base G s.heap) (ht:t∈G.tabs) (hc:env.code=.ref t.c)
  (hcl:closureFor scope env=pure clos) (hne:clos≠[]) (hge:env.globals=mainGlobals) (hco:scope.isCoroutine=false) (hgen:scope.isGenerator=false) (hk:scope.kind=.function) (hdoc:docOf body=none)
  (q:∀ f fd s',Ext G s s'→s.heap.get? f=none→NFun G s'.heap f fd body clos→fd.params=params→fd.scope=scope→fd.defaults=.none→fd.kwdefaults=.none→Q (.ref f) s') (p:0<s.toks) :
  wpAny (mdl G) A (makeFunction name t.qual params (.stmts body) scope env [] [] [] t.pos t.pos.line) Q E s:=by
 obtain ⟨bm,ob,hbm,hne0,hneG,hbo,hcls,hdict,hdata⟩:=ok.bm
 rw [makeFunction_eq]
 simp only [List.zip_nil_right,List.filterMap_nil,List.isEmpty_nil,if_true,pure_bind]
 unfold makeTail
 rw [hcl,hge]
 refine wpAny_bind (wpAny_pure ?_)
 cases clos with
 | nil=>exact absurd rfl hne
 | cons u r =>
  simp only [List.isEmpty_cons,Bool.false_eq_true,if_false]
  refine wpAny_bind (wpAny_newTextTuple ?_)
  refine wpAny_bind (yln T (B.all fun b o e=>Heap.get?_push_of_some _ e) ht hc (fun c' h' tk hx kp B' p' ci=>?_) p)
  refine wpAny_bind (wpAny_builtinsFor (ok.g.keeps B'.keep) hbm hne0 (B'.keep _ _ hbo) hcls hdict hdata ?_)
  refine wpAny_bind (wpAny_nsGet (ok.g.keeps B'.keep) ?_)
  rw [hdoc]
  refine wpAny_bind (wpAny_pure ?_)
  refine wpAny_newObj_type ?_ (by size_fits)
  have k0:Keep s.heap h':=fun b o e c=>kp b o (Heap.get?_push_of_some _ e) c
  have back0:∀ b,h'.get? b=none→s.heap.get? b=none:=fun b e=>by
   cases hb:s.heap.get? b with
   | none=>rfl
   | some o =>
    by_cases hP:b=t.P
    ·subst hP
     obtain ⟨_,ps,e1,_⟩:=B'.memo t ht
     rw [e] at e1;exact nn e1
    ·rw [hx b o hP (Heap.get?_push_of_some _ hb)] at e;cases e
  have hf:h'.get? h'.objs.size=none:=zak _
  obtain ⟨o,vs,tk',i1,i2,i3,i4⟩:=ci
  refine q _ _ _ ⟨⟨_,_,rfl⟩,fun b o e c=>Heap.get?_push_of_some _ (k0 b o e c),B'.all fun b o e=>Heap.get?_push_of_some _ e,p',fun b e=>back0 b (zby (fun o q=>Heap.get?_push_of_some _ q) e)⟩ (back0 _ hf)
   ⟨⟨_,Heap.get?_push_size _ rfl,rfl⟩,⟨c',rfl,o,vs,tk',Heap.get?_push_of_some _ i1,i2,i3,i4⟩,rfl,rfl,rfl,rfl,hco,hgen,hk⟩ rfl rfl rfl rfl
theorem yjg {env:Env} {t:Tab} {name:Str} {params:Arguments} {scope:Scope} {body:List Stmt} {clos:List (Str × Addr)} {s:Shared} {Q:Flow→Shared→Prop} {E:Value→Shared→Prop} (ok:GOK G) (T:TabsOK G) (B:Base G s.heap) (ht:t∈G.tabs) (hc:env.code=.ref t.c) (hq:qualnameIn env name name=t.qual)
  (hcl:closureFor scope env=pure clos) (hne:clos≠[]) (hge:env.globals=mainGlobals) (hco:scope.isCoroutine=false) (hgen:scope.isGenerator=false) (hk:scope.kind=.function) (hdoc:docOf body=none)
  (hd0:params.defaults=[]) (hk0:params.kw_defaults=[]) (ha:annTrees params none env=[])
  (q:∀ f fd s',Ext G s s'→s.heap.get? f=none→NFun G s'.heap f fd body clos→fd.params=params→fd.scope=scope→fd.defaults=.none→fd.kwdefaults=.none→wpAny (mdl G) A (storeName env name (.ref f)) (fun _ s''=>Q .next s'') E s') (p:0<s.toks) :
  wpAny (mdl G) A (exec (.FunctionDef name params body [] none [] scope none name t.pos) env) Q E s:=by
 refine nestDef_K hd0 hk0 ha ?_
 rw [hq]
 exact ymr ok T B ht hc hcl hne hge hco hgen hk hdoc q p
end
end Internal
namespace Internal
noncomputable def dig (n x i:Nat):Nat:=x / 2^(n*i) % 2^n
noncomputable def digs (n x k:Nat):List Nat:=(List.range k).map (dig n x)
theorem zeh (n x k:Nat):(digs n x k).length=k:=by simp [digs]
theorem yoz (n x i:Nat):dig n x i<2^n:=Nat.mod_lt _ (Nat.two_pow_pos n)
theorem yls {n x i k:Nat} (h:i<k):dig n (x % 2^(n*k)) i=dig n x i:=by
 unfold dig
 have e:n*k=n*i+(n*(k-i-1)+n):=by
  have:k=i+((k-i-1)+1):=by rw [Nat.sub_add_cancel (Nat.sub_pos_of_lt h),Nat.add_sub_cancel' (Nat.le_of_lt h)]
  conv=>lhs;rw [this]
  rw [Nat.mul_add,Nat.mul_add,Nat.mul_one]
 rw [e,Nat.pow_add,Nat.mod_mul_right_div_self,Nat.pow_add,Nat.mod_mul_left_mod]
theorem yfz {n x i k:Nat}:dig n (x / 2^(n*k)) i=dig n x (k+i):=by
 unfold dig
 rw [Nat.div_div_eq_div_mul,← Nat.pow_add,← Nat.mul_add]
theorem zmk (n x a b:Nat):digs n (x % 2^(n*a)) a++digs n (x / 2^(n*a)) b=digs n x (a+b):=by
 unfold digs
 rw [List.range_add,List.map_append,List.map_map]
 congr 1
 ·exact List.map_congr_left fun i hi=>yls (List.mem_range.mp hi)
 ·exact List.map_congr_left fun i _=>yfz
theorem zud (n x:Nat) (h:x<2^n):digs n x 1=[x]:=by
 simp [digs,dig,Nat.mod_eq_of_lt h]
noncomputable def und (n:Nat):List Nat→Nat
 | []=>0
 | d::r=>d+2^n*und n r
theorem zfi (n:Nat):∀ (xs ys:List Nat),und n (xs++ys)=und n xs+2^(n*xs.length)*und n ys
 | [],ys=>by simp [und]
 | x::xs,ys=>by
  simp only [List.cons_append,und,zfi n xs ys,List.length_cons,Nat.mul_add,Nat.mul_one,Nat.pow_add]
  rw [← Nat.add_assoc,← Nat.mul_assoc,Nat.mul_comm (2^n) (2^(n*xs.length))]
theorem yks {n:Nat}:∀ {xs:List Nat},(∀ x∈xs,x<2^n)→und n xs<2^(n*xs.length)
 | [],_=>by simp [und]
 | x::xs,h=>by
  have h1:=h x mch
  have h2:=yks (n:=n) (xs:=xs) fun y m=>h y (mct _ m)
  simp only [und,List.length_cons,Nat.mul_add,Nat.mul_one,Nat.pow_add]
  have h3:2^n*und n xs+2^n≤2^(n*xs.length)*2^n:=by
   rw [Nat.mul_comm (2^(n*xs.length))]
   calc 2^n*und n xs+2^n=2^n*(und n xs+1):=by rw [Nat.mul_add,Nat.mul_one]
    _≤_:=Nat.mul_le_mul_left _ h2
  omega
theorem zwo (n:Nat):∀ (k x:Nat),und n (digs n x k)=x % 2^(n*k)
 | 0,x=>by simp [digs,und,Nat.mod_one]
 | k+1,x=>by
  rw [Nat.add_comm k 1,← zmk n x 1 k,zfi,zeh,Nat.mul_one,zwo n k,zud _ _ (Nat.mod_lt _ (Nat.two_pow_pos n))]
  simp only [und,Nat.mul_zero,Nat.add_zero]
  rw [Nat.mul_add,Nat.mul_one,Nat.pow_add,Nat.mod_mul]
noncomputable abbrev nint (n:Nat):D:=PyData.int (n:Int)
theorem zxj {n k:Nat} (h:n<2^k):ib (n:Int)≤k:=by
 unfold ib Builtin.Int.intBits
 by_cases c:n=0
 ·subst c;simp
 ·have:((n:Int)==0)=false:=by simpa using c
  rw [this]
  simp only [Bool.false_eq_true,if_false,Int.natAbs_natCast]
  have:=(Nat.log2_lt c).mpr h
  omega
theorem yas {n:Nat} (h:n<2^64):fits (n:Int)=true:=by
 unfold fits
 have:=zxj h
 exact decide_eq_true (by omega)
theorem ynk (a k:Nat):(a:Int).fdiv (2^((k:Int)).toNat)=((a / 2^k:Nat):Int):=by
 rw [Int.toNat_natCast,Int.fdiv_eq_ediv_of_nonneg _ (by exact_mod_cast Nat.zero_le _)]
 norm_cast
theorem ymq (x k:Nat):x &&& (x / 2^k*2^k)=x / 2^k*2^k:=by
 rw [← Nat.shiftRight_eq_div_pow,← Nat.shiftLeft_eq]
 apply Nat.eq_of_testBit_eq
 intro i
 rw [Nat.testBit_and,Nat.testBit_shiftLeft]
 by_cases c:k≤i
 ·rw [Nat.testBit_shiftRight];simp [c]
 ·simp [c]
theorem yoc (x k:Nat):Builtin.bitXor (x:Int) (((x / 2^k:Nat):Int)*2^((k:Int)).toNat)=((x % 2^k:Nat):Int):=by
 have e:(((x / 2^k:Nat):Int)*2^((k:Int)).toNat)=((x / 2^k*2^k:Nat):Int):=by rw [Int.toNat_natCast];norm_cast
 rw [e,PyProof.Rows.bitXor_and]
 have:Builtin.bitAnd (x:Int) ((x / 2^k*2^k:Nat):Int)=((x / 2^k*2^k:Nat):Int):=by
  rw [PyProof.Rows.bitAnd_pp (by omega) (by omega)]
  simp only [Int.toNat_natCast,ymq]
 rw [this]
 have:=Nat.mod_add_div x (2^k)
 rw [Nat.mul_comm] at this
 omega
theorem zkx (a k:Nat):zez .RShift (nint a) (nint k)=some (nint (a / 2^k)):=by
 show zdx .RShift a k=_
 unfold zdx
 simp only [ynk]
 rw [if_pos (by simp)]
theorem zkw {a k:Nat} {m:Nat} (h:a<2^m) (hm:m+k≤2^27):zez .LShift (nint a) (nint k)=some (nint (a*2^k)):=by
 show zdx .LShift a k=_
 have:=zxj h
 have c:(decide ((0:Int)≤(k:Int))&&decide ((ib (a:Int):Int)+(k:Int)≤2^27))=true:=by
  rw [Bool.and_eq_true,decide_eq_true_eq,decide_eq_true_eq]
  have e:(2:Int)^27=134217728:=by decide
  rw [e]
  omega
 have e:zdx .LShift (a:Int) (k:Int)=if decide ((0:Int)≤(k:Int))&&decide ((ib (a:Int):Int)+(k:Int)≤2^27) then some (.int ((a:Int)*2^(k:Int).toNat)) else none:=rfl
 rw [e,if_pos c,Int.toNat_natCast]
 norm_cast
theorem zdp (a b:Nat):zez .Add (nint a) (nint b)=some (nint (a+b)):=by
 show zdx .Add a b=_
 unfold zdx;norm_cast
theorem zde {a b:Nat} (h:b≤a):zez .Sub (nint a) (nint b)=some (nint (a-b)):=by
 show zdx .Sub a b=_
 unfold zdx;simp only [nint];congr 2;omega
theorem zge {a b:Nat} (ha:a<2^64) (hb:b<2^64):zez .Mult (nint a) (nint b)=some (nint (a*b)):=by
 show zdx .Mult a b=_
 unfold zdx
 simp only [yas ha,yas hb,Bool.and_self,if_true]
 norm_cast
theorem zpv (x k:Nat):zez .BitXor (nint x) (nint (x / 2^k*2^k))=some (nint (x % 2^k)):=by
 show zdx .BitXor x _=_
 unfold zdx
 have:=yoc x k
 rw [show (((x / 2^k:Nat):Int)*2^((k:Int)).toNat)=((x / 2^k*2^k:Nat):Int) by rw [Int.toNat_natCast];norm_cast] at this
 simp only [this]
theorem zum (a b:Nat):zdq .Eq (nint a) (nint b)=some (.bool (decide (a=b))):=by
 show (if dep 8 (nint a)&&dep 8 (nint b) then some (PyData.bool (PyData.eqv (nint a) (nint b))) else none)=_
 rw [if_pos (by rfl)]
 congr 2
 show decide ((a:Int)=(b:Int))=_
 exact decide_eq_decide.mpr (by omega)
section
variable {G:GC} {A:Around} {s:Shared}
theorem ydg {D:Addr} {vs:Array Value} {k:Int} {t:Tok} {v:Value} {Q:Unit→Shared→Prop} {E:Value→Shared→Prop} (hl:s.heap.PlainList D vs) (h0:0≤k) (hf:k<2^63) (hn:k<vs.size)
  (q:∀ h',h'.PlainList D (vs.setIfInBounds k.toNat v)→Heap.SameBut D s.heap h'→Q () { s with heap:=h' }):wpAny (mdl G) A (setItem (.ref D) (.int k t) v) Q E s:=by
 obtain ⟨n,ho⟩:=id hl
 have hi:s.heap.IsList D vs:=hl.isList
 unfold setItem
 try with_reducible refine wpAny_holding ?_
 first | refine wpAny_bind (wpAny_pure ?_) | skip
 refine wpAny_bind (wpAny_sequenceKey hi.typeIs (by decide) ?_)
 refine wpAny_bind (wpAny_callSpecial?_slot (name:=Str.ofString "__setitem__") hi.typeIs slot_list_setitem
  (wpAny_call_entry slot_list_setitem hi.typeIs entry_list_setitem ?_ (args_list_setitem _ _ _)))
 show wpAny _ _ (Builtin.List.listSubscript? (.int k t) >>= _) _ _ s
 refine wpAny_bind (wpAny_listSubscript_int (fitsIndex_of h0 hf) ?_)
 clear hf
 obtain ⟨j,rfl⟩:=Int.eq_ofNat_of_zero_le h0
 have hj:j<vs.size:=by omega
 have hx:vs[j]?=some vs[j]:=Array.getElem?_eq_getElem hj
 show wpAny _ _ ((seqItemAt D j >>= fun r=>pure (r.map (j,·))) >>= _) _ _ s
 refine wpAny_bind (wpAny_bind (wpAny_seqItemAt ho rfl (wpAny_pure ?_)))
 rw [hx]
 show wpAny _ _ (setSeqItemAt D j v >>= _) _ _ s
 have hm:Obj.mapSeq (·.setIfInBounds j v) { cls:=.type "list",data:=.seq vs n }={ cls:=.type "list",data:=.seq (vs.setIfInBounds j v) n }:=by simp [Obj.mapSeq]
 have fin:(s.heap.update D (Obj.mapSeq (·.setIfInBounds j v))).PlainList D (vs.setIfInBounds j v):=⟨n,by rw [Heap.get?_update_self _ ho (by rw [hm];rfl),hm]⟩
 refine wpAny_bind (wpAny_setSeqItemAt ho rfl ?_)
 first
  | exact wpAny_bind (wpAny_pure (wpAny_pure ⟨.none,rfl,wpAny_pure (q _ fin (Heap.SameBut.update ..))⟩))
  | exact wpAny_pure ⟨.none,rfl,wpAny_pure (q _ fin (Heap.SameBut.update ..))⟩
noncomputable def IV (vs:List Value) (ns:List Nat):Prop:=vs.length=ns.length∧∀ (i n:Nat),ns[i]?=some n→∃ t:Tok,vs[i]?=some (Value.int (n:Int) t)
theorem IV.reps {w:World} {O:List Addr} {h:Heap} {vs:List Value} {ns:List Nat} (x:IV vs ns):VReps w O h vs (ns.map nint):=by
 refine VReps.of_get (by simpa using x.1) fun i v d h1 h2=>?_
 rw [List.getElem?_map] at h2
 obtain ⟨n,h3,rfl⟩:=Option.map_eq_some_iff.mp h2
 obtain ⟨t,h4⟩:=x.2 i n h3
 rw [h1] at h4;obtain rfl:=soi h4
 exact .int
theorem IV.of {w:World} {O:List Addr} {h:Heap} {vs:List Value} {ns:List Nat} (r:VReps w O h vs (ns.map nint)):IV vs ns:=by
 refine ⟨by simpa using r.length,fun i n h1=>?_⟩
 obtain ⟨v,h2,h3⟩:=r.get i (nint n) (by rw [List.getElem?_map,h1];rfl)
 obtain ⟨t,rfl⟩:=h3.int_inv
 exact ⟨t,h2⟩
theorem IV.set {vs:List Value} {ns:List Nat} (x:IV vs ns) (k n:Nat) (t:Tok):IV (vs.set k (Value.int (n:Int) t)) (ns.set k n):=by
 refine ⟨by simpa using x.1,fun i m h=>?_⟩
 rw [List.getElem?_set] at h ⊢
 by_cases c:k=i
 ·subst c
  rw [if_pos rfl] at h ⊢
  split at h
  ·rename_i hk
   obtain rfl:=soi h
   rw [if_pos (by rw [x.1];exact hk)]
   exact ⟨t,rfl⟩
  ·exact nn h
 ·rw [if_neg c] at h ⊢
  exact x.2 i m h
theorem SExt.drop {L:Addr} {W:List Addr} {s s':Shared} (x:SExt G (L::W) s s') (h:s.heap.get? L=none):SExt G W s s' :=
 ⟨x.same,fun b o m e c=>x.keep b o (fun q=>by
   rcases mcp q with rfl | q
   ·rw [h] at e;exact nn e
   ·exact m q) e c,x.base,x.pos,fun b m e=>if c:b=L then c▸h else x.back b (fun q=>(mcp q).elim c m) e⟩
noncomputable def zlp:List Str:=["a_digits", "inner", "n", "x", "L", "R", "mid", "shift", "upper", "lower", "digits", "a"]
noncomputable def S0:Sig:=⟨fun _ _=>none,fun _=>none,false⟩
theorem fun0:FunOK G A S0.cal:=⟨fun f x ds d _ h=>(by exact nn h)⟩
theorem ygp:zhf G S0.gl:=fun n x d _ h=>(by exact nn h)
theorem nle {a b:Nat} (h:Nat.ble a b=true):a≤b:=Nat.le_of_ble_eq_true h
theorem bi {α β:Type} {o:Option α} {k:α→Option β} {x:α} {r:Option β} (h:o=some x) (e:k x=r):o.bind k=r:=by rw [h];exact e
theorem li {β:Type} {o:Option D} {k:List D→Option β} {x:List D} {r:Option β} (h:o=some (.list x)) (e:k x=r):lstO o k=r:=bi h e
theorem si {β:Type} {o:Option D} {k:Str→Option β} {x:Str} {r:Option β} (h:o=some (.str x)) (e:k x=r):strO o k=r:=bi h e
theorem ti {β:Type} {o:Option D} {k:List D→Option β} {x:List D} {r:Option β} (h:o=some (.tuple x)) (e:k x=r):tupO o k=r:=bi h e
theorem zaf {S:Sig} {ρ:Rho} {o:Operator} {a b:E} {x y z:D} (ha:ev S ρ a=some x) (hb:ev S ρ b=some y) (h:zez o x y=some z):ev S ρ (.bin o a b)=some z:=bi ha (bi hb h)
theorem zaa {S:Sig} {ρ:Rho} {n:Nat} {d:D} (h:ρ.get n=some d):ev S ρ (.var n)=some d:=h
theorem zai {S:Sig} {ρ:Rho} {d:D}:ev S ρ (.lit d)=some d:=rfl
theorem zab {S:Sig} {ρ:Rho} {e:E} {es:Es} {d:D} {ds:List D} (h:ev S ρ e=some d) (hs:evs S ρ es=some ds):evs S ρ (.cons e es)=some (d::ds):=bi h (bi hs rfl)
theorem zih {env:Env} {O:List Addr} {ρ:Rho} {f ci:Addr} {x:Str} {np pos:Pos} {args:List Expr} {ds:List D} {Q:Value→Shared→Prop} {E:Value→Shared→Prop} (I:Inv G A env noOwn O ρ s)
  (hk:env.kindOf x=some .free∨env.kindOf x=some .cell) (hc:env.cells.lookup x=some ci) (hq:s.heap.IsCell ci (some (.ref f))) (h1:(x==("__classdict__" : Str))=false) (h2:(x==("__debug__" : Str))=false)
  (hf:∃ o fd,s.heap.get? f=some o∧o.data=.func fd) (hst:zci args=true) (ha:EsOK G A args env noOwn O ρ ds)
  (k:∀ s1 vs,Ext G s s1→VReps G.w O s1.heap vs ds→wpAny (mdl G) A (call (.ref f) vs) Q E s1):wpAny (mdl G) A (eval (.Call (.Name x np) args [] pos) env) Q E s:=by
 obtain ⟨o,fd,f1,f2⟩:=hf
 have go:wpAny (mdl G) A (callWith pos (.ref f) [] (backTo pos (starEach args env)) (backToKw pos (keywordEach [] env))) Q E s:=by
  refine callWith_function_kw (o:=o) (fd:=fd) (zbg hst (ha s pos I _ _ fun vs s1 x1 r1=>⟨⟨x1.keep _ _ f1 (.inr fun vs q=>by rw [f2] at q;cases q),f2⟩, ?_⟩))
  exact k s1 vs x1 r1
 refine wpAny_Call_Name_kw (wpAny_Name ?_ h2)
 rcases hk with hk | hk
 ·exact wpAny_loadName_free I.envr.fn hk hc hq go h1
 ·exact wpAny_loadName_cell I.envr.fn hk hc hq go
end
end Internal
namespace Internal
section
variable {G:GC} {A:Around} {s:Shared}
noncomputable def i2dSc:List (Str × NameKind):=[("x", .local),("L", .local),("R", .local),("mid", .local),("shift", .local),("upper", .local),("lower", .local),("a_digits", .free),("inner", .free),("n", .free)]
noncomputable abbrev eMid:E:=.bin .RShift (.bin .Add (.var 4) (.var 5)) (.lit (.int 1))
noncomputable abbrev yjh:E:=.bin .Mult (.bin .Sub (.var 6) (.var 4)) (.var 2)
noncomputable abbrev eUp:E:=.bin .RShift (.var 3) (.var 7)
noncomputable abbrev eLow:E:=.bin .BitXor (.var 3) (.bin .LShift (.var 8) (.var 7))
noncomputable abbrev eOne:E:=.cmp .Eq (.bin .Add (.var 4) (.lit (.int 1))) (.var 5)
noncomputable def yck (s:Stmt) (k:Str→Expr→Bool):Bool:=zqu s fun t v=>zcl t fun m _=>k m v
@[elab_as_elim] theorem onAsgN_elim {s:Stmt} {k:Str→Expr→Bool} {P:Stmt→Prop} (h:yck s k=true) (q:∀ m np v p,k m v=true→P (.Assign [.Name m np] v p)):P s:=by
 refine onAsg_elim h fun t v p h=>?_
 exact onName_elim h fun m np h=>q m np v p h
noncomputable def ztc (s:Stmt) (k:Str→List Expr→Bool):Bool:=zte s fun z _=>zcy z k
@[elab_as_elim] theorem onCallS_elim {s:Stmt} {k:Str→List Expr→Bool} {P:Stmt→Prop} (h:ztc s k=true) (q:∀ f np a cp ep,k f a=true→P (.Expr (.Call (.Name f np) a [] cp) ep)):P s:=by
 refine onSExpr_elim h fun z ep h=>?_
 exact onCallN_elim h fun f np a cp h=>q f np a cp ep h
noncomputable def yhp (s:Stmt) (k:Expr→List Stmt→Bool):Bool:=ymx s fun t b e _=>zcz e (k t b)
@[elab_as_elim] theorem onIfR_elim {s:Stmt} {k:Expr→List Stmt→Bool} {P:Stmt→Prop} (h:yhp s k=true) (q:∀ t b p,k t b=true→P (.If t b [] p)):P s:=by
 refine onSIf_elim h fun t b e p h=>?_
 exact onNil_elim h fun h=>q t b p h
noncomputable def yqf (s:Stmt) (k:Str→Expr→Expr→Bool):Bool:=zqu s fun z v=>zdn z fun z i _=>zcl z fun y _=>k y i v
@[elab_as_elim] theorem onSub_elim {s:Stmt} {k:Str→Expr→Expr→Bool} {P:Stmt→Prop} (h:yqf s k=true) (q:∀ y np i sp v p,k y i v=true→P (.Assign [.Subscript (.Name y np) i sp] v p)):P s:=by
 refine onAsg_elim h fun z v p h=>?_
 refine onSubscript_elim h fun z i sp h=>?_
 exact onName_elim h fun y np h=>q y np i sp v p h
noncomputable def zqx (s:Stmt) (k:Expr→Bool):Bool:=zgp s fun z _=>zna z k
@[elab_as_elim] theorem onRetE_elim {s:Stmt} {k:Expr→Bool} {P:Stmt→Prop} (h:zqx s k=true) (q:∀ e p,k e=true→P (.Return (some e) p)):P s:=by
 refine onSReturn_elim h fun z p h=>?_
 exact onSome_elim h fun e h=>q e p h
noncomputable def yke (s:Stmt) (k:Bool):Bool:=zgp s fun z _=>zij z k
@[elab_as_elim] theorem onRet0_elim {s:Stmt} {k:Bool} {P:Stmt→Prop} (h:yke s k=true) (q:∀ p,k=true→P (.Return none p)):P s:=by
 refine onSReturn_elim h fun z p h=>?_
 exact onNone_elim h fun h=>q p h
noncomputable def yho (x:Expr) (o:Operator) (k:Expr→Expr→Bool):Bool:=ztb x fun l o' r _=>onEq o' o (k l r)
@[elab_as_elim] theorem onBop_elim {x:Expr} {o:Operator} {k:Expr→Expr→Bool} {P:Expr→Prop} (h:yho x o k=true) (q:∀ l r p,k l r=true→P (.BinOp l o r p)):P x:=by
 refine onBinOp_elim h fun l o' r p h=>?_
 exact onEq_elim h fun h=>q l r p h
noncomputable def ymw (s:Stmt) (k:Str→Arguments→List Stmt→Scope→Str→Pos→Bool):Bool:=zew s fun n ps ib z1 z2 z3 sc z4 bnd p=>zcz z1 <| zij z2 <| zcz z3 <| zij z4 (k n ps ib sc bnd p)
@[elab_as_elim] theorem onDef_elim {s:Stmt} {k:Str→Arguments→List Stmt→Scope→Str→Pos→Bool} {P:Stmt→Prop} (h:ymw s k=true) (q:∀ n ps ib sc bnd p,k n ps ib sc bnd p=true→P (.FunctionDef n ps ib [] none [] sc none bnd p)):P s:=by
 refine onSFunctionDef_elim h fun n ps ib z1 z2 z3 sc z4 bnd p h=>?_
 refine onNil_elim h fun h=>?_
 refine onNone_elim h fun h=>?_
 refine onNil_elim h fun h=>?_
 exact onNone_elim h fun h=>q n ps ib sc bnd p h
noncomputable def lsS (c:Cx) (i:Nat) (e:E) (s:Stmt):Bool:=yck s fun m v=>c.nm[i]?==some m&&c.sc.lookup m==some .local&&!zki v&&chkE c e v
noncomputable def inS (c:Cx) (es:Es) (s:Stmt):Bool:=ztc s fun f a=>f==("inner" : Str)&&zfl c es a
noncomputable def oneS (c:Cx) (t:Expr) (y1:Str) (i1 v1:Expr):Bool:=chkE c eOne t&&y1==("a_digits" : Str)&&chkE c (.var 4) i1&&chkE c (.var 3) v1&&!zki v1
noncomputable def yqg (c:Cx) (s2 s3 s4 s5 s6 s7:Stmt):Bool:=lsS c 6 eMid s2&&lsS c 7 yjh s3&&lsS c 8 eUp s4&&lsS c 9 eLow s5&&inS c (.cons (.var 9) (.cons (.var 4) (.cons (.var 6) .nil))) s6&&inS c (.cons (.var 8) (.cons (.var 6) (.cons (.var 5) .nil))) s7
inductive I2dB (c:Cx):List Stmt→Prop
 | mk {t:Expr} {y1:Str} {q1:Pos} {i1:Expr} {q2:Pos} {v1:Expr} {q3:Pos} {q4:Pos} {q5:Pos} {s2 s3 s4 s5 s6 s7:Stmt} (h1:oneS c t y1 i1 v1=true) (h2:yqg c s2 s3 s4 s5 s6 s7=true):I2dB c [.If t [.Assign [.Subscript (.Name y1 q1) i1 q2] v1 q3, .Return none q4] [] q5,s2,s3,s4,s5,s6,s7]
noncomputable def zok (c:Cx) (b:List Stmt):Bool :=
 zcd b fun s1 r=>zcd r fun s2 r=>zcd r fun s3 r=>zcd r fun s4 r=>zcd r fun s5 r=>zcd r fun s6 r=>onL1 r fun s7=>yqg c s2 s3 s4 s5 s6 s7&&yhp s1 fun t b=>zcd b fun a r=>onL1 r fun r=>yke r <| yqf a fun y1 i1 v1=>oneS c t y1 i1 v1
theorem zss {c:Cx} {b:List Stmt} (h:zok c b=true):I2dB c b:=by
 refine onCons_elim h fun s1 r h=>onCons_elim h fun s2 r h=>onCons_elim h fun s3 r h=>onCons_elim h fun s4 r h=>onCons_elim h fun s5 r h=>onCons_elim h fun s6 r h=>onL1_elim h fun s7 h=>?_
 refine onIfR_elim (zae h).2 fun t b p k=>onCons_elim k fun a r k=>onL1_elim k fun r k=>onRet0_elim k fun p2 k=>onSub_elim k fun y np i sp v p3 k=>.mk k (zae h).1
theorem zxp {S:Sig} {c:Cx} {env:Env} {O:List Addr} {ρ:Rho} {i:Nat} {e:E} {st:Stmt} {d:D} {Q:Flow→Shared→Prop} {E:Value→Shared→Prop} (X:CxOK G A S c env noOwn) (I:Inv G A env noOwn O ρ s)
  (h:lsS c i e st=true) (he:ev S ρ e=some d) (q:∀ s',SExt G [env.locals] s s'→Inv G A env noOwn O (ρ.set i d) s'→Q .next s'):wpAny (mdl G) A (exec st env) Q E s:=by
 refine onAsgN_elim h fun m np v p h=>zkk h fun h1 h2 h3 h4=>?_
 exact ypx X I (X.nm▸bqp h1) (by show env.scope.names.lookup m=_;rw [X.sc];exact bqp h2) (zys (zjb h3) _ _ _) h4 he q
theorem yps {S:Sig} {c:Cx} {env:Env} {O:List Addr} {ρ:Rho} {f ci:Addr} {es:Es} {ds:List D} {st:Stmt} {Q:Flow→Shared→Prop} {E:Value→Shared→Prop} (X:CxOK G A S c env noOwn) (I:Inv G A env noOwn O ρ s)
  (h:inS c es st=true) (hk:env.kindOf "inner" = some .free∨env.kindOf "inner" = some .cell) (hc:env.cells.lookup ("inner" : Str)=some ci) (hq:s.heap.IsCell ci (some (.ref f)))
  (hf:∃ o fd,s.heap.get? f=some o∧o.data=.func fd) (he:evs S ρ es=some ds)
  (k:∀ s1 vs,Ext G s s1→VReps G.w O s1.heap vs ds→wpAny (mdl G) A (call (.ref f) vs) (fun v s'=>match v with | .ref _=>False | _=>Q .next s') E s1):wpAny (mdl G) A (exec st env) Q E s:=by
 refine onCallS_elim h fun y np a cp ep h=>zrv h fun h1 h2=>?_
 obtain rfl:=bqp h1
 exact wpAny_Expr (zih I hk hc hq rfl rfl hf (EsSnd.ns (zbe es) X h2) ((zbe es X h2).el _ he) k) (zii X.fn) (zcw rfl _ _ _)
theorem zlz {A B C:Str} {x y z:Addr} {k:Str} {v:Addr} {P:Str→Addr→Prop} (h:([(A,x),(B,y),(C,z)]:List (Str × Addr)).lookup k=some v) (a:P A x) (b:P B y) (c:P C z):P k v:=by
 rcases mcp (mem_of_lookup h) with e | m
 ·cases e;exact a
 ·rcases mcp m with e | m
  ·cases e;exact b
  ·cases msp m;exact c
theorem yed {A B C:Str} {x y z:Addr} (n1:z≠y) (n2:y≠x) (n3:z≠x) {k k':Str} {v:Addr} (h:([(A,x),(B,y),(C,z)]:List (Str × Addr)).lookup k=some v) (h':([(A,x),(B,y),(C,z)]:List (Str × Addr)).lookup k'=some v):k=k' :=
 zlz (P:=fun k v=>∀ k',([(A,x),(B,y),(C,z)]:List (Str × Addr)).lookup k'=some v→k=k') h
  (fun k' h'=>zlz (P:=fun k' v=>v=x→A=k') h' (fun _=>rfl) (fun e=>absurd e n2) (fun e=>absurd e n3) rfl)
  (fun k' h'=>zlz (P:=fun k' v=>v=y→B=k') h' (fun e=>absurd e.symm n2) (fun _=>rfl) (fun e=>absurd e n1) rfl)
  (fun k' h'=>zlz (P:=fun k' v=>v=z→C=k') h' (fun e=>absurd e.symm n3) (fun e=>absurd e.symm n1) (fun _=>rfl) rfl) k' h'
@[elab_as_elim] theorem rho4_el {a b c d:Nat} {x y z w:D} {n:Nat} {v:D} {P:Nat→D→Prop} (h:Rho.get [(a,x),(b,y),(c,z),(d,w)] n=some v) (pa:P a x) (pb:P b y) (pc:P c z) (pd:P d w):P n v:=by
 rw [Rho.get_cons] at h
 split at h
 ·rename_i e;subst e;exact soi h▸pa
 ·rw [Rho.get_cons] at h
  split at h
  ·rename_i e;subst e;exact soi h▸pb
  ·rw [Rho.get_cons] at h
   split at h
   ·rename_i e;subst e;exact soi h▸pc
   ·rw [Rho.get_cons] at h
    split at h
    ·rename_i e;subst e;exact soi h▸pd
    ·exact nn h
theorem yir {A B C y:Str} {P:Str→Prop} (h:[A,B,C].contains y=true) (a:P A) (b:P B) (c:P C):P y:=by
 rcases mcp (List.contains_iff_mem.mp h) with e | m
 ·exact e▸a
 ·rcases mcp m with e | m
  ·exact e▸b
  ·exact msp m▸c
theorem yau {sc:List (Str × NameKind)} {A B C y:Str} {P:Str→Prop} (hs:sc.all (fun p=>p.2 != .free || [A,B,C].contains p.1)=true) (h:sc.lookup y=some .free) (a:P A) (b:P B) (c:P C):P y :=
 yir (show [A,B,C].contains y=true from latp hs _ (mem_of_lookup h)) a b c
theorem zbx (nm:∀ (i:Nat) (x:Str),zlp[i]?=some x→G.names[i]?=some x) {n:Nat} {y z:Str} (h:G.names[n]?=some y) (hz:zlp[n]?=some z):y=z:=soi (h.symm.trans (nm n z hz))
theorem zef {h:Heap} {c:Addr} {v:Option Value} (x:h.IsCell c v):∃ o,h.get? c=some o∧zhj o:=by
 obtain ⟨o,e,d⟩:=x
 exact ⟨o,e, .inr fun vs q=>by rw [d] at q;cases q⟩
structure IClo (G:GC) (h:Heap) (f D ca ci cn:Addr) (nb:Nat) (fd:FuncData) (body:List Stmt):Prop where
 N:NFun G h f fd body [("n",cn),("inner",ci),("a_digits",ca)]
 a:h.IsCell ca (some (.ref D))
 i:h.IsCell ci (some (.ref f))
 n:∃ t,h.IsCell cn (some (.int (nb:Int) t))
noncomputable def Soft (o:Obj):Prop:=(∀ fd,o.data≠.func fd)∧(∀ vs,o.data≠.fields vs)∧∀ v,o.data≠.cell v
theorem zko {h h':Heap} {W:List Addr} {c:Addr} {v:Option Value} (x:h.IsCell c v) (k:KeepBut W h h') (hW:∀ a∈W,∀ o,h.get? a=some o→Soft o):h'.IsCell c v :=
 let ⟨o,e,d⟩:=x;⟨o,k _ _ (fun m=>(hW _ m _ e).2.2 _ d) e (.inr fun vs q=>by rw [d] at q;cases q),d⟩
theorem IClo.but {h h':Heap} {f D ca ci cn:Addr} {nb:Nat} {fd:FuncData} {body:List Stmt} {W:List Addr} (x:IClo G h f D ca ci cn nb fd body) (k:KeepBut W h h') (hW:∀ a∈W,∀ o,h.get? a=some o→Soft o):IClo G h' f D ca ci cn nb fd body :=
 ⟨x.N.keepBut k fun a m o e=>⟨(hW a m o e).1,(hW a m o e).2.1⟩,zko x.a k hW,zko x.i k hW,let ⟨t,y⟩:=x.n;⟨t,zko y k hW⟩⟩
theorem IClo.keep {h h':Heap} {f D ca ci cn:Addr} {nb:Nat} {fd:FuncData} {body:List Stmt} (x:IClo G h f D ca ci cn nb fd body) (k:Keep h h'):IClo G h' f D ca ci cn nb fd body :=
 x.but (W:=[]) (fun b o _ e c=>k b o e c) fun _ m=>by cases m
theorem ydn {h:Heap} {a:Addr} {m:Str→Option Value} (x:h.Ns a m):∀ b∈[a],∀ o,h.get? b=some o→Soft o:=fun b mb o e=>by
 rcases msp mb with rfl
 obtain ⟨o',es,ep,e',d,_⟩:=x
 rw [e'] at e;obtain rfl:=soi e
 exact ⟨fun _ q=>(by rw [d] at q;cases q),fun _ q=>(by rw [d] at q;cases q),fun _ q=>(by rw [d] at q;cases q)⟩
theorem zri {h:Heap} {a:Addr} {vs:Array Value} (x:h.PlainList a vs):∀ b∈[a],∀ o,h.get? b=some o→Soft o:=fun b mb o e=>by
 rcases msp mb with rfl
 obtain ⟨n,e'⟩:=x
 rw [e'] at e
 have e:=soi e
 have hd:o.data=.seq vs n:=by rw [← e]
 exact ⟨fun _ q=>(by rw [hd] at q;cases q),fun _ q=>(by rw [hd] at q;cases q),fun _ q=>(by rw [hd] at q;cases q)⟩
theorem zyk {xs:List Nat} {L m R:Nat} {a b:List Nat} (h1:L≤m) (h2:m≤R) (h3:R≤xs.length) (ha:a.length=m-L) :
  (xs.take L++a++xs.drop m).take m++b++(xs.take L++a++xs.drop m).drop R=xs.take L++(a++b)++xs.drop R:=by
 have e:(xs.take L++a).length=m:=by rw [List.length_append,List.length_take,ha];omega
 rw [List.take_left' e,List.drop_append,e,List.drop_of_length_le (by omega),List.nil_append,List.drop_drop]
 have:m+(R-m)=R:=by omega
 rw [this]
 simp [List.append_assoc]
end
end Internal
namespace Internal
section
variable {G:GC} {A:Around} {s:Shared}
theorem IV.three {vals:List Value} {x L R:Nat} (h:IV vals [x,L,R]):∃ t1 t2 t3,vals=[.int x t1, .int L t2, .int R t3]:=by
 obtain ⟨t1,h1⟩:=h.2 0 x rfl
 obtain ⟨t2,h2⟩:=h.2 1 L rfl
 obtain ⟨t3,h3⟩:=h.2 2 R rfl
 refine ⟨t1,t2,t3,List.ext_getElem? fun i=>?_⟩
 match i with
 | 0=>exact h1
 | 1=>exact h2
 | 2=>exact h3
 | n+3 =>
  rw [List.getElem?_eq_none (by rw [h.1];exact Nat.le_add_left 3 n)];rfl
theorem Inv.turn {env:Env} {O:List Addr} {ρ:Rho} {D:Addr} {vs vs':Array Value} {s':Shared} (I:Inv G A env noOwn O ρ s) (x:SExt G [D] s s') (l:s.heap.PlainList D vs) (l':s'.heap.PlainList D vs') (hD:D∈O) (hc:∀ y c,env.cells.lookup y=some c→c≠D):Inv G A env noOwn O ρ s':=by
 obtain ⟨n,e⟩:=id l
 obtain ⟨n',e'⟩:=id l'
 have ne_loc:env.locals∉[D]:=fun m=>by
  obtain ⟨mm,⟨o,es,ep,e2,e3,_⟩,_⟩:=I.envr.ns
  rw [msp m,e] at e2;obtain rfl:=soi e2;cases e3
 have ne_cell:∀ y c,env.cells.lookup y=some c→c∉[D]:=fun y c h m=>hc y c h (msp m)
 exact ⟨I.ok,I.hh,x.base,x.pos,I.ov.but x.keep fun a m=>by rcases msp m with rfl;exact ⟨_,e', .inl (by show Value.type _≠_;nofun)⟩,
  I.envr.but x.keep (fun a m o h=>by
   rcases msp m with rfl
   rw [e] at h
   have h:=soi h
   subst h
   exact ⟨zft rfl rfl,fun _=>hD⟩) ne_loc ne_cell fun n a vs h=>by exact nn h⟩
theorem zdb {h:Heap} {c D:Addr} {v:Option Value} {vs:Array Value} (x:h.IsCell c v) (l:h.PlainList D vs):c≠D:=fun q=>by
 obtain ⟨o,e,d⟩:=x
 obtain ⟨n,e'⟩:=l
 rw [q,e'] at e
 have e:=soi e
 rw [← e] at d;cases d
theorem SExt.of_list {D:Addr} {vs vs':Array Value} {h':Heap} (B:Base G s.heap) (p:0<s.toks) (hD:G.h₀.get? D=none) (l:s.heap.PlainList D vs) (l':h'.PlainList D vs') (hs:Heap.SameBut D s.heap h'):SExt G [D] s { s with heap:=h' }:=by
 obtain ⟨n,e⟩:=id l
 refine ⟨⟨_,_,rfl⟩,zdm (zat hs),B.but (zat hs) (fun a m=>by rcases msp m with rfl;exact hD) (fun a m o q=>?_),p,fun b m e'=>zby (fun o q=>zat hs b o m q) e'⟩
 rcases msp m with rfl
 rw [e] at q
 have q:=soi q
 subst q
 exact zft rfl rfl
noncomputable def iRho (x L R nb:Nat):Rho:=[(3,nint x),(4,nint L),(5,nint R),(2,nint nb)]
noncomputable def I2D (G:GC) (f D ca ci cn:Addr) (nb:Nat) (fd:FuncData) (body:List Stmt) (k:Nat):Prop :=
 ∀ {A:Around} {s:Shared} {xs:List Nat} {x L R:Nat} {vals:List Value} {vs:Array Value},A.handled=none→A.depth+k<recursionLimit→A.units+3*(k+1)+100<cLine→Base G s.heap→0<s.toks →
   IClo G s.heap f D ca ci cn nb fd body→s.heap.PlainList D vs→IV vs.toList xs→IV vals [x,L,R]→L<R→R≤xs.length→R-L≤2^k→nb*xs.length≤2^26→x<2^(nb*(R-L)) →
   ∀ (Q:Value→Shared→Prop) (E:Value→Shared→Prop),(∀ s' vs',SExt G [D] s s'→s'.heap.PlainList D vs'→IV vs'.toList (xs.take L++digs nb x (R-L)++xs.drop R)→Q .none s')→wpAny (mdl G) A (call (.ref f) vals) Q E s
theorem zwc {L m R:Nat} (h1:L≤m) (h2:m≤R):m-L+(R-m)=R-L:=(Nat.add_comm _ _).trans (Nat.sub_add_sub_cancel h2 h1)
theorem ysr {L R m:Nat} (h:L<R) (h1:¬ L+1=R) (b:L+R<2*m+2):L<m:=by omega
theorem yss {L R m:Nat} (h:L<R) (a:2*m≤L+R):m<R:=by omega
theorem yst {L R p m:Nat} (hk:R≤2*p+L) (a:2*m≤L+R):m≤p+L:=by omega
theorem ysu {L R p m:Nat} (hk:R≤2*p+L) (b:L+R<2*m+2):R≤p+m:=by omega
theorem yjy {L R p m:Nat} (h:L<R) (h1:¬ L+1=R) (hk:R-L≤2*p) (hm:m=(L+R) / 2):L<m∧m<R∧m-L≤p∧R-m≤p:=by
 have a:2*m≤L+R:=hm▸Nat.mul_div_le _ _
 have b:L+R<2*m+2:=hm▸Nat.lt_mul_div_succ (L+R) (by decide)
 clear hm
 have c:=Nat.le_add_of_sub_le hk
 exact ⟨ysr h h1 b,yss h a,Nat.sub_le_of_le_add (yst c a),Nat.sub_le_of_le_add (ysu c b)⟩
theorem zvf (ok:GOK G) (nm:∀ (i:Nat) (x:Str),zlp[i]?=some x→G.names[i]?=some x) {f D ca ci cn:Addr} {nb:Nat} {fd:FuncData} {body:List Stmt}
  (hb:zok ⟨G.names,i2dSc,[]⟩ body=true) (hsc:fd.scope.names=i2dSc) (hbind:∀ a b c,bindArgs fd ⟨[a,b,c],[]⟩=pure [(("x" : Str),a),(("L" : Str),b),(("R" : Str),c)])
  (h0:G.h₀.get? ca=none∧G.h₀.get? ci=none∧G.h₀.get? cn=none∧G.h₀.get? D=none) (hne:ca≠ci∧ci≠cn∧ca≠cn) (hnb:0<nb) {k:Nat} (ih:∀ j,k=j+1→I2D G f D ca ci cn nb fd body j):I2D G f D ca ci cn nb fd body k:=by
 intro A s xs x L R vals vs hh hr hu B p C l iv ivv hLR hR hk hsz hx Q E q
 obtain ⟨t1,t2,t3,rfl⟩:=ivv.three
 obtain ⟨hca,hci,hcn,hD⟩:=h0
 obtain ⟨tn,Cn⟩:=C.n
 have neD':∀ y c,([("n",cn),("inner",ci),("a_digits",ca)]:List (Str × Addr)).lookup y=some c→c≠D:=fun y c h=>zlz (P:=fun _ c=>c≠D) h (zdb Cn l) (zdb C.i l) (zdb C.a l)
 refine zqp (O:=[ca,ci,cn,D]) (xs:=["x", "L", "R"]) (ρ:=iRho x L R nb) ok hh (by omega) B p (fun a m=>?_) C.N (hbind _ _ _) (fun y hy=>?_) (fun y hy=>?_) (fun y c h=>?_) (fun y z c h h'=>?_) (fun y hy=>?_) (fun n y d h1 h2 h3=>?_) (fun n y d h1 h2 h3=>?_) fun env s1 e1 e2 e3 X1 I1 E'=>?_
 ·rcases mcp m with rfl | m
  ·exact zef C.a
  ·rcases mcp m with rfl | m
   ·exact zef C.i
   ·rcases mcp m with rfl | m
    ·exact zef Cn
    ·obtain rfl:=msp m
     obtain ⟨n,e⟩:=l
     exact ⟨_,e, .inl (by show Value.type _≠_;nofun)⟩
 ·rw [hsc]
  exact bqp (latp (show (["x", "L", "R"]:List Str).all (fun y=>i2dSc.lookup y==some .local)=true from rfl) y hy)
 ·rw [hsc] at hy
  exact latp (show i2dSc.all (fun p=>decide (p.2≠.cell))=true from rfl) y hy |> of_decide_eq_true
 ·exact zlz (P:=fun _ c=>c∈([ca,ci,cn,D]:List Addr)∧G.h₀.get? c=none) h ⟨.tail _ (.tail _ (.head _)),hcn⟩ ⟨.tail _ (.head _),hci⟩ ⟨.head _,hca⟩
 ·exact yed hne.1 hne.2.1 hne.2.2 h h'
 ·rw [hsc] at hy
  exact yau (P:=fun y=>∃ c v,([("n",cn),("inner",ci),("a_digits",ca)]:List (Str × Addr)).lookup y=some c∧s.heap.IsCell c v) (A:="a_digits") (B:="inner") (C:="n") rfl hy ⟨_,_,rfl,C.a⟩ ⟨_,_,rfl,C.i⟩ ⟨_,_,rfl,Cn⟩
 ·revert h1 h2
  refine rho4_el h3 ?_ ?_ ?_ ?_
  ·intro h1 _
   obtain rfl:=zbx nm h1 rfl
   exact ⟨_,rfl, .int⟩
  ·intro h1 _
   obtain rfl:=zbx nm h1 rfl
   exact ⟨_,rfl, .int⟩
  ·intro h1 _
   obtain rfl:=zbx nm h1 rfl
   exact ⟨_,rfl, .int⟩
  ·intro h1 h2
   obtain rfl:=zbx nm h1 rfl
   rw [hsc] at h2
   exact absurd h2 (by decide)
 ·revert h1 h2
  refine rho4_el h3 ?_ ?_ ?_ ?_
  ·intro h1 h2
   obtain rfl:=zbx nm h1 rfl
   rw [hsc] at h2
   exact absurd h2 (by decide)
  ·intro h1 h2
   obtain rfl:=zbx nm h1 rfl
   rw [hsc] at h2
   exact absurd h2 (by decide)
  ·intro h1 h2
   obtain rfl:=zbx nm h1 rfl
   rw [hsc] at h2
   exact absurd h2 (by decide)
  ·intro h1 _
   obtain rfl:=zbx nm h1 rfl
   exact ⟨cn,_,rfl,Cn, .int⟩
 ·have hI:=zss hb
  clear hb
  cases hI
  rename_i hb hr
  ·refine zyz hb fun b1 b2 b3 b4 b5=>zmc hr fun b6 b7 b8 b9 b11 b13=>?_
   have b2:=bqp b2
   have b5:=zjb b5
   have X:CxOK G (A.deeper env) S0 ⟨G.names,i2dSc,[]⟩ env noOwn:=⟨rfl,by rw [e1,hsc],fun n=>by simp,by rw [e1];exact C.N.kind,fun0,ygp,hh,by show A.units+3+100<cLine;omega⟩
   have kd:∀ y,env.kindOf y=i2dSc.lookup y:=fun y=>by show env.scope.names.lookup y=_;rw [e1,hsc]
   have hfn:=X.fn
   have hw:(2:Nat)^26<2^64:=by decide
   have hm1:nb*(R-L)≤nb*xs.length:=Nat.mul_le_mul_left _ (Nat.le_trans (Nat.sub_le _ _) hR)
   have hm2:R≤nb*xs.length:=Nat.le_trans hR (Nat.le_mul_of_pos_left _ hnb)
   have h26:(2:Nat)^26=67108864:=by decide
   have ne_loc:env.locals∉[D]:=fun m=>by
    obtain ⟨n,e⟩:=l
    rw [msp m] at e3
    rw [e3] at e;exact nn e
   have ldD:∀ {s2:Shared} {Q:Value→Shared→Prop} {E:Value→Shared→Prop} {np:Pos},s2.heap.IsCell ca (some (.ref D))→Q (.ref D) s2→wpAny (mdl G) (A.deeper env) (eval (.Name "a_digits" np) env) Q E s2:=fun h q =>
    wpAny_Name (wpAny_loadName_free hfn ((kd _).trans rfl) (by rw [e2];rfl) h q) rfl
   rw [arm_execs_cons]
   refine wpAny_bind (wpAny_If ((zap eOne X b1).2 (decide (L+1=R)) ?_ s1 I1 _ _ fun s2 x2=>?_))
   ·exact bi (bi (zaf (x:=nint L) (y:=nint 1) (z:=nint (L+1)) rfl rfl (zdp L 1)) (bi (zaa (show (iRho x L R nb).get 5=some (nint R) from rfl)) (zum _ _))) rfl
   have I2:=I1.ext x2
   have C2:=(C.keep X1.keep).keep x2.keep
   have l2:s2.heap.PlainList D vs:=zbd (zbd l X1.keep) x2.keep
   by_cases hone:L+1=R
   ·rw [decide_eq_true hone]
    simp only [if_true]
    subst b2
    rw [arm_execs_cons]
    refine wpAny_bind (wpAny_Assign_Subscript ((zap (.var 3) X b4).1 (nint x) rfl s2 I2 _ _ fun v s3 x3 r3=>?_) (zcw b5 _ _ _))
    obtain ⟨tv,rfl⟩:=r3.int_inv
    have I3:=I2.ext x3
    refine ldD (zeg C2.a x3.keep) ((zap (.var 4) X b3).1 (nint L) rfl s3 I3 _ _ fun iv' s4 x4 r4=>?_)
    obtain ⟨ti,rfl⟩:=r4.int_inv
    have I4:=I3.ext x4
    have l4:s4.heap.PlainList D vs:=zbd (zbd l2 x3.keep) x4.keep
    have hvl:vs.size=xs.length:=by have:=iv.1;simpa using this
    refine ydg l4 (by omega) (by omega) (by rw [hvl];omega) fun h' l5 hs=>?_
    have x5:=SExt.of_list I4.base I4.pos hD l4 l5 hs
    rw [arm_execs_cons]
    refine wpAny_bind (wpAny_Return_none (wpAny_pure (wpAny_pure ?_)))
    refine q _ _ ((((X1.sext.trans x2.sext).trans x3.sext).trans x4.sext).trans x5) l5 ?_
    rw [Array.toList_setIfInBounds,Int.toNat_natCast]
    have hx':x<2^nb:=by rw [← hone] at hx;simpa using hx
    have e:xs.take L++digs nb x (R-L)++xs.drop R=xs.set L x:=by
     rw [← hone,Nat.add_sub_cancel_left,zud _ _ hx',List.set_eq_take_append_cons_drop,if_pos (Nat.lt_of_lt_of_le hLR hR)]
     simp
    rw [e]
    exact iv.set L x tv
   ·rw [decide_eq_false hone]
    simp only [Bool.false_eq_true,if_false]
    refine wpAny_execs_nil ?_
    show wpAny _ _ (execs _ env) _ _ _
    obtain ⟨j,rfl⟩:∃ j,k=j+1:=by
     cases k with
     | zero=>simp at hk;omega
     | succ j=>exact ⟨j,rfl⟩
    have h2k:2^(j+1)=2*2^j:=by rw [Nat.pow_succ,Nat.mul_comm]
    generalize hmid:(L+R) / 2^1=mid
    have hmid':mid=(L+R) / 2:=by rw [← hmid]
    obtain ⟨g1,g2,g3,g4⟩:=yjy hLR hone (h2k▸hk) hmid'
    generalize hsh:(mid-L)*nb=sh
    have hsh':sh=nb*(mid-L):=by rw [← hsh,Nat.mul_comm]
    have hsz':sh+nb*(R-mid)=nb*(R-L):=by rw [hsh',← Nat.mul_add,zwc (Nat.le_of_lt g1) (Nat.le_of_lt g2)]
    have hup:x / 2^sh<2^(nb*(R-mid)):=by
     rw [Nat.div_lt_iff_lt_mul (Nat.two_pow_pos _),← Nat.pow_add,Nat.add_comm,hsz'];exact hx
    have hlo:x % 2^sh<2^(nb*(mid-L)):=by rw [← hsh'];exact Nat.mod_lt _ (Nat.two_pow_pos _)
    have hnb26:nb≤2^26:=Nat.le_trans (Nat.le_mul_of_pos_right _ (Nat.lt_of_lt_of_le (Nat.zero_lt_of_lt g2) hR)) hsz
    rw [arm_execs_cons]
    refine wpAny_bind (zxp X I2 b6 (zaf (zaf (zaa rfl) (zaa rfl) (zdp L R)) zai (zkx (L+R) 1)) fun s3 x3 I3=>?_)
    show wpAny _ _ (execs _ env) _ _ _
    rw [hmid] at I3
    rw [arm_execs_cons]
    refine wpAny_bind (zxp X I3 b7 (zaf (zaf (zaa rfl) (zaa rfl) (zde (Nat.le_of_lt g1))) (zaa rfl) (zge (Nat.lt_of_le_of_lt (Nat.le_trans (Nat.sub_le _ _) (Nat.le_trans (Nat.le_of_lt g2) (Nat.le_trans hm2 hsz))) hw) (Nat.lt_of_le_of_lt hnb26 hw))) fun s4 x4 I4=>?_)
    show wpAny _ _ (execs _ env) _ _ _
    rw [hsh] at I4
    rw [arm_execs_cons]
    refine wpAny_bind (zxp X I4 b8 (zaf (zaa rfl) (zaa rfl) (zkx x sh)) fun s5 x5 I5=>?_)
    show wpAny _ _ (execs _ env) _ _ _
    rw [arm_execs_cons]
    refine wpAny_bind (zxp X I5 b9 (zaf (zaa rfl) (zaf (zaa rfl) (zaa rfl) (zkw hup (Nat.le_trans (Nat.le_of_eq ((Nat.add_comm _ _).trans hsz')) (Nat.le_trans hm1 (Nat.le_trans hsz (by decide)))))) (zpv x sh)) fun s6 x6 I6=>?_)
    show wpAny _ _ (execs _ env) _ _ _
    have x26:SExt G [env.locals] s2 s6:=((x3.trans x4).trans x5).trans x6
    obtain ⟨m2,hns2,_⟩:=id I2.envr.ns
    have C6:=C2.but x26.keep (ydn hns2)
    have l6:s6.heap.PlainList D vs:=x26.keep.plain (fun m=>ne_loc (by rw [msp m];exact List.mem_singleton.mpr rfl)) l2
    have hcell:∀ y c,env.cells.lookup y=some c→c≠D:=fun y c h=>neD' y c (by rw [← e2];exact h)
    have atf:∀ {h:Heap} {body':List Stmt},IClo G h f D ca ci cn nb fd body'→∃ o fd',h.get? f=some o∧o.data=.func fd':=fun C=>let ⟨o,e,d⟩:=C.N.at';⟨o,_,e,d⟩
    rw [arm_execs_cons]
    refine wpAny_bind (yps X I6 b11 (.inl ((kd _).trans rfl)) (by rw [e2];rfl) C6.i (atf C6) (ds:=[nint (x % 2^sh),nint L,nint mid]) rfl fun s7 vs7 x7 r7=>?_)
    have C7:=C6.keep x7.keep
    have l7:=zbd l6 x7.keep
    have I7:=I6.ext x7
    refine ih j rfl (A:=A.deeper env) hh (by show A.depth+1+j<_;omega) (by show A.units+3+3*(j+1)+100<_;omega) x7.base x7.pos C7 l7 iv (IV.of (ns:=[x % 2^sh,L,mid]) r7) g1 (Nat.le_trans (Nat.le_of_lt g2) hR) g3 hsz hlo _ _ fun s8 vs8 x8 l8 iv8=>?_
    have C8:=C7.but x8.keep (zri l7)
    have I8:=I7.turn x8 l7 l8 (by simp) hcell
    show wpAny _ _ (execs _ env) _ _ _
    rw [arm_execs_cons]
    refine wpAny_bind (yps X I8 b13 (.inl ((kd _).trans rfl)) (by rw [e2];rfl) C8.i (atf C8) (ds:=[nint (x / 2^sh),nint mid,nint R]) rfl fun s9 vs9 x9 r9=>?_)
    have C9:=C8.keep x9.keep
    have l9:=zbd l8 x9.keep
    have hlen:(xs.take L++digs nb (x % 2^sh) (mid-L)++xs.drop mid).length=xs.length:=by
     rw [List.length_append,List.length_append,List.length_take,List.length_drop,zeh,Nat.min_eq_left (Nat.le_trans (Nat.le_of_lt (Nat.lt_trans g1 g2)) hR),Nat.add_sub_cancel' (Nat.le_of_lt g1),Nat.add_sub_cancel' (Nat.le_trans (Nat.le_of_lt g2) hR)]
    refine ih j rfl (A:=A.deeper env) hh (by show A.depth+1+j<_;omega) (by show A.units+3+3*(j+1)+100<_;omega) x9.base x9.pos C9 l9 iv8 (IV.of (ns:=[x / 2^sh,mid,R]) r9) g2 (by rw [hlen];exact hR) g4 (by rw [hlen];exact hsz) hup _ _ fun s10 vs10 x10 l10 iv10=>?_
    show wpAny _ _ (execs _ env) _ _ _
    refine wpAny_execs_nil (q s10 vs10 ?_ l10 ?_)
    ·have sub1:∀ a∈[env.locals],a∈[env.locals,D]:=fun a m=>by rcases msp m with rfl;simp
     have sub2:∀ a∈[D],a∈[env.locals,D]:=fun a m=>by rcases msp m with rfl;simp
     exact SExt.drop ((((((X1.sext.trans x2.sext).trans (x26.mono sub1)).trans x7.sext).trans (x8.mono sub2)).trans x9.sext).trans (x10.mono sub2)) e3
    ·rw [zyk (Nat.le_of_lt g1) (Nat.le_of_lt g2) hR (zeh ..)] at iv10
     have e:digs nb (x % 2^sh) (mid-L)++digs nb (x / 2^sh) (R-mid)=digs nb x (R-L):=by
      rw [hsh',zmk,zwc (Nat.le_of_lt g1) (Nat.le_of_lt g2)]
     rw [e] at iv10
     exact iv10
end
end Internal
namespace Internal
section
variable {G:GC} {A:Around} {s:Shared} {O:List Addr}
theorem yba (ok:GOK G) (nm:∀ (i:Nat) (x:Str),zlp[i]?=some x→G.names[i]?=some x) {f D ca ci cn:Addr} {nb:Nat} {fd:FuncData} {body:List Stmt}
  (hb:zok ⟨G.names,i2dSc,[]⟩ body=true) (hsc:fd.scope.names=i2dSc) (hbind:∀ a b c,bindArgs fd ⟨[a,b,c],[]⟩=pure [(("x" : Str),a),(("L" : Str),b),(("R" : Str),c)])
  (h0:G.h₀.get? ca=none∧G.h₀.get? ci=none∧G.h₀.get? cn=none∧G.h₀.get? D=none) (hne:ca≠ci∧ci≠cn∧ca≠cn) (hnb:0<nb):∀ k,I2D G f D ca ci cn nb fd body k
 | 0=>zvf ok nm hb hsc hbind h0 hne hnb fun j e=>by cases e
 | k+1=>zvf ok nm hb hsc hbind h0 hne hnb fun j e=>by cases e;exact yba ok nm hb hsc hbind h0 hne hnb k
theorem zqo {a:Addr} {n:Int} {u:Tok} {vs:Array Value} {xs:List D} {Q E:Value→Shared→Prop} (la:s.heap.IsList a vs) (ra:VReps G.w O s.heap vs.toList xs)
  (h0:0≤n) (h1:n≤16777216) (hl:xs.length*n.toNat≤16777216)
  (q:∀ h' (ws:Array Value),(∀ b o,s.heap.get? b=some o→h'.get? b=some o)→h'.PlainList s.heap.objs.size ws→VReps G.w O h' ws.toList (List.replicate n.toNat xs).flatten→Q (.ref s.heap.objs.size) { s with heap:=h' }):wpAny (mdl G) A (binaryOp .Mult (.ref a) (.int n u)) Q E s:=by
 obtain ⟨⟨cls,d,data,sl⟩,ho,hcl,k,hd⟩:=id la
 simp only at hcl hd
 subst hcl hd
 have e63:(2:Int)^63=9223372036854775808:=by decide
 have e24:(2:Nat)^24=16777216:=by decide
 have e1:=ra.length
 simp only [Array.length_toList] at e1
 have hsz':vs.size*n.toNat≤2^24:=by rw [e1,e24];exact hl
 refine wpAny_binaryOp_repeat_ref (T:="list") (U:="int") (by decide) ⟨_,ho,rfl⟩ (fun s'=>typeIs_int s' n u) noFill_list_mul F.fills_int_mul F.slot_int_rmul repeat_list F.slot_int_index.lookup
  (call_meets F.slot_int_rmul (typeIs_int s n u) F.entry_int_rmul (F.args_int_rmul_2 _ _) (lm_int_rmul_list_any n u a vs k d sl)
   ⟨ho,rfl,⟨_,ho,rfl⟩,call_meets F.slot_list_mul ⟨_,ho,rfl⟩ F.entry_list_mul (F.args_list_mul_2 _ _)
    (lm_list_mul_any a vs k d sl n u (by simp [Builtin.List.listFitsIndex];omega) (by omega) (by simp [Builtin.List.listTooLong,sizeLine];omega))
    ⟨ho, ?_⟩⟩)
 have hk:∀ o b' o',s.heap.get? b'=some o'→(s.heap.push o).get? b'=some o':=fun o b' o' e=>Heap.get?_push_of_some _ e
 refine q _ _ (hk _) ⟨_,Heap.get?_push_size _ rfl⟩ ?_
 rw [listMul_foldl_if]
 simpa using (VReps.rep ra n.toNat).keep (.of (hk _))
end
end Internal
namespace Internal
section
variable {G:GC} {A:Around}
theorem zuv {f:Fn} {fd:FuncData} {body:List Stmt} {xs:List Str} {a:Addr} {Oc:List Addr} {s:Shared} {vs:List Value} {ds:List D} {Q:Value→Shared→Prop} {E:Value→Shared→Prop} (ok:GOK G) (hh:A.handled=none) (hr:A.depth<recursionLimit) (B:Base G s.heap) (p:0<s.toks) (ov:OVal Oc s.heap) (r:VReps G.w Oc s.heap vs ds)
  (Df:DefOK G a fd body xs) (hf0:zid G.names f fd xs=true) (hl:ds.length=f.params.length)
  (k:∀ s1 O M,FI G (A.deeper (callEnvC fd s.heap.objs.size a)) (callEnvC fd s.heap.objs.size a) ⟨f.own,fun _=>none⟩ O Oc M (zbl [] f.params ds) s1→(∀ b∈M,s.heap.get? b=none)→Ext G s s1 →
   ∀ E':Value→Shared→Prop,(∀ e s',wpAny (mdl G) (A.deeper (callEnvC fd s.heap.objs.size a)) (leaving (callEnvC fd s.heap.objs.size a) e) (fun _ s''=>E e s'') (fun e' s''=>E e' s'') s'→E' e s')→wpAny (mdl G) (A.deeper (callEnvC fd s.heap.objs.size a)) (execs body (callEnvC fd s.heap.objs.size a)) (fun fl s'=>Q (match fl with | .ret v=>v | _=>.none) s') E' s1):wpAny (mdl G) A (call (.ref a) vs) Q E s:=by
 have hf1:=hf0
 simp only [zid,Bool.and_eq_true,decide_eq_true_eq] at hf1
 obtain ⟨⟨⟨⟨⟨h2,h3⟩,h4⟩,h5⟩,h6⟩,h7⟩:=hf1
 have hpl:xs.length=f.params.length:=by have:=congrArg List.length h4;simpa using this.symm
 obtain ⟨o,ho,hdat⟩:=Df.at'
 have hvl:vs.length=xs.length:=by rw [r.length,hl,hpl]
 refine wpAny_call (codeAny_call_function hr (B.keep _ _ ho) hdat Df.co Df.gen Df.body (Df.code.keeps B.keep) ?_)
 rw [Df.bind vs hvl,Df.clo]
 refine wpAny_pure (wpAny_with_toks (Nat.le_refl s.toks) (wpAny_newFunctionEnv_cells Df.kind (fun y hy=>?_) fun env he s1 x tk=>?_))
 ·obtain ⟨y1,y2⟩:=y
  have hm:=(List.of_mem_zip hy).1
  have:=latp h7 y1 hm
  rcases Bool.or_eq_true_iff.mp this with e | e
  ·exact .inl (by simpa using e)
  ·have e:fd.scope.names.lookup y1=some .cell:=by simpa using e
   refine .inr ⟨e, ?_⟩
   obtain ⟨c,hc⟩:=zbr _ (s.heap.objs.size+1) _ (mem_of_lookup e)
   obtain ⟨c',e'⟩:=zbs hc
   exact Option.isSome_iff_exists.mpr ⟨c',e'⟩
 ·have he:env=callEnvC fd s.heap.objs.size a:=he
  subst he
  refine ⟨(ok.lim.keeps B.keep).keeps x.toInCall.keep,codeAny_func ?_⟩
  obtain ⟨O,M,FF,hM,X⟩:=zug (A:=A.deeper (callEnvC fd s.heap.objs.size a)) ok hh B (Nat.lt_of_lt_of_le p tk) ov r Df hf0 hl x
  exact k s1 O M FF hM X _ fun _ _ h=>h
theorem zns {env:Env} {O:List Addr} {ρ:Rho} {s:Shared} {n:Nat} {x:Str} {c:Addr} {v:Value} {Q:Unit→Shared→Prop} {E:Value→Shared→Prop} (I:Inv G A env noOwn O ρ s) (nm:G.names[n]?=some x) (hk:env.kindOf x=some .cell) (hc:env.cells.lookup x=some c) (hg:ρ.get n=none)
  (q:∀ h',h'.IsCell c (some v)→SExt G [c] s { s with heap:=h' }→Inv G A env noOwn O ρ { s with heap:=h' }→Q () { s with heap:=h' }):wpAny (mdl G) A (storeName env x v) Q E s:=by
 obtain ⟨c',v0,hc',hq⟩:=I.envr.ce x (.inl hk)
 rw [hc] at hc';obtain rfl:=soi hc'
 refine wpAny_storeName_cell I.envr.fn hk hc hq fun h' hn' hs'=>?_
 obtain ⟨oc,e1,e2⟩:=id hq
 have ht:zcc O [c] s.heap:=fun a ma o e=>by
  rcases msp ma with rfl
  rw [e1] at e;obtain rfl:=soi e
  exact ⟨zkf e2,fun _=>(I.envr.cin _ _ hc).1⟩
 have hkb:KeepBut [c] s.heap h':=zdm (zat hs')
 have B:Base G h':=I.base.but (zat hs') (fun a ma=>by rcases msp ma with rfl;exact (I.envr.cin _ _ hc).2) fun a ma o e=>(ht a ma o e).1
 have ov:OVal O h':=I.ov.but hkb fun a ma=>by
  rcases msp ma with rfl
  obtain ⟨o,e1,e2⟩:=hn'
  exact ⟨o,e1, .inr fun vs q=>by rw [e2] at q;cases q⟩
 obtain ⟨m,hm,hmv⟩:=I.envr.ns
 have loc_ne:env.locals∉[c]:=fun ma=>by
  rcases msp ma with e
  obtain ⟨o,es,ep,e3,e4,_⟩:=hm
  rw [e,e1] at e3;obtain rfl:=soi e3;rw [e2] at e4;cases e4
 refine q h' hn' ⟨⟨_,_,rfl⟩,hkb,B,I.pos,fun b mb e=>zby (fun o q=>zat hs' b o mb q) e⟩ ⟨I.ok,I.hh,B,I.pos,ov,⟨I.envr.fn,I.envr.gl,I.envr.bi,I.envr.lin,I.envr.lfr,I.envr.oin,I.envr.cin,I.envr.inj, ?_,⟨m,hkb.ns loc_ne hm, ?_⟩, ?_⟩⟩
 ·intro y hy
  obtain ⟨c',v',e,qc⟩:=I.envr.ce y hy
  by_cases hcc:c'=c
  ·subst hcc;exact ⟨_,_,e,hn'⟩
  ·exact ⟨c',v',e,hkb.cell (by simpa using hcc) qc⟩
 ·intro n' y d' h1 h2 h3
  obtain ⟨v',e,r'⟩:=hmv n' y d' h1 h2 h3
  rw [zex] at r'
  exact ⟨v',e,by rw [zex];exact VRep.but r' hkb ht⟩
 ·intro n' y d' h1 h2 h3
  obtain ⟨c',v',e,qc,r'⟩:=I.envr.cl n' y d' h1 h2 h3
  have hcc:c'∉[c]:=fun ma=>by
   rcases msp ma with rfl
   have:=I.envr.inj _ _ _ e hc
   subst this
   have:=zig I.ok.nd h1 nm
   subst this
   rw [hg] at h3;exact nn h3
  rw [zex] at r'
  exact ⟨c',v',e,hkb.cell hcc qc,by rw [zex];exact VRep.but r' hkb ht⟩
end
end Internal
namespace Internal
section
noncomputable def zdo (p:Arguments) (xs:List Str):Bool:=zcz p.posonlyargs <| zij p.vararg <| zcz p.kwonlyargs <| zcz p.kw_defaults <| zij p.kwarg <| zcz p.defaults <| (p.args.map (·.arg)==xs&&p.args.all (·.annotation.isNone))
theorem zuu {α β:Type} {f g:α→Option β}:∀ {l:List α},(∀ x∈l,f x=g x)→l.filterMap f=l.filterMap g
 | [],_=>rfl
 | x::l,h=>by
  rw [List.filterMap_cons,List.filterMap_cons,h x mch,zuu fun y m=>h y (mct _ m)]
theorem zyx {xs:List Str} {vals:List Value} (hn:xs.Nodup) (hl:vals.length=xs.length):(xs.filterMap fun n=>((xs.zip vals).lookup n).map fun v=>(n,v))=xs.zip vals:=by
 induction xs generalizing vals with
 | nil=>rfl
 | cons x xs ih =>
  cases vals with
  | nil=>cases hl
  | cons v vals =>
   obtain ⟨h1,h2⟩:=List.nodup_cons.mp hn
   have hl:vals.length=xs.length:=by simpa using hl
   have e:(xs.filterMap fun n=>(((x,v)::xs.zip vals).lookup n).map fun v=>(n,v))=xs.filterMap fun n=>((xs.zip vals).lookup n).map fun v=>(n,v) :=
    zuu fun n hn=>by
     have:(n==x)=false:=beq_eq_false_iff_ne.mpr fun q=>h1 (q▸hn)
     rw [List.lookup_cons,this]
   rw [List.zip_cons_cons,List.filterMap_cons,e,ih h2 hl]
   simp
theorem yiz {xs:List Str} {vals:List Value} (hl:vals.length=xs.length):∀ n∈xs,((xs.zip vals).lookup n).isNone=false:=by
 induction xs generalizing vals with
 | nil=>intro n h;cases h
 | cons x xs ih =>
  cases vals with
  | nil=>cases hl
  | cons v vals =>
   intro n h
   rw [List.zip_cons_cons,List.lookup_cons]
   cases hb:n==x with
   | true=>rfl
   | false =>
    rcases mcp h with rfl | h
    ·simp at hb
    ·exact ih (by simpa using hl) n h
theorem iteb {α:Type} {c:Bool} {X Z:α} (h:c=false):(if c=true then X else Z)=Z:=if_neg (by rw [h];exact Bool.false_ne_true)
theorem ysd {α β:Type} (l:List α) (n:Nat):l.zip (([]:List β).drop n)=[]:=by rw [List.drop_nil,List.zip_nil_right]
theorem yma {α β γ:Type} {l:List α} {i:β} {F:α→β→Sem (ForInStep β)} {k:β→Sem γ} {r:Sem γ} (hl:l=[]) (h:k i=r):(forIn l i F >>= k)=r:=by subst hl;exact h
theorem zlu {p:Arguments} {xs:List Str} (h:zdo p xs=true):∃ as,p=⟨[],as,none,[],[],none,[]⟩∧as.map (·.arg)=xs∧as.all (·.annotation.isNone)=true:=by
 obtain ⟨a,b,c,d,e,f,g⟩:=p
 have h:(zcz a <| zij c <| zcz d <| zcz e <| zij f <| zcz g <| (b.map (·.arg)==xs&&b.all (·.annotation.isNone)))=true:=h
 refine onNil_elim h fun h=>onNone_elim h fun h=>onNil_elim h fun h=>onNil_elim h fun h=>onNone_elim h fun h=>onNil_elim h fun h=>?_
 obtain ⟨h1,h2⟩:=bap h
 exact ⟨_,rfl,bqp h1,h2⟩
theorem zir {fd:FuncData} {xs:List Str} (hp:zdo fd.params xs=true) (hn:xs.Nodup) (hd:fd.defaults=.none) {vals:List Value} (hl:vals.length=xs.length):bindArgs fd ⟨vals,[]⟩=pure (xs.zip vals):=by
 obtain ⟨as,hpar,rfl,_⟩:=zlu hp
 have e:bindArgs fd ⟨vals,[]⟩=bindArgs { fd with params:=⟨[],as,none,[],[],none,[]⟩,defaults:=.none } ⟨vals,[]⟩:=by rw [← hpar,← hd]
 have key:∀ xs:List Str,xs.Nodup→vals.length=xs.length→(!((xs.take (xs.length-(([]:List Value).drop (([]:List Value).length-xs.length)).length)).filter fun n=>((xs.zip vals).lookup n).isNone).isEmpty)=false:=fun xs hn hl=>by
  rw [List.drop_nil,List.filter_eq_nil_iff.mpr fun n hn=>by rw [yiz hl n (List.mem_of_mem_take hn)];exact Bool.false_ne_true];rfl
 refine e.trans ((iteb ?_).trans ((iteb (key _ hn hl)).trans ?_))
 ·show (decide (vals.length > (as.map (·.arg)).length)&&true)=false
  rw [hl,decide_eq_false (Nat.lt_irrefl _)];rfl
 ·refine yma (α:=Str × Value) (ysd _ _) ?_
  have z:∀ xs:List Str,xs.Nodup→vals.length=xs.length→(pure ((xs++[]).filterMap fun n=>((xs.zip vals).lookup n).map fun v=>(n,v)):Sem (List (Str × Value)))=pure (xs.zip vals):=fun xs hn hl=>by rw [List.append_nil,zyx hn hl]
  exact z _ hn hl
end
section
variable {G:GC} {A:Around}
noncomputable abbrev ypa:E:=.bin .FloorDiv (.bin .Sub (.bin .Add (.mt .bitlen (.var 11) .nil) (.var 2)) (.lit (.int 1))) (.var 2)
noncomputable def yjr (c:Cx) (t:Tab) (y0:Str) (l0 r0:Expr) (nmI:Str) (params:Arguments) (ib:List Stmt) (sc:Scope) (bnd:Str) (ipos:Pos) (ts:Expr) (y1:Str) (a1:List Expr) (y2:Str):Bool:=(y0==("a_digits" : Str)&&chkE c (.list (.cons (.lit (.int 0)) .nil)) l0&&chkE c ypa r0&&nmI==("inner" : Str)&&bnd==("inner" : Str)&&zdo params ["x", "L", "R"])&&(decide (sc.names=i2dSc)&&decide (sc.kind=.function)&&!sc.isCoroutine&&!sc.isGenerator&&(docOf ib).isNone&&decide (ipos=t.pos))&&(zok ⟨c.nm,i2dSc,[]⟩ ib&&chkE c (.var 11) ts&&y1==("inner" : Str)&&zfl c (.cons (.var 11) (.cons (.lit (.int 0)) (.cons (.bf .len (.cons (.var 0) .nil)) .nil))) a1&&y2==("a_digits" : Str))
inductive I2dO (c:Cx) (t:Tab):List Stmt→Prop
 | mk {y0:Str} {np0:Pos} {l0:Expr} {r0:Expr} {bp:Pos} {ps1:Pos} {nmI:Str} {params:Arguments} {ib:List Stmt} {sc:Scope} {bnd:Str} {ipos:Pos} {ts:Expr} {y1:Str} {np1:Pos} {a1:List Expr} {cp1:Pos} {xp1:Pos} {ips:Pos} {y2:Str} {np2:Pos} {rp2:Pos} (h:yjr c t y0 l0 r0 nmI params ib sc bnd ipos ts y1 a1 y2=true):I2dO c t ([.Assign [.Name y0 np0] (.BinOp l0 .Mult r0 bp) ps1, .FunctionDef nmI params ib [] none [] sc none bnd ipos, .If ts [.Expr (.Call (.Name y1 np1) a1 [] cp1) xp1] [] ips, .Return (some (.Name y2 np2)) rp2])
noncomputable def zve (c:Cx) (t:Tab) (b:List Stmt):Bool :=
 zcd b fun s1 r=>zcd r fun s2 r=>zcd r fun s3 r=>onL1 r fun s4=>yck s1 fun y0 v=>yho v .Mult fun l0 r0=>ymw s2 fun nmI params ib sc bnd ipos=>yhp s3 fun ts b=>onL1 b fun s=>ztc s fun y1 a1=>zqx s4 fun e=>zcl e fun y2 _=>yjr c t y0 l0 r0 nmI params ib sc bnd ipos ts y1 a1 y2
theorem zxi {c:Cx} {t:Tab} {b:List Stmt} (h:zve c t b=true):I2dO c t b:=by
 refine onCons_elim h fun s1 r h=>onCons_elim h fun s2 r h=>onCons_elim h fun s3 r h=>onL1_elim h fun s4 h=>onAsgN_elim h fun y0 p0 v p1 h=>onBop_elim h fun l0 r0 p2 h=>onDef_elim h fun nmI params ib sc bnd ipos h=>onIfR_elim h fun ts b p3 h=>onL1_elim h fun s h=>onCallS_elim h fun y1 p4 a1 p5 p6 h=>onRetE_elim h fun e p7 h=>onName_elim h fun y2 p8 h=>.mk h
noncomputable def i2dNames:List (Str × NameKind):=[("a", .local),("n", .cell),("a_digits", .cell),("inner", .cell),("len", .globalImplicit)]
theorem zpe {params:Arguments} {xs:List Str} (h:zdo params xs=true) (env:Env):params.defaults=[]∧params.kw_defaults=[]∧annTrees params none env=[]:=by
 obtain ⟨as,rfl,_,h2⟩:=zlu h
 refine ⟨rfl,rfl, ?_⟩
 unfold annTrees
 simp only [List.append_nil,Option.toList_none]
 have:∀ l:List Arg,(l.all fun x=>x.annotation.isNone)=true→annotationsOf l env=[]:=by
  intro l
  induction l with
  | nil=>intro _;rfl
  | cons x l ih =>
   intro h
   obtain ⟨x1,x2,x3⟩:=x
   simp only [List.all_cons,Bool.and_eq_true,Option.isNone_iff_eq_none] at h
   obtain ⟨rfl,h⟩:=h
   exact ih h
 rw [this as h2];rfl
theorem zsc {sc:Scope} {env:Env} {ca ci cn:Addr} (h:sc.names=i2dSc) (h1:env.cells.lookup ("a_digits" : Str)=some ca) (h2:env.cells.lookup ("inner" : Str)=some ci) (h3:env.cells.lookup ("n" : Str)=some cn) :
  closureFor sc env=pure [(("n" : Str),cn),(("inner" : Str),ci),(("a_digits" : Str),ca)]:=by
 unfold closureFor
 rw [h]
 simp [i2dSc,cellOf,h1,h2,h3]
theorem znb {w:World} {O:List Addr} {h:Heap} {a:Addr} {vs:Array Value} {xs:List D} (z:xs.length≤16777216) (ha:a∉O) (l:h.PlainList a vs) (r:VReps w O h vs.toList xs):VRep w O h (.ref a) (.list xs) :=
 .list_of z ha l.isList (fun o e=>by obtain ⟨n,e'⟩:=l;rw [e] at e';obtain rfl:=soi e';rfl) r
theorem Inv.learn {env:Env} {O:List Addr} {ρ:Rho} {s:Shared} {n:Nat} {x:Str} {c:Addr} {v:Value} {d:D} (I:Inv G A env noOwn O ρ s) (nm:G.names[n]?=some x) (hk:env.kindOf x=some .cell) (hc:env.cells.lookup x=some c) (hq:s.heap.IsCell c (some v)) (r:VRep G.w O s.heap v d):Inv G A env noOwn O (ρ.set n d) s:=by
 obtain ⟨m,hm,hmv⟩:=I.envr.ns
 refine ⟨I.ok,I.hh,I.base,I.pos,I.ov,⟨I.envr.fn,I.envr.gl,I.envr.bi,I.envr.lin,I.envr.lfr,I.envr.oin,I.envr.cin,I.envr.inj,I.envr.ce,⟨m,hm,fun n' y d' h1 h2 h3=>?_⟩,fun n' y d' h1 h2 h3=>?_⟩⟩
 ·rw [Rho.get_set] at h3
  by_cases e:n'=n
  ·subst e
   rw [nm] at h1;obtain rfl:=soi h1
   rw [hk] at h2;cases h2
  ·rw [if_neg e] at h3
   exact hmv n' y d' h1 h2 h3
 ·rw [Rho.get_set] at h3
  by_cases e:n'=n
  ·subst e
   rw [nm] at h1;obtain rfl:=soi h1
   rw [if_pos rfl] at h3;obtain rfl:=soi h3
   exact ⟨c,v,hc,hq,by rw [zex];exact r⟩
  ·rw [if_neg e] at h3
   exact I.envr.cl n' y d' h1 h2 h3
theorem znp:∀ K:Nat,(List.replicate K [nint 0]).flatten=(List.replicate K 0).map nint
 | 0=>rfl
 | K+1=>by simp only [List.replicate_succ,List.flatten_cons,znp K,List.map_cons];rfl
theorem ylx {ρ:Rho} {x nb:Nat} (h1:ρ.get 11=some (nint x)) (h2:ρ.get 2=some (nint nb)) (hnb:0<nb) (hnb2:nb≤2^26):ev S0 ρ ypa=some (nint ((ib (x:Int)+nb-1) / nb)):=by
 have e0:ev S0 ρ (.mt .bitlen (.var 11) .nil)=some (nint (ib (x:Int))):=by
  exact bi (zaa h1) (bi (x:=[]) rfl rfl)
 refine zaf (zaf (zaf e0 (zaa h2) (zdp _ _)) (y:=nint 1) rfl (zde (by omega))) (zaa h2) ?_
 have e:zez .FloorDiv (nint (ib (x:Int)+nb-1)) (nint nb)=if (nb:Int) != 0&&decide ((nb:Int).natAbs.log2<9000) then some (.int (((ib (x:Int)+nb-1:Nat):Int).fdiv (nb:Int))) else none:=rfl
 rw [e,if_pos]
 ·rw [Int.fdiv_eq_ediv_of_nonneg _ (by omega)];norm_cast
 ·have h1:((nb:Int) != 0)=true:=by simp;omega
  have h2:nb.log2<27:=by
   rw [Nat.log2_lt (by omega)]
   exact Nat.lt_of_le_of_lt hnb2 (by decide)
  rw [h1,Int.natAbs_natCast]
  simp;omega
theorem ybb (ok:GOK G) (T:TabsOK G) (nm:∀ (i:Nat) (x:Str),zlp[i]?=some x→G.names[i]?=some x) {t:Tab} (ht:t∈G.tabs) {a:Addr} {fd:FuncData} {body:List Stmt} (Df:DefOK G a fd body ["a", "n"])
  (hout:zve ⟨G.names,i2dNames,[]⟩ t body=true) (hs:fd.scope.names=i2dNames) (hcode:fd.code=.ref t.c) (hq:fd.qualname ++ ".<locals>." ++ ("inner" : Str)=t.qual)
  {Oc:List Addr} {s:Shared} {vs:List Value} {x nb K:Nat} (hh:A.handled=none) (hr:A.depth+30<recursionLimit) (hu:A.units+200<cLine) (B:Base G s.heap) (p:0<s.toks) (ov:OVal Oc s.heap) (r:VReps G.w Oc s.heap vs [nint x,nint nb])
  (hnb:0<nb) (hnb2:nb≤2^26) (hK:K=(ib (x:Int)+nb-1) / nb) (hsz:nb*K≤2^26) (hK2:K≤2^24):Sat G A Oc (call (.ref a) vs) s (.list ((digs nb x K).map nint)):=fun Q E q=>by
 have h26:(2:Nat)^26=67108864:=by decide
 have h24:(2:Nat)^24=16777216:=by decide
 refine zuv (f:=⟨[11,2],[], .nil⟩) ok hh (by omega) B p ov r Df ?_ rfl fun s1 O M FF hM X1 E' _=>?_
 ·unfold zid
  have e1:=nm 11 _ rfl
  have e2:=nm 2 _ rfl
  simp only [hs,List.map_cons,List.map_nil,e1,e2]
  rfl
 ·generalize henv:callEnvC fd s.heap.objs.size a=env at FF ⊢
  have e1:env.scope=fd.scope:=by rw [← henv];rfl
  have e4:env.cells=[(("inner" : Str),s.heap.objs.size+3),(("a_digits" : Str),s.heap.objs.size+2),(("n" : Str),s.heap.objs.size+1)]:=by
   have:env.cells=cellsFrom (s.heap.objs.size+1) fd.scope.names []:=by rw [← henv];rfl
   rw [this,hs];rfl
  have e5:env.code=.ref t.c:=by rw [← hcode,← henv];rfl
  have e6:env.qual=fd.qualname ++ ".<locals>.":=by rw [← henv];rfl
  generalize hca:s.heap.objs.size+2=ca at e4
  generalize hci:s.heap.objs.size+3=ci at e4
  generalize hcn:s.heap.objs.size+1=cn at e4
  have hne:ca≠ci∧ci≠cn∧ca≠cn:=by rw [← hca,← hci,← hcn];refine ⟨?_, ?_, ?_⟩ <;> (intro h;have h:(_:Nat)=_:=h;omega)
  have I1:=FF.inv
  have hfn:=I1.envr.fn
  have kd:∀ y,env.kindOf y=i2dNames.lookup y:=fun y=>by show env.scope.names.lookup y=_;rw [e1,hs]
  have hI:=zxi hout
  clear hout
  cases hI
  rename_i y0 np0 l0 r0 bp ps1 nmI params ib' sc bnd ipos ts y1 np1 a1 cp1 xp1 ips y2 np2 rp2 hout
  ·refine zhd hout fun ha hb hc=>zmc ha fun b0 b1 b2 b3 b4 b5=>zmc hb fun b6 b7 b8 b9 b10 b11=>zyz hc fun b12 b13 b14 b15 b16=>?_
   obtain rfl:=bqp b0
   obtain rfl:=bqp b3
   obtain rfl:=bqp b4
   obtain rfl:=of_decide_eq_true b11
   obtain rfl:=bqp b14
   obtain rfl:=bqp b16
   have b6:=of_decide_eq_true b6
   have b7:=of_decide_eq_true b7
   have b8:=zjb b8
   have b9:=zjb b9
   have b10:=Option.isNone_iff_eq_none.mp b10
   have X:CxOK G (A.deeper env) S0 ⟨G.names,i2dNames,[]⟩ env noOwn:=⟨rfl,by rw [e1,hs],fun n=>by simp,hfn,fun0,ygp,hh,by show A.units+3+100<cLine;omega⟩
   have hlk1:env.cells.lookup ("a_digits" : Str)=some ca:=by rw [e4];rfl
   have hlk2:env.cells.lookup ("inner" : Str)=some ci:=by rw [e4];rfl
   have hlk3:env.cells.lookup ("n" : Str)=some cn:=by rw [e4];rfl
   have hfa:=hM ca (FF.mc _ _ hlk1)
   have hfi:=hM ci (FF.mc _ _ hlk2)
   rw [arm_execs_cons]
   refine wpAny_bind (wpAny_Assign_Name (wpAny_BinOp ((zap _ X b1).1 (.list [nint 0]) rfl s1 I1 _ _ fun v s2 x2 r2=>(zap _ X b2).1 (nint K) (by rw [hK];exact ylx rfl rfl hnb hnb2) s2 (I1.ext x2) _ _ fun u s3 x3 r3=>?_)) rfl)
   obtain ⟨a',ws,rfl,_,la,ra⟩:=r2.list_inv
   obtain ⟨tk,rfl⟩:=r3.int_inv
   have I3:=(I1.ext x2).ext x3
   refine zqo (zsw la x3.keep) (ra.keep x3.keep) (by omega) (by omega) (by simp;omega) fun h4 w4 k4 l4 r4=>?_
   generalize hD:s3.heap.objs.size=D at l4 ⊢
   have hD3:s3.heap.get? D=none:=by rw [← hD];exact zak _
   have hDs:s.heap.get? D=none:=X1.back _ (x2.back _ (x3.back _ hD3))
   have hD0:G.h₀.get? D=none:=zby (fun o q=>B.keep _ o q) hDs
   rw [Int.toNat_natCast,znp] at r4
   have x4:Ext G s3 { s3 with heap:=h4 }:=Ext.all (t:=s3.toks) I3.base k4 I3.pos
   have I4:=I3.ext x4
   refine zns I4 (nm 0 _ rfl) ((kd _).trans rfl) hlk1 (by rfl) fun h5 c5 x5 I5=>?_
   show wpAny _ _ (execs _ env) _ _ _
   have neD:D≠ca:=zdb c5 (x5.keep.plain (by
    intro m
    obtain ⟨c',v',p1,p2⟩:=I4.envr.ce ("a_digits" : Str) (.inl ((kd _).trans rfl))
    rw [hlk1] at p1;obtain rfl:=soi p1
    exact zdb p2 l4 (msp m).symm) l4) |>.symm
   have l5:h5.PlainList D w4:=x5.keep.plain (fun m=>neD (msp m)) l4
   have iv:IV w4.toList (List.replicate K 0):=IV.of r4
   have hDO:D∉O:=I3.ov.new hD3
   have J5:=I5.learn (nm 0 _ rfl) ((kd _).trans rfl) hlk1 c5 (znb (xs:=(List.replicate K 0).map nint) (by simp;omega) hDO l5 iv.reps)
   rw [arm_execs_cons]
   obtain ⟨d1,d2,d3⟩:=zpe b5 env
   refine wpAny_bind (yjg ok T J5.base ht e5 (by unfold qualnameIn;rw [kd,e6];exact hq) (zsc b6 hlk1 hlk2 hlk3) (by nofun) J5.envr.gl b8 b9 b7 b10 d1 d2 d3 (fun f fd' s6 x6 hf6 N6 hpar hscq hdf hkw=>?_) J5.pos)
   have I6:=J5.ext x6
   have l6:s6.heap.PlainList D w4:=zbd l5 x6.keep
   have c6:s6.heap.IsCell ca (some (.ref D)):=zeg c5 x6.keep
   obtain ⟨cn',vn,n1,n2,n3⟩:=I6.envr.cl 2 ("n" : Str) (nint nb) (nm 2 _ rfl) (.inl ((kd _).trans rfl)) rfl
   rw [hlk3] at n1;obtain rfl:=soi n1
   rw [zex] at n3
   obtain ⟨tn,rfl⟩:=n3.int_inv
   refine zns (n:=1) I6 (nm 1 _ rfl) ((kd _).trans rfl) hlk2 (by rfl) fun h7 c7 x7 I7=>?_
   show wpAny _ _ (execs _ env) _ _ _
   have neDi:ci≠D:=by
    obtain ⟨c',v',p1,p2⟩:=I6.envr.ce ("inner" : Str) (.inl ((kd _).trans rfl))
    rw [hlk2] at p1;obtain rfl:=soi p1
    exact zdb p2 l6
   have l7:h7.PlainList D w4:=x7.keep.plain (fun m=>neDi (msp m).symm) l6
   have C7:IClo G h7 f D ca ci cn nb fd' ib':=by
    refine ⟨N6.keepBut x7.keep fun b m o e=>?_,x7.keep.cell (fun m=>hne.1 (msp m)) c6,c7,tn,x7.keep.cell (fun m=>hne.2.1 (msp m).symm) n2⟩
    rcases msp m with rfl
    obtain ⟨c',v',p1,p2⟩:=I6.envr.ce ("inner" : Str) (.inl ((kd _).trans rfl))
    rw [hlk2] at p1;obtain rfl:=soi p1
    obtain ⟨o',p3,p4⟩:=p2
    rw [p3] at e;obtain rfl:=soi e
    exact ⟨fun fd h=>(by rw [p4] at h;cases h),fun vs h=>(by rw [p4] at h;cases h)⟩
   have hci0:=(I7.envr.cin _ _ hlk2).2
   have hca0:=(I7.envr.cin _ _ hlk1).2
   have hcn0:=(I7.envr.cin _ _ hlk3).2
   have xall:SExt G [ca,ci,D] s { s6 with heap:=h7 }:=by
    have m1:∀ a∈[ca],a∈[ca,ci,D]:=fun a m=>by rcases msp m with rfl;simp
    have m2:∀ a∈[ci],a∈[ca,ci,D]:=fun a m=>by rcases msp m with rfl;simp
    exact ((((((X1.sext.trans x2.sext).trans x3.sext).trans x4.sext).trans (x5.mono m1)).trans x6.sext).trans (x7.mono m2))
   have fin:∀ (s9:Shared) (w9:Array Value),SExt G [D] { s6 with heap:=h7 } s9→s9.heap.PlainList D w9→IV w9.toList (digs nb x K)→s9.heap.IsCell ca (some (.ref D)) →
     wpAny (mdl G) (A.deeper env) (execs [.Return (some (.Name ("a_digits" : Str) np2)) rp2] env) (fun fl s'=>Q (match fl with | .ret v=>v | _=>.none) s') E' s9:=fun s9 w9 x9 l9 iv9 c9=>by
    rw [arm_execs_cons]
    refine wpAny_bind ?_
    rw [arm_exec_Return]
    refine wpAny_bind (wpAny_standAt (wpAny_bind (wpAny_Name (wpAny_loadName_cell hfn ((kd _).trans rfl) hlk1 c9 ?_) rfl)))
    refine wpAny_pure (wpAny_pure (q _ _ ((xall.trans (x9.mono fun a m=>by rcases msp m with rfl;simp)).ext fun b m=>?_) (znb (by simp [zeh];omega) (ov.new hDs) l9 iv9.reps)))
    simp only [List.mem_cons,List.not_mem_nil,or_false] at m
    rcases m with rfl | rfl | rfl
    ·exact hfa
    ·exact hfi
    ·exact hDs
   rw [arm_execs_cons]
   refine wpAny_bind (wpAny_If ((zap (.var 11) X b13).2 (decide (x≠0)) ?_ _ I7 _ _ fun s8 x8=>?_))
   ·show (some (nint x)).bind truth=_
    show some ((x:Int) != 0)=_
    congr 1
    by_cases c:x=0
    ·subst c;rfl
    ·rw [decide_eq_true c];simp;exact c
   have C8:=C7.keep x8.keep
   have l8:=zbd l7 x8.keep
   have I8:=I7.ext x8
   by_cases hx0:x=0
   ·subst hx0
    simp only [ne_eq,not_true_eq_false,decide_false,Bool.false_eq_true,if_false]
    refine wpAny_execs_nil ?_
    have hK0:K=0:=by
     rw [hK]
     have:ib ((0:Nat):Int)=0:=rfl
     rw [this]
     exact Nat.div_eq_of_lt (by omega)
    refine fin s8 w4 x8.sext l8 ?_ C8.a
    rw [hK0] at iv ⊢
    exact iv
   ·simp only [ne_eq,hx0,not_false_eq_true,decide_true,if_true]
    have hib:x<2^ib (x:Int):=by
     unfold ib Builtin.Int.intBits
     have:((x:Int)==0)=false:=by simpa using hx0
     rw [this]
     simp only [Bool.false_eq_true,if_false,Int.natAbs_natCast]
     exact Nat.lt_log2_self
    have hib1:1≤ib (x:Int):=by
     rcases Nat.eq_zero_or_pos (ib (x:Int)) with c | c
     ·rw [c] at hib;simp at hib;exact absurd hib hx0
     ·exact c
    have hKpos:0<K:=by rw [hK];exact Nat.div_pos (by omega) hnb
    have hKx:x<2^(nb*K):=by
     refine Nat.lt_of_lt_of_le hib (Nat.pow_le_pow_right (by omega) ?_)
     have e:=Nat.div_add_mod (ib (x:Int)+nb-1) nb
     rw [← hK] at e
     have:=Nat.mod_lt (ib (x:Int)+nb-1) hnb
     omega
    rw [arm_execs_cons]
    have es:=zbe (O:=O) (ρ:=(zbl [] [11,2] [nint x,nint nb]).set 0 (.list ((List.replicate K 0).map nint))) _ X b15
    obtain ⟨fo,hfo,hfd⟩:=C8.N.at'
    refine wpAny_bind (wpAny_Expr (zih (ci:=ci) (f:=f) I8 (.inr ((kd _).trans rfl)) hlk2 C8.i rfl rfl ⟨fo,_,hfo,hfd⟩ es.ns (es.el [nint x,nint 0,nint K] ?_) fun s9 vs9 x9 r9=>?_) (zii hfn) (zcw rfl _ _ _))
    ·refine zab rfl (zab rfl (zab ?_ rfl))
     show some (PyData.int ((List.replicate K 0).map nint).length)=_
     simp
    ·have C9:=C8.keep x9.keep
     have l9:=zbd l8 x9.keep
     refine yba ok nm b12 (by rw [hscq];exact b6) (fun a b c=>zir (by rw [hpar];exact b5) (by decide) hdf rfl) ⟨hca0,hci0,hcn0,hD0⟩ hne hnb 24 (A:=A.deeper env) hh (by show A.depth+1+24<_;omega) (by show A.units+3+3*(24+1)+100<_;omega) x9.base x9.pos C9 l9 iv (IV.of (ns:=[x,0,K]) r9) hKpos (by simp) (by simpa using hK2) (by simpa using hsz) (by simpa using hKx) _ _ fun s10 vs10 x10 l10 iv10=>?_
     show wpAny _ _ (execs _ env) _ _ _
     refine wpAny_execs_nil (fin s10 vs10 ((x8.sext.trans x9.sext).trans x10) l10 ?_ ?_)
     ·simpa using iv10
     ·exact (C9.but x10.keep (zri l9)).a
end
end Internal
namespace Internal
section
variable {G:GC} {A:Around} {s:Shared}
noncomputable def d2iSc:List (Str × NameKind):=[("L", .local),("R", .local),("mid", .local),("shift", .local),("digits", .free),("inner", .free),("n", .free)]
noncomputable def zzs (c:Cx) (t d0:Expr) (s2 s3:Stmt) (f1:Str) (a1:List Expr) (sh1:Expr) (f2:Str) (a2:List Expr):Bool:=chkE c eOne t&&chkE c (.sub (.var 10) (.var 4)) d0&&lsS c 6 eMid s2&&lsS c 7 yjh s3&&f1==("inner" : Str)&&zfl c (.cons (.var 6) (.cons (.var 5) .nil)) a1&&chkE c (.var 7) sh1&&f2==("inner" : Str)&&zfl c (.cons (.var 4) (.cons (.var 6) .nil)) a2
inductive D2iB (c:Cx):List Stmt→Prop
 | mk {t:Expr} {d0:Expr} {q1:Pos} {q2:Pos} {s2 s3:Stmt} {f1:Str} {q7:Pos} {a1:List Expr} {q8:Pos} {sh1:Expr} {q9:Pos} {f2:Str} {q10:Pos} {a2:List Expr} {q11:Pos} {q12:Pos} {q13:Pos} (h:zzs c t d0 s2 s3 f1 a1 sh1 f2 a2=true):D2iB c ([.If t [.Return (some d0) q1] [] q2,s2,s3, .Return (some (.BinOp (.BinOp (.Call (.Name f1 q7) a1 [] q8) .LShift sh1 q9) .Add (.Call (.Name f2 q10) a2 [] q11) q12)) q13])
noncomputable def znw (c:Cx) (b:List Stmt):Bool :=
 zcd b fun s1 r=>zcd r fun s2 r=>zcd r fun s3 r=>onL1 r fun s4=>yhp s1 fun t b=>onL1 b fun r=>zqx r fun d0=>zqx s4 fun z=>yho z .Add fun l c2=>yho l .LShift fun c1 sh1=>zcy c1 fun f1 a1=>zcy c2 fun f2 a2=>zzs c t d0 s2 s3 f1 a1 sh1 f2 a2
theorem zsh {c:Cx} {b:List Stmt} (h:znw c b=true):D2iB c b:=by
 refine onCons_elim h fun s1 r h=>onCons_elim h fun s2 r h=>onCons_elim h fun s3 r h=>onL1_elim h fun s4 h=>onIfR_elim h fun t b p1 h=>onL1_elim h fun r h=>onRetE_elim h fun d0 p2 h=>onRetE_elim h fun z p3 h=>onBop_elim h fun l c2 p4 h=>onBop_elim h fun c1 sh1 p5 h=>onCallN_elim h fun f1 q1 a1 q2 h=>onCallN_elim h fun f2 q3 a2 q4 h=>.mk h
structure JClo (G:GC) (h:Heap) (f cd ci cn:Addr) (ns:List Nat) (nb:Nat) (fd:FuncData) (body:List Stmt):Prop where
 N:NFun G h f fd body [("n",cn),("inner",ci),("digits",cd)]
 d:∃ v,h.IsCell cd (some v)∧VRep G.w [cd,ci,cn] h v (.list (ns.map nint))
 i:h.IsCell ci (some (.ref f))
 n:∃ t,h.IsCell cn (some (.int (nb:Int) t))
theorem JClo.keep {h h':Heap} {f cd ci cn:Addr} {ns:List Nat} {nb:Nat} {fd:FuncData} {body:List Stmt} (x:JClo G h f cd ci cn ns nb fd body) (k:Keep h h'):JClo G h' f cd ci cn ns nb fd body :=
 ⟨x.N.keep k,let ⟨v,a,b⟩:=x.d;⟨v,zeg a k,b.keep k⟩,zeg x.i k,let ⟨t,y⟩:=x.n;⟨t,zeg y k⟩⟩
theorem JClo.but {h h':Heap} {f cd ci cn:Addr} {ns:List Nat} {nb:Nat} {fd:FuncData} {body:List Stmt} {W:List Addr} (x:JClo G h f cd ci cn ns nb fd body) (k:KeepBut W h h') (hW:∀ a∈W,∀ o,h.get? a=some o→Soft o) (hd:∃ v,h'.IsCell cd (some v)∧VRep G.w [cd,ci,cn] h' v (.list (ns.map nint))):JClo G h' f cd ci cn ns nb fd body :=
 ⟨x.N.keepBut k fun a m o e=>⟨(hW a m o e).1,(hW a m o e).2.1⟩,hd,zko x.i k hW,let ⟨t,y⟩:=x.n;⟨t,zko y k hW⟩⟩
theorem IV.two {vals:List Value} {L R:Nat} (h:IV vals [L,R]):∃ t1 t2,vals=[.int L t1, .int R t2]:=by
 obtain ⟨t1,h1⟩:=h.2 0 L rfl
 obtain ⟨t2,h2⟩:=h.2 1 R rfl
 refine ⟨t1,t2,List.ext_getElem? fun i=>?_⟩
 match i with
 | 0=>exact h1
 | 1=>exact h2
 | n+2 =>
  rw [List.getElem?_eq_none (by rw [h.1];exact Nat.le_add_left 2 n)];rfl
noncomputable def D2I (G:GC) (f cd ci cn:Addr) (ns:List Nat) (nb:Nat) (fd:FuncData) (body:List Stmt) (k:Nat):Prop :=
 ∀ {A:Around} {s:Shared} {L R:Nat} {vals:List Value},A.handled=none→A.depth+k<recursionLimit→A.units+3*(k+1)+100<cLine→Base G s.heap→0<s.toks →
   JClo G s.heap f cd ci cn ns nb fd body→IV vals [L,R]→L<R→R≤ns.length→R-L≤2^k→nb*ns.length≤2^26 →
   ∀ (Q:Value→Shared→Prop) (E:Value→Shared→Prop),(∀ s' t,Ext G s s'→Q (.int ((und nb ((ns.drop L).take (R-L)):Nat):Int) t) s')→wpAny (mdl G) A (call (.ref f) vals) Q E s
noncomputable def jRho (L R nb:Nat) (ns:List Nat):Rho:=[(4,nint L),(5,nint R),(2,nint nb),(10, .list (ns.map nint))]
theorem zyt {ns:List Nat} {L m R:Nat} (h1:L≤m) (h2:m≤R):(ns.drop L).take (R-L)=(ns.drop L).take (m-L)++(ns.drop m).take (R-m):=by
 rw [← zwc h1 h2,List.take_add,List.drop_drop,Nat.add_sub_cancel' h1]
theorem zuc (ok:GOK G) (nm:∀ (i:Nat) (x:Str),zlp[i]?=some x→G.names[i]?=some x) {f cd ci cn:Addr} {ns:List Nat} {nb:Nat} {fd:FuncData} {body:List Stmt}
  (hb:znw ⟨G.names,d2iSc,[]⟩ body=true) (hsc:fd.scope.names=d2iSc) (hbind:∀ a b,bindArgs fd ⟨[a,b],[]⟩=pure [(("L" : Str),a),(("R" : Str),b)])
  (h0:G.h₀.get? cd=none∧G.h₀.get? ci=none∧G.h₀.get? cn=none) (hne:cd≠ci∧ci≠cn∧cd≠cn) (hnb:0<nb) (hdg:∀ d∈ns,d<2^nb) {k:Nat} (ih:∀ j,k=j+1→D2I G f cd ci cn ns nb fd body j):D2I G f cd ci cn ns nb fd body k:=by
 intro A s L R vals hh hr hu B p C ivv hLR hR hk hsz Q E q
 obtain ⟨t1,t2,rfl⟩:=ivv.two
 obtain ⟨hcd,hci,hcn⟩:=h0
 obtain ⟨tn,Cn⟩:=C.n
 obtain ⟨dv,Cd,rd⟩:=C.d
 refine zqp (O:=[cd,ci,cn]) (xs:=["L", "R"]) (ρ:=jRho L R nb ns) ok hh (by omega) B p (fun a m=>?_) C.N (hbind _ _) (fun y hy=>?_) (fun y hy=>?_) (fun y c h=>?_) (fun y z c h h'=>?_) (fun y hy=>?_) (fun n y d h1 h2 h3=>?_) (fun n y d h1 h2 h3=>?_) fun env s1 e1 e2 e3 X1 I1 E'=>?_
 ·rcases mcp m with rfl | m
  ·exact zef Cd
  ·rcases mcp m with rfl | m
   ·exact zef C.i
   ·exact msp m▸zef Cn
 ·rw [hsc]
  exact bqp (latp (show (["L", "R"]:List Str).all (fun y=>d2iSc.lookup y==some .local)=true from rfl) y hy)
 ·rw [hsc] at hy
  exact latp (show d2iSc.all (fun p=>decide (p.2≠.cell))=true from rfl) y hy |> of_decide_eq_true
 ·exact zlz (P:=fun _ c=>c∈([cd,ci,cn]:List Addr)∧G.h₀.get? c=none) h ⟨.tail _ (.tail _ (.head _)),hcn⟩ ⟨.tail _ (.head _),hci⟩ ⟨.head _,hcd⟩
 ·exact yed hne.1 hne.2.1 hne.2.2 h h'
 ·rw [hsc] at hy
  exact yau (P:=fun y=>∃ c v,([("n",cn),("inner",ci),("digits",cd)]:List (Str × Addr)).lookup y=some c∧s.heap.IsCell c v) (A:="digits") (B:="inner") (C:="n") rfl hy ⟨_,_,rfl,Cd⟩ ⟨_,_,rfl,C.i⟩ ⟨_,_,rfl,Cn⟩
 ·revert h1 h2
  refine rho4_el h3 ?_ ?_ ?_ ?_
  ·intro h1 _
   obtain rfl:=zbx nm h1 rfl
   exact ⟨_,rfl, .int⟩
  ·intro h1 _
   obtain rfl:=zbx nm h1 rfl
   exact ⟨_,rfl, .int⟩
  ·intro h1 h2
   obtain rfl:=zbx nm h1 rfl
   rw [hsc] at h2
   exact absurd h2 (by decide)
  ·intro h1 h2
   obtain rfl:=zbx nm h1 rfl
   rw [hsc] at h2
   exact absurd h2 (by decide)
 ·revert h1 h2
  refine rho4_el h3 ?_ ?_ ?_ ?_
  ·intro h1 h2
   obtain rfl:=zbx nm h1 rfl
   rw [hsc] at h2
   exact absurd h2 (by decide)
  ·intro h1 h2
   obtain rfl:=zbx nm h1 rfl
   rw [hsc] at h2
   exact absurd h2 (by decide)
  ·intro h1 _
   obtain rfl:=zbx nm h1 rfl
   exact ⟨cn,_,rfl,Cn, .int⟩
  ·intro h1 _
   obtain rfl:=zbx nm h1 rfl
   exact ⟨cd,dv,rfl,Cd,rd⟩
 ·have hI:=zsh hb
  clear hb
  cases hI
  rename_i hb
  ·unfold zzs at hb
   simp only [Bool.and_eq_true,beq_iff_eq] at hb
   obtain ⟨⟨⟨⟨⟨⟨⟨⟨b1,b2⟩,b3⟩,b4⟩,b5⟩,b6⟩,b7⟩,b8⟩,b9⟩:=hb
   subst b5 b8
   have X:CxOK G (A.deeper env) S0 ⟨G.names,d2iSc,[]⟩ env noOwn:=⟨rfl,by rw [e1,hsc],fun n=>by simp,by rw [e1];exact C.N.kind,fun0,ygp,hh,by show A.units+3+100<cLine;omega⟩
   have kd:∀ y,env.kindOf y=d2iSc.lookup y:=fun y=>by show env.scope.names.lookup y=_;rw [e1,hsc]
   have hfn:=X.fn
   have h26:(2:Nat)^26=67108864:=by decide
   have h27:(2:Nat)^27=134217728:=by decide
   have h64:(2:Nat)^64=18446744073709551616:=by decide
   have hm1:nb*(R-L)≤nb*ns.length:=Nat.mul_le_mul_left _ (Nat.le_trans (Nat.sub_le _ _) hR)
   have hm2:R≤nb*ns.length:=Nat.le_trans hR (Nat.le_mul_of_pos_left _ hnb)
   have hnb26:nb≤2^26:=Nat.le_trans (Nat.le_mul_of_pos_right _ (Nat.lt_of_lt_of_le (Nat.zero_lt_of_lt hLR) hR)) hsz
   rw [arm_execs_cons]
   refine wpAny_bind (wpAny_If ((zap eOne X b1).2 (decide (L+1=R)) ?_ s1 I1 _ _ fun s2 x2=>?_))
   ·exact bi (bi (zaf (x:=nint L) (y:=nint 1) (z:=nint (L+1)) rfl rfl (zdp L 1)) (bi (zaa (show (jRho L R nb ns).get 5=some (nint R) from rfl)) (zum _ _))) rfl
   have I2:=I1.ext x2
   have C2:=(C.keep X1.keep).keep x2.keep
   by_cases hone:L+1=R
   ·rw [decide_eq_true hone]
    simp only [if_true]
    rw [arm_execs_cons]
    refine wpAny_bind ?_
    rw [arm_exec_Return]
    have hLn:L<ns.length:=Nat.lt_of_lt_of_le hLR hR
    have hev:ev S0 (jRho L R nb ns) (.sub (.var 10) (.var 4))=some (nint ns[L]):=by
     have e:ev S0 (jRho L R nb ns) (.sub (.var 10) (.var 4))=(seqIndex? (L:Int) (ns.map nint).length).bind ((ns.map nint)[·]?):=rfl
     rw [e,seqIndex_of (by omega) (by simp;omega)]
     show (ns.map nint)[((L:Int)).toNat]?=_
     rw [Int.toNat_natCast,List.getElem?_map,List.getElem?_eq_getElem hLn];rfl
    refine wpAny_bind (wpAny_standAt (wpAny_bind ((zap _ X b2).1 _ hev s2 I2 _ _ fun v s3 x3 r3=>?_)))
    obtain ⟨tv,rfl⟩:=r3.int_inv
    refine wpAny_pure (wpAny_pure (wpAny_pure ?_))
    have e:und nb ((ns.drop L).take (R-L))=ns[L]:=by
     rw [← hone,show L+1-L=1 from Nat.add_sub_cancel_left ..,List.drop_eq_getElem_cons hLn,List.take_succ_cons,List.take_zero]
     simp only [und,Nat.mul_zero,Nat.add_zero]
    have:=q s3 tv ((X1.trans x2).trans x3)
    rw [e] at this
    exact this
   ·rw [decide_eq_false hone]
    simp only [Bool.false_eq_true,if_false]
    refine wpAny_execs_nil ?_
    show wpAny _ _ (execs _ env) _ _ _
    obtain ⟨j,rfl⟩:∃ j,k=j+1:=by
     cases k with
     | zero=>simp at hk;omega
     | succ j=>exact ⟨j,rfl⟩
    have h2k:2^(j+1)=2*2^j:=by rw [Nat.pow_succ,Nat.mul_comm]
    generalize hmid:(L+R) / 2^1=mid
    have hmid':mid=(L+R) / 2:=by rw [← hmid]
    obtain ⟨g1,g2,g3,g4⟩:=yjy hLR hone (h2k▸hk) hmid'
    generalize hsh:(mid-L)*nb=sh
    have hsh':sh=nb*(mid-L):=by rw [← hsh,Nat.mul_comm]
    have hsz':sh+nb*(R-mid)=nb*(R-L):=by rw [hsh',← Nat.mul_add,zwc (Nat.le_of_lt g1) (Nat.le_of_lt g2)]
    have hlow:∀ a b:Nat,((ns.drop a).take b).length≤b:=fun a b=>List.length_take_le _ _
    have hsub:∀ a b:Nat,∀ d∈(ns.drop a).take b,d<2^nb:=fun a b d m=>hdg d (List.mem_of_mem_drop (List.mem_of_mem_take m))
    generalize hhi:und nb ((ns.drop mid).take (R-mid))=hi
    generalize hlo:und nb ((ns.drop L).take (mid-L))=lo
    have hhib:hi<2^(nb*(R-mid)):=by
     rw [← hhi]
     exact Nat.lt_of_lt_of_le (yks (hsub _ _)) (Nat.pow_le_pow_right Nat.two_pos (Nat.mul_le_mul_left _ (hlow _ _)))
    have htot:und nb ((ns.drop L).take (R-L))=hi*2^sh+lo:=by
     rw [zyt (Nat.le_of_lt g1) (Nat.le_of_lt g2),zfi,hhi,hlo,hsh',List.length_take,List.length_drop,Nat.min_eq_left (Nat.sub_le_sub_right (Nat.le_trans (Nat.le_of_lt g2) hR) L),Nat.add_comm,Nat.mul_comm]
    rw [arm_execs_cons]
    refine wpAny_bind (zxp X I2 b3 (zaf (zaf (zaa rfl) (zaa rfl) (zdp L R)) zai (zkx (L+R) 1)) fun s3 x3 I3=>?_)
    show wpAny _ _ (execs _ env) _ _ _
    rw [hmid] at I3
    rw [arm_execs_cons]
    refine wpAny_bind (zxp X I3 b4 (zaf (zaf (zaa rfl) (zaa rfl) (zde (Nat.le_of_lt g1))) (zaa rfl) (zge (Nat.lt_of_le_of_lt (Nat.le_trans (Nat.sub_le _ _) (Nat.le_trans (Nat.le_of_lt g2) (Nat.le_trans (Nat.le_trans hR (Nat.le_mul_of_pos_left _ hnb)) hsz))) (by decide)) (Nat.lt_of_le_of_lt hnb26 (by decide)))) fun s4 x4 I4=>?_)
    show wpAny _ _ (execs _ env) _ _ _
    rw [hsh] at I4
    have x24:SExt G [env.locals] s2 s4:=x3.trans x4
    obtain ⟨m2,hns2,_⟩:=id I2.envr.ns
    have C4:=C2.but x24.keep (ydn hns2) (by
     obtain ⟨c',v,a1,a2,a3⟩:=I4.envr.cl 10 ("digits" : Str) (.list (ns.map nint)) (nm 10 _ rfl) (.inr ((kd _).trans rfl)) rfl
     rw [e2] at a1
     obtain rfl:=soi a1
     rw [zex] at a3
     exact ⟨v,a2,a3.sub fun a m=>mct _ m⟩)
    have atf:∀ {h:Heap} {body':List Stmt},JClo G h f cd ci cn ns nb fd body'→∃ o fd',h.get? f=some o∧o.data=.func fd':=fun C=>let ⟨o,e,d⟩:=C.N.at';⟨o,_,e,d⟩
    rw [arm_execs_cons]
    refine wpAny_bind ?_
    rw [arm_exec_Return]
    refine wpAny_bind (wpAny_standAt (wpAny_bind ?_))
    have hlk:env.cells.lookup ("inner" : Str)=some ci:=by rw [e2];rfl
    have es1:=zbe (O:=env.locals::[cd,ci,cn]) (ρ:=((jRho L R nb ns).set 6 (nint mid)).set 7 (nint sh)) _ X b6
    have es2:=zbe (O:=env.locals::[cd,ci,cn]) (ρ:=((jRho L R nb ns).set 6 (nint mid)).set 7 (nint sh)) _ X b9
    refine wpAny_BinOp (wpAny_BinOp (zih (ci:=ci) (f:=f) I4 (.inl ((kd _).trans rfl)) hlk C4.i rfl rfl (atf C4) es1.ns (es1.el [nint mid,nint R] rfl) fun s5 vs5 x5 r5=>?_))
    have C5:=C4.keep x5.keep
    have I5:=I4.ext x5
    refine ih j rfl (A:=A.deeper env) hh (by show A.depth+1+j<_;omega) (by show A.units+3+3*(j+1)+100<_;omega) x5.base x5.pos C5 (IV.of (ns:=[mid,R]) r5) g2 hR g4 hsz _ _ fun s6 t6 x6=>?_
    rw [hhi]
    have I6:=I5.ext x6
    refine (zap (.var 7) X b7).1 (nint sh) rfl s6 I6 _ _ fun v s7 x7 r7=>?_
    have I7:=I6.ext x7
    refine zkm (O:=[]) x7.base x7.pos (fun _ m=>by cases m) (VRep.int (i:=(hi:Int)) (t:=t6)) (r7.sub fun _ m=>by cases m) (zkw hhib (Nat.le_trans (Nat.le_of_eq ((Nat.add_comm _ _).trans hsz')) (Nat.le_trans hm1 (Nat.le_trans hsz (by decide))))) _ _ fun z s8 x8 r8=>?_
    obtain ⟨t8,rfl⟩:=r8.int_inv
    have I8:=I7.ext x8
    have C8:=((C5.keep x6.keep).keep x7.keep).keep x8.keep
    refine zih (ci:=ci) (f:=f) I8 (.inl ((kd _).trans rfl)) hlk C8.i rfl rfl (atf C8) es2.ns (es2.el [nint L,nint mid] rfl) fun s9 vs9 x9 r9=>?_
    refine ih j rfl (A:=A.deeper env) hh (by show A.depth+1+j<_;omega) (by show A.units+3+3*(j+1)+100<_;omega) x9.base x9.pos (C8.keep x9.keep) (IV.of (ns:=[L,mid]) r9) g1 (Nat.le_trans (Nat.le_of_lt g2) hR) g3 hsz _ _ fun s10 t10 x10=>?_
    rw [hlo]
    refine zkm (O:=[]) x10.base x10.pos (fun _ m=>by cases m) (VRep.int (i:=((hi*2^sh:Nat):Int)) (t:=t8)) (VRep.int (i:=(lo:Int)) (t:=t10)) (zdp _ _) _ _ fun z s11 x11 r11=>?_
    obtain ⟨t11,rfl⟩:=r11.int_inv
    refine wpAny_pure (wpAny_pure ?_)
    have:=q s11 t11 (((((((((X1.trans x2).sext.trans x24).trans x5.sext).trans x6.sext).trans x7.sext).trans x8.sext).trans x9.sext).trans x10.sext).trans x11.sext |>.ext fun b m=>by rw [msp m];exact e3)
    rw [htot] at this
    exact this
end
end Internal
namespace Internal
section
variable {G:GC} {A:Around}
theorem zzu (ok:GOK G) (nm:∀ (i:Nat) (x:Str),zlp[i]?=some x→G.names[i]?=some x) {f cd ci cn:Addr} {ns:List Nat} {nb:Nat} {fd:FuncData} {body:List Stmt}
  (hb:znw ⟨G.names,d2iSc,[]⟩ body=true) (hsc:fd.scope.names=d2iSc) (hbind:∀ a b,bindArgs fd ⟨[a,b],[]⟩=pure [(("L" : Str),a),(("R" : Str),b)])
  (h0:G.h₀.get? cd=none∧G.h₀.get? ci=none∧G.h₀.get? cn=none) (hne:cd≠ci∧ci≠cn∧cd≠cn) (hnb:0<nb) (hdg:∀ d∈ns,d<2^nb):∀ k,D2I G f cd ci cn ns nb fd body k
 | 0=>zuc ok nm hb hsc hbind h0 hne hnb hdg fun j e=>by cases e
 | k+1=>zuc ok nm hb hsc hbind h0 hne hnb hdg fun j e=>by cases e;exact zzu ok nm hb hsc hbind h0 hne hnb hdg k
noncomputable def zzt (c:Cx) (t:Tab) (nmI:Str) (params:Arguments) (ib:List Stmt) (sc:Scope) (bnd:Str) (ipos:Pos) (ts:Expr) (y1:Str) (a1:List Expr) (z0:Expr):Bool:=(nmI==("inner" : Str)&&bnd==("inner" : Str)&&zdo params ["L", "R"])&&(decide (sc.names=d2iSc)&&decide (sc.kind=.function)&&!sc.isCoroutine&&!sc.isGenerator&&(docOf ib).isNone&&decide (ipos=t.pos))&&(znw ⟨c.nm,d2iSc,[]⟩ ib&&chkE c (.var 10) ts&&y1==("inner" : Str)&&zfl c (.cons (.lit (.int 0)) (.cons (.bf .len (.cons (.var 10) .nil)) .nil)) a1&&chkE c (.lit (.int 0)) z0)
inductive D2iO (c:Cx) (t:Tab):List Stmt→Prop
 | mk {nmI:Str} {params:Arguments} {ib:List Stmt} {sc:Scope} {bnd:Str} {ipos:Pos} {ts:Expr} {y1:Str} {np1:Pos} {a1:List Expr} {cp1:Pos} {z0:Expr} {iep:Pos} {rp2:Pos} (h:zzt c t nmI params ib sc bnd ipos ts y1 a1 z0=true):D2iO c t ([.FunctionDef nmI params ib [] none [] sc none bnd ipos, .Return (some (.IfExp ts (.Call (.Name y1 np1) a1 [] cp1) z0 iep)) rp2])
noncomputable def zub (c:Cx) (t:Tab) (b:List Stmt):Bool :=
 zcd b fun s1 r=>onL1 r fun s2=>ymw s1 fun nmI params ib sc bnd ipos=>zqx s2 fun e=>ztd e fun ts z z0 _=>zcy z fun y1 a1=>zzt c t nmI params ib sc bnd ipos ts y1 a1 z0
theorem zxb {c:Cx} {t:Tab} {b:List Stmt} (h:zub c t b=true):D2iO c t b:=by
 refine onCons_elim h fun s1 r h=>onL1_elim h fun s2 h=>onDef_elim h fun nmI params ib sc bnd ipos h=>onRetE_elim h fun e p1 h=>onIfExp_elim h fun ts z z0 p2 h=>onCallN_elim h fun y1 p3 a1 p4 h=>.mk h
noncomputable def d2iNames:List (Str × NameKind):=[("digits", .cell),("n", .cell),("inner", .cell),("len", .globalImplicit)]
theorem zsb {sc:Scope} {env:Env} {cd ci cn:Addr} (h:sc.names=d2iSc) (h1:env.cells.lookup ("digits" : Str)=some cd) (h2:env.cells.lookup ("inner" : Str)=some ci) (h3:env.cells.lookup ("n" : Str)=some cn) :
  closureFor sc env=pure [(("n" : Str),cn),(("inner" : Str),ci),(("digits" : Str),cd)]:=by
 unfold closureFor
 rw [h]
 simp [d2iSc,cellOf,h1,h2,h3]
theorem zzv (ok:GOK G) (T:TabsOK G) (nm:∀ (i:Nat) (x:Str),zlp[i]?=some x→G.names[i]?=some x) {t:Tab} (ht:t∈G.tabs) {a:Addr} {fd:FuncData} {body:List Stmt} (Df:DefOK G a fd body ["digits", "n"])
  (hout:zub ⟨G.names,d2iNames,[]⟩ t body=true) (hs:fd.scope.names=d2iNames) (hcode:fd.code=.ref t.c) (hq:fd.qualname ++ ".<locals>." ++ ("inner" : Str)=t.qual)
  {Oc:List Addr} {s:Shared} {vs:List Value} {ns:List Nat} {nb:Nat} (hh:A.handled=none) (hr:A.depth+30<recursionLimit) (hu:A.units+200<cLine) (B:Base G s.heap) (p:0<s.toks) (ov:OVal Oc s.heap) (r:VReps G.w Oc s.heap vs [.list (ns.map nint),nint nb])
  (hnb:0<nb) (hsz:nb*ns.length≤2^26) (hK2:ns.length≤2^24) (hdg:∀ d∈ns,d<2^nb):Sat G A Oc (call (.ref a) vs) s (nint (und nb ns)):=fun Q E q=>by
 have h26:(2:Nat)^26=67108864:=by decide
 have h24:(2:Nat)^24=16777216:=by decide
 refine zuv (f:=⟨[10,2],[], .nil⟩) ok hh (by omega) B p ov r Df ?_ rfl fun s1 O M FF hM X1 E' _=>?_
 ·unfold zid
  have e1:=nm 10 _ rfl
  have e2:=nm 2 _ rfl
  simp only [hs,List.map_cons,List.map_nil,e1,e2]
  rfl
 ·generalize henv:callEnvC fd s.heap.objs.size a=env at FF ⊢
  have e1:env.scope=fd.scope:=by rw [← henv];rfl
  have e4:env.cells=[(("inner" : Str),s.heap.objs.size+3),(("n" : Str),s.heap.objs.size+2),(("digits" : Str),s.heap.objs.size+1)]:=by
   have:env.cells=cellsFrom (s.heap.objs.size+1) fd.scope.names []:=by rw [← henv];rfl
   rw [this,hs];rfl
  have e5:env.code=.ref t.c:=by rw [← hcode,← henv];rfl
  have e6:env.qual=fd.qualname ++ ".<locals>.":=by rw [← henv];rfl
  generalize hcd:s.heap.objs.size+1=cd at e4
  generalize hci:s.heap.objs.size+3=ci at e4
  generalize hcn:s.heap.objs.size+2=cn at e4
  have hne:cd≠ci∧ci≠cn∧cd≠cn:=by rw [← hcd,← hci,← hcn];refine ⟨?_, ?_, ?_⟩ <;> (intro h;have h:(_:Nat)=_:=h;omega)
  have I1:=FF.inv
  have hfn:=I1.envr.fn
  have kd:∀ y,env.kindOf y=d2iNames.lookup y:=fun y=>by show env.scope.names.lookup y=_;rw [e1,hs]
  have hI:=zxb hout
  clear hout
  cases hI
  rename_i nmI params ib' sc bnd ipos ts y1 np1 a1 cp1 z0 iep rp2 hout
  ·refine zhd hout fun ha hb hc=>zhd ha fun b3 b4 b5=>zmc hb fun b6 b7 b8 b9 b10 b11=>zyz hc fun b12 b13 b14 b15 b16=>?_
   obtain rfl:=bqp b3
   obtain rfl:=bqp b4
   obtain rfl:=of_decide_eq_true b11
   obtain rfl:=bqp b14
   have b6:=of_decide_eq_true b6
   have b7:=of_decide_eq_true b7
   have b8:=zjb b8
   have b9:=zjb b9
   have b10:=Option.isNone_iff_eq_none.mp b10
   have X:CxOK G (A.deeper env) S0 ⟨G.names,d2iNames,[]⟩ env noOwn:=⟨rfl,by rw [e1,hs],fun n=>by simp,hfn,fun0,ygp,hh,by show A.units+3+100<cLine;omega⟩
   have hlk1:env.cells.lookup ("digits" : Str)=some cd:=by rw [e4];rfl
   have hlk2:env.cells.lookup ("inner" : Str)=some ci:=by rw [e4];rfl
   have hlk3:env.cells.lookup ("n" : Str)=some cn:=by rw [e4];rfl
   have hfi:=hM ci (FF.mc _ _ hlk2)
   rw [arm_execs_cons]
   obtain ⟨d1,d2,d3⟩:=zpe b5 env
   refine wpAny_bind (yjg ok T I1.base ht e5 (by unfold qualnameIn;rw [kd,e6];exact hq) (zsb b6 hlk1 hlk2 hlk3) (by nofun) I1.envr.gl b8 b9 b7 b10 d1 d2 d3 (fun f fd' s6 x6 hf6 N6 hpar hscq hdf hkw=>?_) I1.pos)
   have I6:=I1.ext x6
   refine zns (n:=1) I6 (nm 1 _ rfl) ((kd _).trans rfl) hlk2 (by rfl) fun h7 c7 x7 I7=>?_
   show wpAny _ _ (execs _ env) _ _ _
   have xall:Ext G s { s6 with heap:=h7 }:=((X1.trans x6).sext.trans x7).ext fun b m=>by rw [msp m];exact hfi
   have C7:JClo G h7 f cd ci cn ns nb fd' ib':=by
    obtain ⟨c',v,p1,p2,p3⟩:=I7.envr.cl 10 ("digits" : Str) (.list (ns.map nint)) (nm 10 _ rfl) (.inl ((kd _).trans rfl)) rfl
    rw [hlk1] at p1;obtain rfl:=soi p1
    obtain ⟨c',vn,q1,q2,q3⟩:=I7.envr.cl 2 ("n" : Str) (nint nb) (nm 2 _ rfl) (.inl ((kd _).trans rfl)) rfl
    rw [hlk3] at q1;obtain rfl:=soi q1
    rw [zex] at p3 q3
    obtain ⟨tn,rfl⟩:=q3.int_inv
    refine ⟨N6.keepBut x7.keep fun b m o e=>?_,⟨v,p2,p3.sub fun a m=>?_⟩,c7,tn,q2⟩
    ·rcases msp m with rfl
     obtain ⟨c',v',p1,p2⟩:=I6.envr.ce ("inner" : Str) (.inl ((kd _).trans rfl))
     rw [hlk2] at p1;obtain rfl:=soi p1
     obtain ⟨o',p3,p4⟩:=p2
     rw [p3] at e;obtain rfl:=soi e
     exact ⟨fun fd h=>(by rw [p4] at h;cases h),fun vs h=>(by rw [p4] at h;cases h)⟩
    ·simp only [List.mem_cons,List.not_mem_nil,or_false] at m
     rcases m with rfl | rfl | rfl
     ·exact (I7.envr.cin _ _ hlk1).1
     ·exact (I7.envr.cin _ _ hlk2).1
     ·exact (I7.envr.cin _ _ hlk3).1
   have hci0:=(I7.envr.cin _ _ hlk2).2
   have hcd0:=(I7.envr.cin _ _ hlk1).2
   have hcn0:=(I7.envr.cin _ _ hlk3).2
   rw [arm_execs_cons]
   refine wpAny_bind ?_
   rw [arm_exec_Return]
   refine wpAny_bind (wpAny_standAt (wpAny_bind (wpAny_IfExp ((zap (.var 10) X b13).2 (!ns.isEmpty) ?_ _ I7 _ _ fun s8 x8=>?_))))
   ·show some (!(ns.map nint).isEmpty)=_
    cases ns <;> rfl
   have C8:=C7.keep x8.keep
   have I8:=I7.ext x8
   cases hns:ns with
   | nil =>
    show wpAny _ _ (eval z0 env) _ _ _
    refine (zap (.lit (.int 0)) X b16).1 (nint 0) rfl s8 I8 _ _ fun v s9 x9 r9=>wpAny_pure (wpAny_pure (q _ _ ((xall.trans x8).trans x9) ?_))
    obtain ⟨tv,rfl⟩:=r9.int_inv
    subst hns
    exact .int
   | cons d0 dr =>
    show wpAny _ _ (eval (.Call (.Name ("inner" : Str) np1) a1 [] cp1) env) _ _ _
    have es:=zbe (O:=O) (ρ:=zbl [] [10,2] [.list (ns.map nint),nint nb]) _ X b15
    obtain ⟨fo,hfo,hfd⟩:=C8.N.at'
    refine zih (ci:=ci) (f:=f) I8 (.inr ((kd _).trans rfl)) hlk2 C8.i rfl rfl ⟨fo,_,hfo,hfd⟩ es.ns (es.el [nint 0,nint ns.length] ?_) fun s9 vs9 x9 r9=>?_
    ·refine zab rfl (zab ?_ rfl)
     show some (PyData.int (ns.map nint).length)=_
     simp
    ·have C9:=C8.keep x9.keep
     refine zzu ok nm b12 (by rw [hscq];exact b6) (fun a b=>zir (by rw [hpar];exact b5) (by decide) hdf rfl) ⟨hcd0,hci0,hcn0⟩ hne hnb hdg 24 (A:=A.deeper env) hh (by show A.depth+1+24<_;omega) (by show A.units+3+3*(24+1)+100<_;omega) x9.base x9.pos C9 (IV.of (ns:=[0,ns.length]) r9) (by rw [hns];simp) (Nat.le_refl _) (by simpa using hK2) hsz _ _ fun s10 t10 x10=>?_
     refine wpAny_pure (wpAny_pure (q _ _ (((xall.trans x8).trans x9).trans x10) ?_))
     rw [List.drop_zero,Nat.sub_zero,List.take_length,hns]
     exact .int
end
end Internal
namespace Internal
section
variable {G:GC}
structure FunAt (G:GC) (cal:Nat→List D→Option D) (K U:Nat):Prop where
 go:∀ A:Around,A.handled=none→A.depth+K<recursionLimit→A.units+U<cLine→FunOK G A cal
noncomputable def put (cal:Nat→List D→Option D) (n:Nat) (cf:List D→Option D):Nat→List D→Option D:=fun m ds=>if m=n then cf ds else cal m ds
theorem FunAt.add {cal:Nat→List D→Option D} {K U n:Nat} {x:Str} {f:Fn} {fd:FuncData} {body:List Stmt} {xs:List Str} {a:Addr} {cf:List D→Option D} {gl:Nat→Option D} (ok:GOK G) (h:FunAt G cal K U) (hU:103≤U) (hn:G.names[n]?=some x) (hm:G.mg x=some (.ref a))
  (Df:DefOK G a fd body xs) (hf:fnOK G.names f fd body xs=true) (hg:zhf G gl) (hc:∀ ds d,cf ds=some d→zbb ⟨cal,gl,false⟩ f ds=some d):FunAt G (put cal n cf) (K+1) (U+3):=⟨fun A hh hr hu=>⟨fun m y ds d hy hcal=>by
 unfold put at hcal
 split at hcal
 ·rename_i e
  subst e
  rw [hn] at hy;obtain rfl:=soi hy
  obtain ⟨o,ho,hd⟩:=Df.at'
  exact ⟨a,o,fd,hm,ho,hd,fun O s vs B p ov r=>zuw (S:=⟨cal,gl,false⟩) ok hh (by omega) (by omega) B p ov r Df hf (fun env=>h.go _ hh (by show A.depth+1+K<_;omega) (by show A.units+3+U<_;omega)) hg (hc ds d hcal)⟩
 ·exact (h.go A hh (by omega) (by omega)).go m y ds d hy hcal⟩⟩
noncomputable def zer (x nb:Nat):Nat:=(ib (x:Int)+nb-1) / nb
noncomputable def zlg (ds:List D):Option D:=i2 ds fun x nb=>if 0≤x∧0<nb∧nb≤2^26∧nb.toNat*zer x.toNat nb.toNat≤2^26∧zer x.toNat nb.toNat≤2^24 then some (.list ((digs nb.toNat x.toNat (zer x.toNat nb.toNat)).map nint)) else none
noncomputable def zxq:List D→Option (List Nat)
 | []=>some []
 | d::r=>oInt d fun n=>if 0≤n then (zxq r).map (n.toNat :: ·) else none
theorem ycb:∀ {xs:List D} {ns:List Nat},zxq xs=some ns→xs=ns.map nint
 | [],ns,h=>by obtain rfl:=soi h;rfl
 | d::r,ns,h=>by
  obtain ⟨n,rfl,g⟩:=zas h
  by_cases c:0≤n
  ·rw [if_pos c] at g
   obtain ⟨ms,h1,rfl⟩:=Option.map_eq_some_iff.mp g
   rw [List.map_cons,ycb h1,nint,Int.toNat_of_nonneg c]
  ·rw [if_neg c] at g;exact nn g
theorem zvq:∀ ns:List Nat,zxq (ns.map nint)=some ns
 | []=>rfl
 | n::ns=>by
  show (if 0≤(n:Int) then (zxq (ns.map nint)).map ((n:Int).toNat :: ·) else none)=_
  rw [if_pos (by omega),zvq ns]
  simp
noncomputable def zkr (ds:List D):Option D:=d2 ds fun xs nb=>oLst xs fun xs=>oInt nb fun nb=>(zxq xs).bind fun ns=>if 0<nb∧nb.toNat*ns.length≤2^26∧ns.length≤2^24∧ns.all (fun d=>decide (d<2^nb.toNat)) then some (nint (und nb.toNat ns)) else none
theorem yfh (ok:GOK G) (T:TabsOK G) (nm:∀ (i:Nat) (x:Str),zlp[i]?=some x→G.names[i]?=some x) {n1 n2:Nat} {x1 x2:Str} {t1 t2:Tab} {a1 a2:Addr} {fd1 fd2:FuncData} {body1 body2:List Stmt} (hne:n1≠n2)
  (hn1:G.names[n1]?=some x1) (hn2:G.names[n2]?=some x2) (hm1:G.mg x1=some (.ref a1)) (hm2:G.mg x2=some (.ref a2)) (ht1:t1∈G.tabs) (ht2:t2∈G.tabs)
  (D1:DefOK G a1 fd1 body1 ["a", "n"]) (D2:DefOK G a2 fd2 body2 ["digits", "n"]) (ho1:zve ⟨G.names,i2dNames,[]⟩ t1 body1=true) (ho2:zub ⟨G.names,d2iNames,[]⟩ t2 body2=true)
  (hs1:fd1.scope.names=i2dNames) (hs2:fd2.scope.names=d2iNames) (hc1:fd1.code=.ref t1.c) (hc2:fd2.code=.ref t2.c) (hq1:fd1.qualname ++ ".<locals>." ++ ("inner" : Str)=t1.qual) (hq2:fd2.qualname ++ ".<locals>." ++ ("inner" : Str)=t2.qual) :
  FunAt G (put (put (fun _ _=>none) n1 zlg) n2 zkr) 30 200:=⟨fun A hh hr hu=>⟨fun m y ds d hy hcal=>by
 unfold put at hcal
 split at hcal
 ·rename_i e
  subst e
  rw [hn2] at hy;obtain rfl:=soi hy
  obtain ⟨o,ho,hd⟩:=D2.at'
  refine ⟨a2,o,fd2,hm2,ho,hd,fun O s vs B p ov r=>?_⟩
  obtain ⟨xs,nb,rfl,hcal⟩:=zua hcal
  obtain ⟨xs,rfl,hcal⟩:=zgy hcal
  obtain ⟨nb,rfl,hcal⟩:=zas hcal
  obtain ⟨ns,hns,hcal⟩:=Option.bind_eq_some_iff.mp hcal
  obtain ⟨⟨c1,c2,c3,c4⟩,rfl⟩:=zfo hcal
  ···obtain ⟨nb',rfl⟩:=Int.eq_ofNat_of_zero_le (Int.le_of_lt c1)
     have:=ycb hns
     subst this
     exact zzv ok T nm ht2 D2 ho2 hs2 hc2 hq2 hh hr hu B p ov r (by omega) (by simpa using c2) c3 (fun d hd=>by simpa using latp c4 d hd)
 ·split at hcal
  ·rename_i e
   subst e
   rw [hn1] at hy;obtain rfl:=soi hy
   obtain ⟨o,ho,hd⟩:=D1.at'
   refine ⟨a1,o,fd1,hm1,ho,hd,fun O s vs B p ov r=>?_⟩
   obtain ⟨x,nb,rfl,hcal⟩:=zqc hcal
   obtain ⟨⟨c0,c1,c2,c3,c4⟩,rfl⟩:=zfo hcal
   ··obtain ⟨nb',rfl⟩:=Int.eq_ofNat_of_zero_le (Int.le_of_lt c1)
     obtain ⟨x',rfl⟩:=Int.eq_ofNat_of_zero_le c0
     exact ybb ok T nm ht1 D1 ho1 hs1 hc1 hq1 hh hr hu B p ov r (by omega) (by omega) rfl (by simpa using c3) (by simpa using c4)
  ·exact nn hcal⟩⟩
end
end Internal
namespace Internal
section
variable {p prog:Program} {loose:List Str} {mean:ExcName→Option Value} {w:World} {h:Heap} {mg mb:Str→Option Value} {c1 P1 c2 P2:Addr} {pos1 pos2:Pos} {nm:List Str}
noncomputable def gcOf (prog:Program) (w:World) (h:Heap) (mg mb:Str→Option Value) (c1 P1 c2 P2:Addr) (pos1 pos2:Pos) (nm:List Str):GC :=
 ⟨prog,w,ghostOf h [(c1,P1),(c2,P2)],mg,mb,[⟨c1,P1,pos1, "_int2digits.<locals>.inner"⟩,⟨c2,P2,pos2, "_digits2int.<locals>.inner"⟩],nm⟩
theorem ysq (T:Top p loose mean mg mb h) (hT:TabsAt [(c1,P1),(c2,P2)] h) (hnd:nm.Nodup) (hnb:∀ x∈bltNames,mg x=none):GOK (gcOf prog w h mg mb c1 P1 c2 P2 pos1 pos2 nm):=by
 obtain ⟨bm,ob,b1,b2,b3,b4,b5,b6⟩:=T.bmain
 refine ⟨ghost_ns hT T.g,ghost_ns hT T.b,(ghost_top hT T).nolimit,hnd,hnb,T.builtins,bm,ob,b1,b2,fun q=>?_,ghost_get hT b3 (fun q=>by rw [q] at b4;cases b4),b4,b5,b6⟩
 obtain ⟨o,es,ep,e,d,_⟩:=T.g
 rw [← q,b3] at e;obtain rfl:=soi e
 rw [b6] at d;cases d
theorem ymf (hne:P1≠P2):TabsOK (gcOf prog w h mg mb c1 P1 c2 P2 pos1 pos2 nm):=by
 refine ⟨fun t ht=>?_,fun t ht t' ht' e=>?_⟩
 ·have ht:t∈[(⟨c1,P1,pos1, "_int2digits.<locals>.inner"⟩:Tab),⟨c2,P2,pos2, "_digits2int.<locals>.inner"⟩]:=ht
  simp only [List.mem_cons,List.not_mem_nil,or_false] at ht
  rcases ht with rfl | rfl <;> exact hideAll_none _ (by simp)
 ·have ht:t∈[(⟨c1,P1,pos1, "_int2digits.<locals>.inner"⟩:Tab),⟨c2,P2,pos2, "_digits2int.<locals>.inner"⟩]:=ht
  have ht':t'∈[(⟨c1,P1,pos1, "_int2digits.<locals>.inner"⟩:Tab),⟨c2,P2,pos2, "_digits2int.<locals>.inner"⟩]:=ht'
  simp only [List.mem_cons,List.not_mem_nil,or_false] at ht ht'
  rcases ht with rfl | rfl <;> rcases ht' with rfl | rfl
  ·rfl
  ·exact absurd e hne
  ·exact absurd e.symm hne
  ·rfl
theorem ymd (hT:TabsAt [(c1,P1),(c2,P2)] h):Base (gcOf prog w h mg mb c1 P1 c2 P2 pos1 pos2 nm) h:=by
 refine ⟨fun b o e=>of_hideAll _ e,fun t ht=>?_⟩
 have ht:t∈[(⟨c1,P1,pos1, "_int2digits.<locals>.inner"⟩:Tab),⟨c2,P2,pos2, "_digits2int.<locals>.inner"⟩]:=ht
 simp only [List.mem_cons,List.not_mem_nil,or_false] at ht
 have h1:=hT (c1,P1) (by simp)
 have h2:=hT (c2,P2) (by simp)
 rcases ht with rfl | rfl
 ·exact ⟨h1.1,#[],h1.2,trivial, .inl rfl⟩
 ·exact ⟨h2.1,#[],h2.2,trivial, .inl rfl⟩
noncomputable def yhw (p:Program) (x:Str) (d:DefRec):Prop:=(recsOf p).find? (fun e=>e.name==x)=some d
noncomputable def zin (d:DefRec) (xs:List Str):Bool:=zdo d.params xs&&decide xs.Nodup&&!d.scope.isCoroutine&&!d.scope.isGenerator&&decide (d.scope.kind=.function)
theorem yax (T:Top p loose mean mg mb h) (hT:TabsAt [(c1,P1),(c2,P2)] h) {x:Str} {d:DefRec} {xs:List Str} (hd:yhw p x d) (hp:zin d xs=true) :
  ∃ a fd,mg x=some (.ref a)∧DefOK (gcOf prog w h mg mb c1 P1 c2 P2 pos1 pos2 nm) a fd d.body xs∧fd.scope=d.scope∧fd.qualname=x∧(∃ o,h.get? a=some o∧o.data=.func fd):=by
 have hn:d.name=x:=bqp (List.find?_some (p:=fun e:DefRec=>e.name==x) hd)
 obtain ⟨a,o,pm,code,doc,h1,h2,h3,h4⟩:=T.fn d (List.mem_of_find?_eq_some hd)
 simp only [zin,Bool.and_eq_true,Bool.not_eq_true',decide_eq_true_eq] at hp
 obtain ⟨⟨⟨⟨p1,p2⟩,p3⟩,p4⟩,p5⟩:=hp
 refine ⟨a,docDef d.name d.params d.body d.scope pm code doc,hn▸h1,⟨⟨o,ghost_get hT h2 (fun q=>by rw [q] at h3;cases h3),h3⟩, ?_,rfl,rfl,rfl,rfl,fun vals hl=>zir p1 p2 rfl hl,p3,p4,p5⟩,rfl,hn,o,h2,h3⟩
 obtain ⟨c,oc,vs,t,e1,e2,e3,e4⟩:=h4
 refine ⟨c,oc,vs,t,e1,ghost_get hT e2 (fun q=>?_),e3,e4⟩
 rw [q] at e3
 cases e3
 simp at e4
theorem yme (T:Top p loose mean mg mb h) {gl:Nat→Option D} (hg:∀ n x d,nm[n]?=some x→gl n=some d→valOf p x=some d∧sok d=true):zhf (gcOf prog w h mg mb c1 P1 c2 P2 pos1 pos2 nm) gl:=fun n x d hn hd=>by
 obtain ⟨h1,h2⟩:=hg n x d hn hd
 obtain ⟨v,e,r⟩:=T.const x d h1
 exact ⟨v,e,fun O h'=>⟨[],r h',⟨fun a m=>(by cases m),h2⟩⟩⟩
theorem gc_end {cw:ClaimW} {cl:Str→Option Addr} {args:List WData} {s₁ s':Shared} {v:Value} (hT:TabsAt [(c1,P1),(c2,P2)] s₁.heap) (X:Ext (gcOf prog w s₁.heap mg mb c1 P1 c2 P2 pos1 pos2 nm) s₁ s') (r:VRep w [] s'.heap v (.bool true)) (hg:s₁.gens=#[])
  (hr:∀ a x,cw.raises a x=false) (hp:cw.post args (.bool true) args=true):GoodWG cw cl mean args s₁ (.ok (.ret v)) s':=by
 obtain rfl:=r.bool_inv
 obtain ⟨h',tk,rfl⟩:=X.same
 have keep:∀ b o,b≠P1→b≠P2→s₁.heap.get? b=some o→h'.get? b=some o:=fun b o n1 n2 e=>X.base.keep b o (ghost_ne e (by simp;exact ⟨n1,n2⟩))
 have tabs:∀ b,(b=P1∨b=P2)→isCodeTable s₁.heap b∧s₁.heap.get? b=some (tabObj #[])∧∃ ps,h'.get? b=some (tabObj ps):=fun b hb=>by
  have h1:=hT (c1,P1) (by simp)
  have h2:=hT (c2,P2) (by simp)
  have m1:=X.base.memo ⟨c1,P1,pos1, "_int2digits.<locals>.inner"⟩ (by show _∈[_,_];simp)
  have m2:=X.base.memo ⟨c2,P2,pos2, "_digits2int.<locals>.inner"⟩ (by show _∈[_,_];simp)
  rcases hb with rfl | rfl
  ·obtain ⟨_,ps,e,_⟩:=m1
   exact ⟨(h1.1.tab h1.2).isCodeTable,h1.2,ps,e⟩
  ·obtain ⟨_,ps,e,_⟩:=m2
   exact ⟨(h2.1.tab h2.2).isCodeTable,h2.2,ps,e⟩
 refine ⟨.inl ⟨.bool true, .bool true,[],rfl,fun cls=>hr _ _, .bool true,hp,fun _=>⟨.nil,fun a m=>by cases m⟩⟩,⟨fun b o e=>?_,fun b o e=>?_⟩,rfl, .of_eq hg⟩
 ·by_cases hb:b=P1∨b=P2
  ·obtain ⟨t1,t2,ps,t3⟩:=tabs b hb
   rw [t2] at e;obtain rfl:=soi e
   exact .inr (.inl ⟨t1,rfl,#[],ps,rfl,by rw [Array.empty_append];exact t3⟩)
  ·exact .inl (keep b o (fun q=>hb (.inl q)) (fun q=>hb (.inr q)) e)
 ·by_cases hb:b=P1∨b=P2
  ·obtain ⟨t1,t2,ps,t3⟩:=tabs b hb
   exact ⟨_,t3⟩
  ·exact ⟨o,keep b o (fun q=>hb (.inl q)) (fun q=>hb (.inr q)) e⟩
end
end Internal
namespace Internal
noncomputable def topNames:List Str:=[("a_digits" : Str),("inner" : Str),("n" : Str),("x" : Str),("L" : Str),("R" : Str),("mid" : Str),("shift" : Str),("upper" : Str),("lower" : Str),("digits" : Str),("a" : Str),("_div2n1n" : Str),("r" : Str),("q1" : Str),("half_n" : Str),("q2" : Str),("pad" : Str),("_div3n2n" : Str),("b2" : Str),("b1" : Str),("b" : Str),("mask" : Str),("_DIV_LIMIT" : Str),("_divmod_pos" : Str),("q" : Str),("_digits2int" : Str),("q_digits" : Str),("a_digit" : Str),("q_digit" : Str),("_int2digits" : Str),("int_divmod" : Str),("_ellipsis_match" : Str),("w" : Str),("ws" : Str),("startpos" : Str),("got" : Str),("endpos" : Str),("want" : Str),("ELLIPSIS_MARKER" : Str),("_escape_cdata" : Str),("text" : Str),("_escape_attrib" : Str),("_escape_attrib_html" : Str),("_escape_cdata_c14n" : Str),("_escape_attrib_c14n" : Str),("_law_written" : Str),("kind" : Str),("_law_spelled" : Str),("names" : Str),("sign" : Str)]
noncomputable def zgt:Fn:=⟨[11,21,2],[],(.cons (.ifs (.cmp .LtE (.bin .Sub (.mt .bitlen (.var 11) .nil) (.var 2)) (.glob 23)) (.cons (.ret (.bf .divmod (.cons (.var 11) (.cons (.var 21) .nil)))) .nil) .nil) (.cons (.set 17 (.bin .BitAnd (.var 2) (.lit (.int 1)))) (.cons (.ifs (.var 17) (.cons (.aug 11 .LShift (.lit (.int 1))) (.cons (.aug 21 .LShift (.lit (.int 1))) (.cons (.aug 2 .Add (.lit (.int 1))) .nil))) .nil) (.cons (.set 15 (.bin .RShift (.var 2) (.lit (.int 1)))) (.cons (.set 22 (.bin .Sub (.bin .LShift (.lit (.int 1)) (.var 15)) (.lit (.int 1)))) (.cons (.unp [20,19] (.tup (.cons (.bin .RShift (.var 21) (.var 15)) (.cons (.bin .BitAnd (.var 21) (.var 22)) .nil)))) (.cons (.unp [14,13] (.call 18 (.cons (.bin .RShift (.var 11) (.var 2)) (.cons (.bin .BitAnd (.bin .RShift (.var 11) (.var 15)) (.var 22)) (.cons (.var 21) (.cons (.var 20) (.cons (.var 19) (.cons (.var 15) .nil)))))))) (.cons (.unp [16,13] (.call 18 (.cons (.var 13) (.cons (.bin .BitAnd (.var 11) (.var 22)) (.cons (.var 21) (.cons (.var 20) (.cons (.var 19) (.cons (.var 15) .nil)))))))) (.cons (.ifs (.var 17) (.cons (.aug 13 .RShift (.lit (.int 1))) .nil) .nil) (.cons (.ret (.tup (.cons (.bin .BitOr (.bin .LShift (.var 14) (.var 15)) (.var 16)) (.cons (.var 13) .nil)))) .nil))))))))))⟩
noncomputable def zen:Fn:=⟨[11,21],[27],(.cons (.set 2 (.mt .bitlen (.var 21) .nil)) (.cons (.set 0 (.call 30 (.cons (.var 11) (.cons (.var 2) .nil)))) (.cons (.set 13 (.lit (.int 0))) (.cons (.newO 27 .nil) (.cons (.loop [28] (.rev (.var 0)) (.cons (.unp [29,13] (.call 12 (.cons (.bin .Add (.bin .LShift (.var 13) (.var 2)) (.var 28)) (.cons (.var 21) (.cons (.var 2) .nil))))) (.cons (.app 27 (.var 29)) .nil))) (.cons (.rev 27) (.cons (.set 25 (.ocall 26 27 (.cons (.var 2) .nil))) (.cons (.ret (.tup (.cons (.var 25) (.cons (.var 13) .nil)))) .nil))))))))⟩
noncomputable def zbw:Fn:=⟨[11,21],[],(.cons (.ifs (.cmp .Eq (.var 21) (.lit (.int 0))) (.cons .hole .nil) (.cons (.ifs (.cmp .Lt (.var 21) (.lit (.int 0))) (.cons (.unp [25,13] (.call 31 (.cons (.neg (.var 11)) (.cons (.neg (.var 21)) .nil)))) (.cons (.ret (.tup (.cons (.var 25) (.cons (.neg (.var 13)) .nil)))) .nil)) (.cons (.ifs (.cmp .Lt (.var 11) (.lit (.int 0))) (.cons (.unp [25,13] (.call 31 (.cons (.inv (.var 11)) (.cons (.var 21) .nil)))) (.cons (.ret (.tup (.cons (.inv (.var 25)) (.cons (.bin .Add (.var 21) (.inv (.var 13))) .nil)))) .nil)) (.cons (.ret (.call 24 (.cons (.var 11) (.cons (.var 21) .nil)))) .nil)) .nil)) .nil)) .nil)⟩
noncomputable def zbn:Fn:=⟨[38,36],[34],(.cons (.ifs (.cmp .NotIn (.glob 39) (.var 38)) (.cons (.ret (.cmp .Eq (.var 38) (.var 36))) .nil) .nil) (.cons (.splitO 34 (.var 38) (.glob 39)) (.cons (.assert (.cmp .GtE (.olen 34) (.lit (.int 2)))) (.cons (.unp [35,37] (.tup (.cons (.lit (.int 0)) (.cons (.bf .len (.cons (.var 36) .nil)) .nil)))) (.cons (.set 33 (.oget 34 (.lit (.int 0)))) (.cons (.ifs (.var 33) (.cons (.ifs (.mt .startswith (.var 36) (.cons (.var 33) .nil)) (.cons (.set 35 (.bf .len (.cons (.var 33) .nil))) (.cons (.del 34 (0)) .nil)) (.cons (.ret (.lit (.bool false))) .nil)) .nil) .nil) (.cons (.set 33 (.oget 34 (.neg (.lit (.int 1))))) (.cons (.ifs (.var 33) (.cons (.ifs (.mt .endswith (.var 36) (.cons (.var 33) .nil)) (.cons (.aug 37 .Sub (.bf .len (.cons (.var 33) .nil))) (.cons (.del 34 (-1)) .nil)) (.cons (.ret (.lit (.bool false))) .nil)) .nil) .nil) (.cons (.ifs (.cmp .Gt (.var 35) (.var 37)) (.cons (.ret (.lit (.bool false))) .nil) .nil) (.cons (.loop [33] (.own 34) (.cons (.set 35 (.mt .find3 (.var 36) (.cons (.var 33) (.cons (.var 35) (.cons (.var 37) .nil))))) (.cons (.ifs (.cmp .Lt (.var 35) (.lit (.int 0))) (.cons (.ret (.lit (.bool false))) .nil) .nil) (.cons (.aug 35 .Add (.bf .len (.cons (.var 33) .nil))) .nil)))) (.cons (.ret (.lit (.bool true))) .nil)))))))))))⟩
noncomputable def zcr:Fn:=⟨[41],[],(.cons (.tryE (.cons (.ifs (.cmp .In (.lit (.str "&")) (.var 41)) (.cons (.set 41 (.repl (.var 41) "&" "&amp;")) .nil) .nil) (.cons (.ifs (.cmp .In (.lit (.str "<")) (.var 41)) (.cons (.set 41 (.repl (.var 41) "<" "&lt;")) .nil) .nil) (.cons (.ifs (.cmp .In (.lit (.str ">")) (.var 41)) (.cons (.set 41 (.repl (.var 41) ">" "&gt;")) .nil) .nil) (.cons (.ret (.var 41)) .nil))))) .nil)⟩
noncomputable def zcm:Fn:=⟨[41],[],(.cons (.tryE (.cons (.ifs (.cmp .In (.lit (.str "&")) (.var 41)) (.cons (.set 41 (.repl (.var 41) "&" "&amp;")) .nil) .nil) (.cons (.ifs (.cmp .In (.lit (.str "<")) (.var 41)) (.cons (.set 41 (.repl (.var 41) "<" "&lt;")) .nil) .nil) (.cons (.ifs (.cmp .In (.lit (.str ">")) (.var 41)) (.cons (.set 41 (.repl (.var 41) ">" "&gt;")) .nil) .nil) (.cons (.ifs (.cmp .In (.lit (.str "\"")) (.var 41)) (.cons (.set 41 (.repl (.var 41) "\"" "&quot;")) .nil) .nil) (.cons (.ifs (.cmp .In (.lit (.str "\r")) (.var 41)) (.cons (.set 41 (.repl (.var 41) "\r" "&#13;")) .nil) .nil) (.cons (.ifs (.cmp .In (.lit (.str "\n")) (.var 41)) (.cons (.set 41 (.repl (.var 41) "\n" "&#10;")) .nil) .nil) (.cons (.ifs (.cmp .In (.lit (.str "\t")) (.var 41)) (.cons (.set 41 (.repl (.var 41) "\t" "&#09;")) .nil) .nil) (.cons (.ret (.var 41)) .nil))))))))) .nil)⟩
noncomputable def zbk:Fn:=⟨[41],[],(.cons (.tryE (.cons (.ifs (.cmp .In (.lit (.str "&")) (.var 41)) (.cons (.set 41 (.repl (.var 41) "&" "&amp;")) .nil) .nil) (.cons (.ifs (.cmp .In (.lit (.str ">")) (.var 41)) (.cons (.set 41 (.repl (.var 41) ">" "&gt;")) .nil) .nil) (.cons (.ifs (.cmp .In (.lit (.str "\"")) (.var 41)) (.cons (.set 41 (.repl (.var 41) "\"" "&quot;")) .nil) .nil) (.cons (.ret (.var 41)) .nil))))) .nil)⟩
noncomputable def zbo:Fn:=⟨[41],[],(.cons (.tryE (.cons (.ifs (.cmp .In (.lit (.str "&")) (.var 41)) (.cons (.set 41 (.repl (.var 41) "&" "&amp;")) .nil) .nil) (.cons (.ifs (.cmp .In (.lit (.str "<")) (.var 41)) (.cons (.set 41 (.repl (.var 41) "<" "&lt;")) .nil) .nil) (.cons (.ifs (.cmp .In (.lit (.str ">")) (.var 41)) (.cons (.set 41 (.repl (.var 41) ">" "&gt;")) .nil) .nil) (.cons (.ifs (.cmp .In (.lit (.str "\r")) (.var 41)) (.cons (.set 41 (.repl (.var 41) "\r" "&#xD;")) .nil) .nil) (.cons (.ret (.var 41)) .nil)))))) .nil)⟩
noncomputable def zbj:Fn:=⟨[41],[],(.cons (.tryE (.cons (.ifs (.cmp .In (.lit (.str "&")) (.var 41)) (.cons (.set 41 (.repl (.var 41) "&" "&amp;")) .nil) .nil) (.cons (.ifs (.cmp .In (.lit (.str "<")) (.var 41)) (.cons (.set 41 (.repl (.var 41) "<" "&lt;")) .nil) .nil) (.cons (.ifs (.cmp .In (.lit (.str "\"")) (.var 41)) (.cons (.set 41 (.repl (.var 41) "\"" "&quot;")) .nil) .nil) (.cons (.ifs (.cmp .In (.lit (.str "\t")) (.var 41)) (.cons (.set 41 (.repl (.var 41) "\t" "&#x9;")) .nil) .nil) (.cons (.ifs (.cmp .In (.lit (.str "\n")) (.var 41)) (.cons (.set 41 (.repl (.var 41) "\n" "&#xA;")) .nil) .nil) (.cons (.ifs (.cmp .In (.lit (.str "\r")) (.var 41)) (.cons (.set 41 (.repl (.var 41) "\r" "&#xD;")) .nil) .nil) (.cons (.ret (.var 41)) .nil)))))))) .nil)⟩
noncomputable def zce:Fn:=⟨[47,41],[],(.cons (.ifs (.cmp .Lt (.var 47) (.lit (.int 2))) (.cons (.ret (.ite (.cmp .Eq (.var 47) (.lit (.int 0))) (.call 40 (.cons (.var 41) .nil)) (.call 42 (.cons (.var 41) .nil)))) .nil) .nil) (.cons (.ifs (.cmp .Lt (.var 47) (.lit (.int 4))) (.cons (.ret (.ite (.cmp .Eq (.var 47) (.lit (.int 2))) (.call 43 (.cons (.var 41) .nil)) (.call 44 (.cons (.var 41) .nil)))) .nil) .nil) (.cons (.ret (.call 45 (.cons (.var 41) .nil))) .nil)))⟩
noncomputable def zcx : Fn := ⟨[47, 41], [], (.cons (.set 49 (.sub (.list (.cons (.dict [("&", "&amp;"), ("<", "&lt;"), (">", "&gt;")]) (.cons (.dict [("&", "&amp;"), ("<", "&lt;"), (">", "&gt;"), ("\"", "&quot;"), ("\r", "&#13;"), ("\n", "&#10;"), ("\t", "&#09;")]) (.cons (.dict [("&", "&amp;"), (">", "&gt;"), ("\"", "&quot;")]) (.cons (.dict [("&", "&amp;"), ("<", "&lt;"), (">", "&gt;"), ("\r", "&#xD;")]) (.cons (.dict [("&", "&amp;"), ("<", "&lt;"), ("\"", "&quot;"), ("\r", "&#xD;"), ("\n", "&#xA;"), ("\t", "&#x9;")]) .nil)))))) (.var 47))) (.cons (.ret (.mt .join (.lit (.str "")) (.cons (.comp (.mt .get (.var 49) (.cons (.var 50) (.cons (.var 50) .nil))) (.cons [50] (.e (.var 41)) .nil .nil)) .nil))) .nil))⟩
noncomputable def topGl:Nat→Option D
 | 23=>some (.int 4000)
 | 39=>some (.str "...")
 | _=>none
noncomputable def zxz (p:Program) (x:Str):Option DefRec:=(recsOf p).find? (·.name==x)
noncomputable def zep (nm:List Str) (p:Program) (x:Str) (f:Fn) (xs:List Str):Bool:=match zxz p x with
 | some d=>fnOK nm f (docDef d.name d.params d.body d.scope .none .none .none) d.body xs&&zin d xs
 | none=>false
end Internal
section
namespace Internal
open PySem.StrLaws PySem.Builtin.Str
noncomputable def zji (c:Nat) (z:List Nat) (l:List Nat):List Nat:=l.flatMap fun k=>if k=c then z else [k]
theorem zju (c:Nat) (z a b:List Nat):zji c z (a++b)=zji c z a++zji c z b:=by simp [zji]
theorem zfh {c:Nat} {z:List Nat}:∀ {l:List Nat},c∉l→zji c z l=l
 | [],_=>rfl
 | k::r,h=>by
  have h1:¬ k=c:=fun e=>h (e▸mch)
  have:=zfh (z:=z) fun m=>h (mct _ m)
  unfold zji at this ⊢
  rw [List.flatMap_cons,if_neg h1,this];rfl
theorem zng (c:Nat) (z:List Nat):∀ parts:List Str,(∀ p∈parts,c∉p.cps.toList)→zji c z (Str.join ⟨#[c]⟩ parts).cps.toList=(Str.join ⟨z.toArray⟩ parts).cps.toList
 | [],_=>rfl
 | [p],h=>zfh (h p (List.mem_singleton.mpr rfl))
 | p::q::r,h=>by
  have ih:=zng c z (q::r) fun a ha=>h a (mct _ ha)
  show zji c z (p++⟨#[c]⟩++Str.join ⟨#[c]⟩ (q::r)).cps.toList=(p++⟨z.toArray⟩++Str.join ⟨z.toArray⟩ (q::r)).cps.toList
  simp only [Str.cps_append,Array.toList_append]
  rw [zju,zju,ih,zfh (h p mch)]
  show p.cps.toList++zji c z [c]++_=_
  simp [zji]
theorem zrd (x z:Str) (c:Nat):(Txt.replace x ⟨#[c]⟩ z).cps.toList=zji c z.cps.toList x.cps.toList:=by
 have:z=⟨z.cps.toList.toArray⟩:=Str.ext' (by simp)
 rw [replace_one,this,← zng c _ _ (split_free x c),join_split]
theorem Str.of_list {x y:Str} (h:x.cps.toList=y.cps.toList):x=y:=Str.ext' (Array.toList_inj.mp h)
theorem zlx (x y:Str):Txt.startswith x y=y.cps.toList.isPrefixOf x.cps.toList:=by
 unfold Txt.startswith
 rw [subAt_eq,List.drop_zero,Bool.eq_iff_iff,Bool.and_eq_true,decide_eq_true_eq,beq_iff_eq,List.isPrefixOf_iff_prefix,List.prefix_iff_eq_take]
 have e1:y.length=y.cps.toList.length:=by simp [Str.length]
 have e2:x.length=x.cps.toList.length:=by simp [Str.length]
 rw [e1,e2]
 constructor
 ·intro h;exact h.2.symm
 ·intro h
  refine ⟨?_,h.symm⟩
  have:=congrArg List.length h
  rw [List.length_take] at this
  omega
theorem zpt (x y:Str):Txt.endswith x y=y.cps.toList.isSuffixOf x.cps.toList:=by
 unfold Txt.endswith
 rw [subAt_eq,Bool.eq_iff_iff,Bool.and_eq_true,decide_eq_true_eq,beq_iff_eq,List.isSuffixOf_iff_suffix,List.suffix_iff_eq_drop]
 have e1:y.length=y.cps.toList.length:=by simp [Str.length]
 have e2:x.length=x.cps.toList.length:=by simp [Str.length]
 rw [e1,e2]
 constructor
 ·rintro ⟨h1,h2⟩
  rw [List.take_of_length_le (by rw [List.length_drop];exact Nat.le_of_eq (Nat.sub_sub_self (Nat.le_trans (Nat.le_of_eq (Nat.zero_add _).symm) h1)))] at h2
  exact h2.symm
 ·intro h
  have hl:=congrArg List.length h
  rw [List.length_drop] at hl
  refine ⟨Nat.le_trans (Nat.le_of_eq ((Nat.zero_add _).trans hl)) (Nat.sub_le _ _), ?_⟩
  rw [List.take_of_length_le (by rw [List.length_drop];exact Nat.le_of_eq hl.symm)]
  exact h.symm
theorem zhx {x y:Str} {hi:Nat}:∀ {a:Nat} {c1 c2:List Nat} {f1 f2:Nat},ChainG x y hi a c1 f1→ChainG x y hi a c2 f2→(∀ k,f1≤k→¬ At x y hi k)→(∀ k,f2≤k→¬ At x y hi k)→c1=c2
 | a,[],[],_,_,_,_,_,_=>rfl
 | a,[],c::r,f1,f2,h1,h2,n1,_=>by
  have e:f1=a:=h1
  exact absurd h2.2.1 (n1 c (e▸h2.1))
 | a,c::r,[],f1,f2,h1,h2,_,n2=>by
  have e:f2=a:=h2
  exact absurd h1.2.1 (n2 c (e▸h1.1))
 | a,c::r,d::q,f1,f2,h1,h2,n1,n2=>by
  have e:c=d:=by
   rcases Nat.lt_trichotomy c d with h | h | h
   ·exact absurd h1.2.1 (h2.2.2.1 c h1.1 h)
   ·exact h
   ·exact absurd h2.2.1 (h1.2.2.1 d h2.1 h)
  subst e
  rw [zhx h1.2.2.2 h2.2.2.2 n1 n2]
noncomputable def dots:Str:="..."
theorem zkt:dots.cps.toList=[46,46,46]:=by decide
theorem zgw:dots.length=3:=by decide
noncomputable def dotJ:List (List Nat)→List Nat
 | []=>[]
 | [p]=>p
 | p::q::r=>p++[46,46,46]++dotJ (q::r)
noncomputable def zpq:Nat→List (List Nat)→List Nat
 | a,p::q::r=>(a+p.length)::zpq (a+p.length+3) (q::r)
 | _,_=>[]
theorem zrx {x:Str} {k:Nat} (h:At x dots x.length k):x.cps.toList[k]?=some 46:=by
 obtain ⟨h1,h2⟩:=h
 rw [subAt_eq,zgw,zkt,beq_iff_eq] at h2
 have:=congrArg (·[0]?) h2
 simpa [List.getElem?_take,List.getElem?_drop] using this
theorem zks {x:Str}:∀ {ps:List (List Nat)} {a:Nat},ps≠[]→(∀ p∈ps,46∉p)→x.cps.toList.drop a=dotJ ps→a≤x.cps.toList.length →
  (∃ f,ChainG x dots x.length a (zpq a ps) f∧∀ k,f≤k→¬ At x dots x.length k)∧(partsFrom x 3 a (zpq a ps)).map (·.cps.toList)=ps
 | [],_,h,_,_,_=>absurd rfl h
 | [p],a,_,hf,hd,ha=>by
  have hl:x.length=x.cps.toList.length:=by simp [Str.length]
  refine ⟨⟨a,rfl,fun k hk hA=>?_⟩, ?_⟩
  ·have h1:=zrx hA
   have:p[k-a]?=some 46:=by
    have e:p=x.cps.toList.drop a:=hd.symm
    rw [e,List.getElem?_drop,show a+(k-a)=k by omega];exact h1
   exact hf p (List.mem_singleton.mpr rfl) (List.mem_of_getElem? this)
  ·show [(strSub x a x.length).cps.toList]=[p]
   rw [strSub_toList,hd,List.take_of_length_le]
   ·rfl
   ·have e:=congrArg List.length hd
    rw [List.length_drop] at e
    show (dotJ [p]).length≤_
    rw [← e,hl];omega
 | p::q::r,a,_,hf,hd,ha=>by
  have hl:x.length=x.cps.toList.length:=by simp [Str.length]
  have hd':x.cps.toList.drop a=p++([46,46,46]++dotJ (q::r)):=by rw [hd];simp [dotJ]
  have hlen:=congrArg List.length hd'
  simp only [List.length_drop,List.length_append,List.length_cons,List.length_nil] at hlen
  have hd2:x.cps.toList.drop (a+p.length+3)=dotJ (q::r):=by
   rw [show a+p.length+3=a+(p.length+3) by omega,← List.drop_drop,hd',List.drop_append,List.drop_of_length_le (by omega),List.nil_append,show p.length+3-p.length=3 by omega]
   rfl
  obtain ⟨⟨f,c1,c2⟩,e⟩:=zks (x:=x) (ps:=q::r) (a:=a+p.length+3) (by simp) (fun s m=>hf s (mct _ m)) hd2 (by omega)
  have hA:At x dots x.length (a+p.length):=by
   refine ⟨by rw [zgw,hl];omega, ?_⟩
   rw [subAt_eq,zgw,zkt,beq_iff_eq,← List.drop_drop,hd',List.drop_append,List.drop_of_length_le (by omega),List.nil_append,Nat.sub_self]
   rfl
  refine ⟨⟨f,⟨Nat.le_add_right _ _,hA,fun k h1 h2 hB=>?_,by rw [zgw];exact c1⟩,c2⟩, ?_⟩
  ·have h3:=zrx hB
   have:p[k-a]?=some 46:=by
    have e:(x.cps.toList.drop a)[k-a]?=some 46:=by rw [List.getElem?_drop,show a+(k-a)=k by omega];exact h3
    rw [hd',List.getElem?_append_left (by omega)] at e
    exact e
   exact hf p mch (List.mem_of_getElem? this)
  ·show (strSub x a (a+p.length)).cps.toList::(partsFrom x 3 (a+p.length+3) (zpq (a+p.length+3) (q::r))).map (·.cps.toList)=_
   rw [e,strSub_toList,hd',show a+p.length-a=p.length by omega,List.take_left']
   rfl
theorem zyj {x:Str} {ps:List (List Nat)} (hx:x.cps.toList=dotJ ps) (hn:2≤ps.length) (hf:∀ p∈ps,46∉p):(Txt.split x dots).map (·.cps.toList)=ps:=by
 have hne:ps≠[]:=fun e=>by rw [e] at hn;simp at hn
 obtain ⟨⟨f,c1,c2⟩,e⟩:=zks (x:=x) (a:=0) hne hf (by simpa using hx) (Nat.zero_le _)
 obtain ⟨f',d1,d2⟩:=occ_tight x dots (by rw [zgw];omega)
 have ho:=zhx d1 c1 d2 c2
 rcases ps with ⟨⟩ | ⟨p,⟨⟩ | ⟨q,r⟩⟩
 ·exact absurd rfl hne
 ·exact absurd hn (by decide:¬ 2≤1)
 ·have hA:=c1.2.1
  have hl:=hA.1
  unfold Txt.split
  rw [if_neg (by
   simp only [Bool.or_eq_true,decide_eq_true_eq,not_or,Nat.not_lt]
   exact ⟨by omega,PySem.W.kind_le _ _ hA.2⟩),ho,if_neg (by simp [zpq]),partsBetween_eq,zgw]
  exact e
end Internal
end
namespace Internal
variable {S:Sig} {cal:Nat→List D→Option D} {gl:Nat→Option D} {rz:Bool}
theorem zad {ρ ρ':Rho} {s:St} {r:Sts} {o:Option Out} (h:ex S ρ s=some (.next ρ')) (h':exs S ρ' r=o):exs S ρ (.cons s r)=o:=by
 have e:exs S ρ (.cons s r)=match ex S ρ s with | some (.next ρ')=>exs S ρ' r | o=>o:=rfl
 rw [e,h];exact h'
theorem zal {ρ:Rho} {s:St} {r:Sts} {d:D} (h:ex S ρ s=some (.ret d)):exs S ρ (.cons s r)=some (.ret d):=by
 have e:exs S ρ (.cons s r)=match ex S ρ s with | some (.next ρ')=>exs S ρ' r | o=>o:=rfl
 rw [e,h]
theorem zbc {ρ:Rho} {c:E} {a b:Sts} {t:Bool} {o:Option Out} (h:evT S ρ c=some t) (h':(if t then exs S ρ a else exs S ρ b)=o):ex S ρ (.ifs c a b)=o:=bi h (by cases t <;> exact h')
theorem zao {ρ:Rho} {n:Nat} {e:E} {d:D} (h:ev S ρ e=some d):ex S ρ (.set n e)=some (.next (ρ.set n d)):=by
 have e':ex S ρ (.set n e)=(ev S ρ e).map fun d=>.next (Rho.set ρ n d):=rfl
 rw [e',h];rfl
theorem zbu {ρ:Rho} {e:E} {d:D} (h:ev S ρ e=some d):ex S ρ (.ret e)=some (.ret d):=by
 have e':ex S ρ (.ret e)=(ev S ρ e).map .ret:=rfl
 rw [e',h];rfl
theorem zcv {f:Fn} {ds:List D} {d:D} (hl:ds.length=f.params.length) (h:exs S (zbl [] f.params ds) f.body=some (.ret d)):zbb S f ds=some d:=by
 unfold zbb
 rw [if_pos hl,h]
noncomputable abbrev tx (l:List Nat):Str:=⟨l.toArray⟩
noncomputable abbrev dtx (l:List Nat):D:=.str (tx l)
noncomputable def escT (T:List (Nat × List Nat)) (k:Nat):List Nat:=(T.lookup k).getD [k]
noncomputable def escL (T:List (Nat × List Nat)) (l:List Nat):List Nat:=l.flatMap (escT T)
theorem zsj (T:List (Nat × List Nat)) (a b:List Nat):escL T (a++b)=escL T a++escL T b:=by simp [escL]
theorem ygd (l:List Nat):escL [] l=l:=by
 unfold escL escT
 simp
theorem zsy {T:List (Nat × List Nat)} {c k:Nat} {z:List Nat}:(T++[(c,z)]).lookup k=match T.lookup k with | some v=>some v | none=>if k=c then some z else none:=by
 induction T with
 | nil =>
  by_cases h:k=c
  ·subst h;simp
  ·have:(k==c)=false:=by simpa using h
   simp [List.lookup_cons,this,h]
 | cons p r ih =>
  obtain ⟨a,v⟩:=p
  rw [List.cons_append,List.lookup_cons,List.lookup_cons]
  cases k==a
  ·exact ih
  ·rfl
theorem zuk {T:List (Nat × List Nat)} {c:Nat} {z:List Nat} (h:∀ p∈T,c∉p.2) (l:List Nat):zji c z (escL T l)=escL (T++[(c,z)]) l:=by
 unfold escL zji
 rw [List.flatMap_assoc]
 congr 1
 funext k
 have e:escT (T++[(c,z)]) k=match T.lookup k with | some v=>v | none=>if k=c then z else [k]:=by
  unfold escT
  rw [zsy]
  cases T.lookup k with
  | some v=>rfl
  | none =>
   by_cases q:k=c
   ·simp [q]
   ·simp [q]
 rw [e]
 unfold escT
 cases q:T.lookup k with
 | none=>simp
 | some v =>
  have hm:(k,v)∈T:=by
   clear e h
   induction T with
   | nil=>exact nn q
   | cons p r ih =>
    obtain ⟨a,u⟩:=p
    rw [List.lookup_cons] at q
    cases hb:k==a with
    | true=>rw [hb] at q;obtain rfl:=soi q;rw [bqp hb];exact mch
    | false=>rw [hb] at q;exact mct _ (ih q)
  exact zfh (h _ hm)
noncomputable def okL (l:List Nat):Prop:=l.length≤100000∧∀ c∈l,c<55296
noncomputable def okT (T:List (Nat × List Nat)):Bool:=T.all fun p=>decide (p.2.length≤6)&&p.2.all fun c=>decide (c<55296)
theorem zsk {T:List (Nat × List Nat)} (hT:okT T=true) {k:Nat} (hk:k<55296):(escT T k).length≤6∧∀ c∈escT T k,c<55296:=by
 unfold escT
 cases q:T.lookup k with
 | none=>simp;exact hk
 | some v =>
  have hm:(k,v)∈T:=by
   clear hT
   induction T with
   | nil=>exact nn q
   | cons p r ih =>
    obtain ⟨a,u⟩:=p
    rw [List.lookup_cons] at q
    cases hb:k==a with
    | true=>rw [hb] at q;obtain rfl:=soi q;rw [bqp hb];exact mch
    | false=>rw [hb] at q;exact mct _ (ih q)
  have:=latp hT _ hm
  simp only [Bool.and_eq_true,decide_eq_true_eq,List.all_eq_true] at this
  exact this
theorem ziv {T:List (Nat × List Nat)} (hT:okT T=true):∀ {l:List Nat},(∀ c∈l,c<55296)→(escL T l).length≤6*l.length∧∀ c∈escL T l,c<55296
 | [],_=>⟨Nat.le_refl _,fun c m=>by cases m⟩
 | k::r,h=>by
  obtain ⟨h1,h2⟩:=ziv hT (l:=r) fun c m=>h c (mct _ m)
  obtain ⟨g1,g2⟩:=zsk hT (h k mch)
  have e:escL T (k::r)=escT T k++escL T r:=by simp [escL]
  rw [e]
  refine ⟨by rw [List.length_append,List.length_cons];omega,fun c m=>?_⟩
  rcases map2 m with m | m
  ·exact g2 c m
  ·exact h2 c m
theorem zjs {l:List Nat} (h1:l.length≤16777216) (h2:∀ c∈l,c<55296):sok (dtx l)=true:=by
 show (PyData.strOk (tx l)&&decide ((tx l).length≤16777216))=true
 rw [Bool.and_eq_true,decide_eq_true_eq]
 refine ⟨?_,by simpa [Str.length] using h1⟩
 show (tx l).cps.all (· < 0x110000)=true
 rw [Array.all_eq_true']
 intro c hc
 have:=h2 c (by simpa using hc)
 exact decide_eq_true (by omega)
theorem yge {ρ:Rho} {v c:Nat} {y z:Str} {T:List (Nat × List Nat)} {l:List Nat} (hy:y=⟨#[c]⟩) (hl:okL l) (hT:okT (T++[(c,z.cps.toList)])=true) (hf:∀ p∈T,c∉p.2) (hT0:okT T=true) (hg:ρ.get v=some (dtx (escL T l))) :
  ∃ ρ',ex S ρ (.ifs (.cmp .In (.lit (.str y)) (.var v)) (.cons (.set v (.repl (.var v) y z)) .nil) .nil)=some (.next ρ')∧ρ'.get v=some (dtx (escL (T++[(c,z.cps.toList)]) l)):=by
 subst hy
 have hlen:=ziv hT0 (l:=l) hl.2
 have hlen2:=ziv hT (l:=l) hl.2
 have ev1:evT S ρ (.cmp .In (.lit (.str ⟨#[c]⟩)) (.var v))=some (decide (c∈escL T l)):=by
  refine bi (x:=.bool (!(Builtin.Str.occurrences (tx (escL T l)) ⟨#[c]⟩ 0 (tx (escL T l)).length 1).isEmpty)) (bi rfl (bi hg rfl)) ?_
  show some (!(Builtin.Str.occurrences (tx (escL T l)) ⟨#[c]⟩ 0 (tx (escL T l)).length 1).isEmpty)=_
  rw [PySem.StrLaws.found_one]
 have hrep:Txt.replace (tx (escL T l)) ⟨#[c]⟩ z=tx (escL (T++[(c,z.cps.toList)]) l):=by
  refine Str.of_list ?_
  rw [zrd,← zuk hf]
 by_cases hc:c∈escL T l
 ·refine ⟨ρ.set v (dtx (escL (T++[(c,z.cps.toList)]) l)),zbc ev1 ?_,by rw [Rho.get_set,if_pos rfl]⟩
  rw [decide_eq_true hc,if_pos rfl]
  refine zad (zao ?_) rfl
  refine si hg ?_
  show (if decide ((tx (escL T l)).length+((tx (escL T l)).length+1)*z.length≤16777216)&&sok (.str (Txt.replace (tx (escL T l)) ⟨#[c]⟩ z)) then some (PyData.str (Txt.replace (tx (escL T l)) ⟨#[c]⟩ z)) else none)=_
  have hz:z.length≤6:=by
   have:=latp hT (c,z.cps.toList) (by simp)
   simp only [Bool.and_eq_true,decide_eq_true_eq] at this
   have h1:=this.1
   simpa [Str.length] using h1
  have hx:(tx (escL T l)).length=(escL T l).length:=by simp [Str.length]
  have hlx:=hl.1
  rw [hrep,if_pos]
  rw [Bool.and_eq_true,decide_eq_true_eq]
  refine ⟨?_,zjs (by omega) hlen2.2⟩
  rw [hx]
  have:((escL T l).length+1)*z.length≤((escL T l).length+1)*6:=Nat.mul_le_mul_left _ hz
  omega
 ·refine ⟨ρ,zbc ev1 ?_, ?_⟩
  ·rw [decide_eq_false hc];rfl
  ·rw [hg,← zuk hf,zfh hc]
noncomputable def zob (v:Nat):List (Str × Str)→Sts
 | []=>.cons (.ret (.var v)) .nil
 | (y,z)::r=>.cons (.ifs (.cmp .In (.lit (.str y)) (.var v)) (.cons (.set v (.repl (.var v) y z)) .nil) .nil) (zob v r)
noncomputable def zcb (ps:List (Str × Str)):List (Nat × List Nat):=ps.map fun p=>(p.1.cps.getD 0 0,p.2.cps.toList)
noncomputable def zku (T:List (Nat × List Nat)):List (Str × Str)→Bool
 | []=>okT T
 | (y,z)::r=>decide (y=⟨#[y.cps.getD 0 0]⟩)&&okT T&&T.all (fun p=>!p.2.contains (y.cps.getD 0 0))&&zku (T++[(y.cps.getD 0 0,z.cps.toList)]) r
theorem zuj {v:Nat} {l:List Nat} (hl:okL l):∀ {ps:List (Str × Str)} {T:List (Nat × List Nat)} {ρ:Rho},zku T ps=true→ρ.get v=some (dtx (escL T l))→exs S ρ (zob v ps)=some (.ret (dtx (escL (T++zcb ps) l)))
 | [],T,ρ,_,hg=>by
  have:T++zcb []=T:=by simp [zcb]
  rw [this]
  exact zal (zbu hg)
 | (y,z)::r,T,ρ,h,hg=>by
  simp only [zku,Bool.and_eq_true,decide_eq_true_eq] at h
  obtain ⟨⟨⟨h1,h2⟩,h3⟩,h4⟩:=h
  have hT:okT (T++[(y.cps.getD 0 0,z.cps.toList)])=true:=by
   cases r with
   | nil=>exact h4
   | cons p r=>obtain ⟨a,b⟩:=p;simp only [zku,Bool.and_eq_true] at h4;exact h4.1.1.2
  obtain ⟨ρ',e1,e2⟩:=yge (S:=S) (c:=y.cps.getD 0 0) (y:=y) (z:=z) h1 hl hT (fun p m=>by have:=latp h3 p m;simpa using this) h2 hg
  have:=zuj hl (ps:=r) h4 e2
  rw [List.append_assoc] at this
  exact zad e1 this
theorem zkv {f:Fn} {v:Nat} {ps:List (Str × Str)} (hf:f=⟨[v],[], .cons (.tryE (zob v ps)) .nil⟩) (hw:zku [] ps=true) {l:List Nat} (hl:okL l):zbb S f [dtx l]=some (dtx (escL (zcb ps) l)):=by
 subst hf
 refine zcv rfl (zal ?_)
 show exs S [(v,dtx l)] (zob v ps)=_
 have:=zuj (S:=S) hl (ps:=ps) (T:=[]) (ρ:=[(v,dtx l)]) hw (by rw [Rho.get_cons,if_pos rfl,ygd])
 rw [List.nil_append] at this
 exact this
noncomputable def esc0:List (Str × Str):=[("&", "&amp;"),("<", "&lt;"),(">", "&gt;")]
noncomputable def esc1 : List (Str × Str) := [("&", "&amp;"), ("<", "&lt;"), (">", "&gt;"), ("\"", "&quot;"), ("\r", "&#13;"), ("\n", "&#10;"), ("\t", "&#09;")]
noncomputable def esc2 : List (Str × Str) := [("&", "&amp;"), (">", "&gt;"), ("\"", "&quot;")]
noncomputable def esc3:List (Str × Str):=[("&", "&amp;"),("<", "&lt;"),(">", "&gt;"),("\r", "&#xD;")]
noncomputable def esc4 : List (Str × Str) := [("&", "&amp;"), ("<", "&lt;"), ("\"", "&quot;"), ("\t", "&#x9;"), ("\n", "&#xA;"), ("\r", "&#xD;")]
noncomputable def zdy:Nat→List (Str × Str)
 | 0=>esc0 | 1=>esc1 | 2=>esc2 | 3=>esc3 | _=>esc4
theorem yda {l:List Nat} (hl:okL l):zbb S zcr [dtx l]=some (dtx (escL (zcb esc0) l)):=zkv (v:=41) (ps:=esc0) rfl (by decide +kernel) hl
theorem zya {l:List Nat} (hl:okL l):zbb S zcm [dtx l]=some (dtx (escL (zcb esc1) l)):=zkv (v:=41) (ps:=esc1) rfl (by decide +kernel) hl
theorem yia {l:List Nat} (hl:okL l):zbb S zbk [dtx l]=some (dtx (escL (zcb esc2) l)):=zkv (v:=41) (ps:=esc2) rfl (by decide +kernel) hl
theorem zth {l:List Nat} (hl:okL l):zbb S zbo [dtx l]=some (dtx (escL (zcb esc3) l)):=zkv (v:=41) (ps:=esc3) rfl (by decide +kernel) hl
theorem zrf {l:List Nat} (hl:okL l):zbb S zbj [dtx l]=some (dtx (escL (zcb esc4) l)):=zkv (v:=41) (ps:=esc4) rfl (by decide +kernel) hl
end Internal
namespace Internal
variable {S:Sig}
noncomputable def yoa:Nat→Nat
 | 0=>40 | 1=>42 | 2=>43 | 3=>44 | _=>45
theorem zhk (a b:Int):zdq .Lt (.int a) (.int b)=some (.bool (decide (a<b))):=rfl
theorem znt (a b:Int):zdq .Eq (.int a) (.int b)=some (.bool (decide (a=b))):=rfl
theorem zlc {P:Nat→Prop} (h0:P 0) (h1:P 1) (h2:P 2) (h3:P 3) (h4:P 4) (k:Nat) (h:k<5):P k:=by
 rcases k with _ | _ | _ | _ | _ | k
 ·exact h0
 ·exact h1
 ·exact h2
 ·exact h3
 ·exact h4
 ·exact absurd h (Nat.not_lt.mpr (Nat.le_add_left 5 k))
theorem ztj {k:Nat} (hk:k<5) {x d:D}:S.cal (yoa k) [x]=some d→zbb S zce [nint k,x]=some d :=
 zlc (P:=fun k=>S.cal (yoa k) [x]=some d→zbb S zce [nint k,x]=some d)
  (fun h=>zcv rfl (zal (zbc (t:=true) rfl (zal (zbu h)))))
  (fun h=>zcv rfl (zal (zbc (t:=true) rfl (zal (zbu h)))))
  (fun h=>zcv rfl (zad (zbc (t:=false) rfl rfl) (zal (zbc (t:=true) rfl (zal (zbu h))))))
  (fun h=>zcv rfl (zad (zbc (t:=false) rfl rfl) (zal (zbc (t:=true) rfl (zal (zbu h))))))
  (fun h=>zcv rfl (zad (zbc (t:=false) rfl rfl) (zad (zbc (t:=false) rfl rfl) (zal (zbu h))))) k hk
theorem zmo {f:D→Option (List D)} {g:D→D}:∀ {items:List D},(∀ it∈items,f it=some [g it])→zcs f items=some (items.map g)
 | [],_=>rfl
 | x::xs,h=>by
  have e:zcs f (x::xs)=match f x with | some a=>(match zcs f xs with | some b=>some (a++b) | none=>none) | none=>none:=rfl
  rw [e,h x mch,zmo fun it m=>h it (mct _ m)]
  rfl
theorem ygg {ρ:Rho} {elt:E} {tg:List Nat} {src:Src} {items:List D} {g:D→D} (hs:zdk S ρ src=some items) (h:∀ it∈items,∃ ρ',zcn (ρ.del (tg++[])) tg it=some ρ'∧ev S ρ' elt=some (g it)) (hz:(!zeu src || zaw (items.map g))=true:=by rfl) :
  ev S ρ (.comp elt (.cons tg src .nil .nil))=some (.list (items.map g)):=by
 refine bi (x:=items.map g) (bi hs (zmo fun it m=>?_)) (if_pos (show (true&&(!zeu src || zaw (items.map g)))=true from hz))
 obtain ⟨ρ',h1,h2⟩:=h it m
 refine bi h1 ?_
 show (ev S ρ' elt).map (fun d=>[d])=_
 rw [h2];rfl
theorem zmw {c:Nat}:∀ {ps:List (Str × Str)},(ps.all fun p=>decide (p.1=⟨#[p.1.cps.getD 0 0]⟩))=true→PySem.Spec.lookup (.str ⟨#[c]⟩) (ps.map fun p=>(PyData.str p.1,PyData.str p.2))=((zcb ps).lookup c).map fun z=>PyData.str (tx z)
 | [],_=>rfl
 | (y,z)::r,h=>by
  simp only [List.all_cons,Bool.and_eq_true,decide_eq_true_eq] at h
  obtain ⟨h1,h2⟩:=h
  have ih:=zmw (c:=c) h2
  have e:PySem.Spec.lookup (.str ⟨#[c]⟩) (((y,z)::r).map fun p=>(PyData.str p.1,PyData.str p.2))=if PySem.Spec.same (.str y) (.str ⟨#[c]⟩) then some (.str z) else PySem.Spec.lookup (.str ⟨#[c]⟩) (r.map fun p=>(PyData.str p.1,PyData.str p.2)):=rfl
  have e2:(zcb ((y,z)::r)).lookup c=match c==y.cps.getD 0 0 with | true=>some z.cps.toList | false=>(zcb r).lookup c:=rfl
  rw [e,e2]
  by_cases q:c=y.cps.getD 0 0
  ·have hb:(c==y.cps.getD 0 0)=true:=beq_iff_eq.mpr q
   rw [hb,if_pos (by rw [h1,← q];show (_:Str)==_;simp)]
   rfl
  ·have hb:(c==y.cps.getD 0 0)=false:=beq_eq_false_iff_ne.mpr q
   rw [hb,if_neg (fun w=>?_),ih]
   have w:((y:Str)==⟨#[c]⟩)=true:=w
   have w:=bqp w
   rw [w] at q
   exact q rfl
theorem zkg:∀ ts:List Str,zjh (ts.map PyData.str)=some ts
 | []=>rfl
 | t::ts=>by rw [List.map_cons,zjh,zkg ts];rfl
theorem ygv (sep:Str):∀ ts:List Str,(Txt.join sep ts).cps.toList=((ts.map fun t=>t.cps.toList).intersperse sep.cps.toList).flatten:=by
 intro ts
 show (Builtin.Str.glued sep ts).cps.toList=_
 rw [PySem.StrLaws.glued_eq_join]
 induction ts with
 | nil=>rfl
 | cons t ts ih =>
  cases ts with
  | nil=>simp [Str.join]
  | cons u r =>
   show (t++sep++Str.join sep (u::r)).cps.toList=_
   simp only [Str.cps_append,Array.toList_append]
   rw [ih]
   simp
theorem yde:∀ ls:List (List Nat),(ls.intersperse []).flatten=ls.flatten
 | []=>rfl
 | [x]=>rfl
 | x::y::r=>by
  have:=yde (y::r)
  simp only [List.intersperse_cons₂,List.flatten_cons,List.nil_append]
  rw [this];rfl
theorem zms (ts:List Str):(Txt.join "" ts).cps.toList=(ts.map fun t=>t.cps.toList).flatten:=by
 rw [ygv]
 have:(("" : Str).cps.toList)=[]:=rfl
 rw [this,yde]
noncomputable def spOf:Nat→List (Str × Str)
 | 0=>esc0 | 1=>esc1 | 2=>esc2 | 3=>esc3
 | _ => [("&", "&amp;"), ("<", "&lt;"), ("\"", "&quot;"), ("\r", "&#xD;"), ("\n", "&#xA;"), ("\t", "&#x9;")]
theorem ynl (k:Nat) (c:Nat):escT (zcb (spOf k)) c=escT (zcb (zdy k)) c:=by
 match k with
 | 0 | 1 | 2 | 3=>rfl
 | n+4 =>
  show escT [(38,[38,97,109,112,59]),(60,[38,108,116,59]),(34,[38,113,117,111,116,59]),(13,[38,35,120,68,59]),(10,[38,35,120,65,59]),(9,[38,35,120,57,59])] c=escT [(38,[38,97,109,112,59]),(60,[38,108,116,59]),(34,[38,113,117,111,116,59]),(9,[38,35,120,57,59]),(10,[38,35,120,65,59]),(13,[38,35,120,68,59])] c
  unfold escT
  simp only [List.lookup_cons,List.lookup_nil]
  by_cases h1:c=13
  ·subst h1;rfl
  ·by_cases h2:c=10
   ·subst h2;rfl
   ·by_cases h3:c=9
    ·subst h3;rfl
    ·have e1:(c==13)=false:=by simpa using h1
     have e2:(c==10)=false:=by simpa using h2
     have e3:(c==9)=false:=by simpa using h3
     rw [e1,e2,e3]
theorem zti {k:Nat} (hk:k<5) {l:List Nat} (hl:okL l):zbb S zcx [nint k,dtx l]=some (dtx (escL (zcb (zdy k)) l)):=by
 have hsub:ev S [(47,nint k),(41,dtx l)] (.sub (.list (.cons (.dict (spOf 0)) (.cons (.dict (spOf 1)) (.cons (.dict (spOf 2)) (.cons (.dict (spOf 3)) (.cons (.dict (spOf 4)) .nil)))))) (.var 47))=some (.dict ((spOf k).map fun p=>(.str p.1, .str p.2))) :=
  zlc (P:=fun k=>ev S [(47,nint k),(41,dtx l)] _=some (.dict ((spOf k).map fun p=>(.str p.1, .str p.2)))) rfl rfl rfl rfl rfl k hk
 refine zcv rfl ?_
 show exs S [(47,nint k),(41,dtx l)] _=_
 refine zad (zao hsub) (zal (zbu ?_))
 have hT:okT (zcb (zdy k))=true:=zlc (P:=fun k=>okT (zcb (zdy k))=true) (by decide +kernel) (by decide +kernel) (by decide +kernel) (by decide +kernel) (by decide +kernel) k hk
 have hsp:((spOf k).all fun p=>decide (p.1=⟨#[p.1.cps.getD 0 0]⟩))=true:=zlc (P:=fun k=>((spOf k).all fun p=>decide (p.1=⟨#[p.1.cps.getD 0 0]⟩))=true) (by decide +kernel) (by decide +kernel) (by decide +kernel) (by decide +kernel) (by decide +kernel) k hk
 have hc:ev S [(47,nint k),(41,dtx l),(49, .dict ((spOf k).map fun p=>(.str p.1, .str p.2)))] (.comp (.mt .get (.var 49) (.cons (.var 50) (.cons (.var 50) .nil))) (.cons [50] (.e (.var 41)) .nil .nil)) =
   some (.list ((l.map fun c=>tx (escT (zcb (zdy k)) c)).map PyData.str)):=by
  have h:=ygg (S:=S) (ρ:=[(47,nint k),(41,dtx l),(49, .dict ((spOf k).map fun p=>(.str p.1, .str p.2)))]) (elt:=.mt .get (.var 49) (.cons (.var 50) (.cons (.var 50) .nil))) (tg:=[50]) (src:=.e (.var 41))
   (items:=l.map fun c=>dtx [c]) (g:=fun d=>match d with | .str x=>dtx (escT (zcb (zdy k)) (x.cps.getD 0 0)) | d=>d) ?_ ?_
  ·rw [h]
   simp [List.map_map]
  ·show some ((tx l).cps.toList.map fun c=>PyData.str ⟨#[c]⟩)=_
   simp
  ·intro it hit
   obtain ⟨c,hcl,rfl⟩:=mmp hit
   refine ⟨_,rfl, ?_⟩
   show evMt .get (.dict ((spOf k).map fun p=>(.str p.1, .str p.2))) [dtx [c],dtx [c]]=_
   have e:evMt .get (.dict ((spOf k).map fun p=>(.str p.1, .str p.2))) [dtx [c],dtx [c]]=match (PySem.Spec.lookup (dtx [c]) ((spOf k).map fun p=>(.str p.1, .str p.2))).getD (dtx [c]) with | .str y=>if sok (.str y) then some (.str y) else none | _=>none:=rfl
   rw [e,zmw hsp]
   have e2:(((zcb (spOf k)).lookup c).map fun z=>PyData.str (tx z)).getD (dtx [c])=dtx (escT (zcb (spOf k)) c):=by
    unfold escT
    cases (zcb (spOf k)).lookup c <;> rfl
   rw [e2,ynl]
   obtain ⟨g1,g2⟩:=zsk hT (hl.2 c hcl)
   show (if sok (dtx (escT (zcb (zdy k)) c))=true then _ else _)=_
   rw [if_pos (zjs (by omega) g2)]
   rfl
 refine bi rfl (bi (zab hc (ds:=[]) rfl) ?_)
 have e3:evMt .join (.str "") [.list ((l.map fun c=>tx (escT (zcb (zdy k)) c)).map PyData.str)]=match zjh ((l.map fun c=>tx (escT (zcb (zdy k)) c)).map PyData.str) with
  | some ts=>if JoinOk "" ts&&sok (.str (Txt.join "" ts)) then some (.str (Txt.join "" ts)) else none
  | none=>none:=rfl
 rw [e3,zkg]
 have hj:Txt.join "" (l.map fun c=>tx (escT (zcb (zdy k)) c))=tx (escL (zcb (zdy k)) l):=by
  refine Str.of_list ?_
  rw [zms,List.map_map]
  show _=(escL (zcb (zdy k)) l).toArray.toList
  rw [List.toList_toArray]
  unfold escL
  rw [List.flatMap_def]
  congr 1
 obtain ⟨w1,w2⟩:=ziv hT (l:=l) hl.2
 have hl1:=hl.1
 show (if (JoinOk "" (l.map fun c=>tx (escT (zcb (zdy k)) c))&&sok (.str (Txt.join "" (l.map fun c=>tx (escT (zcb (zdy k)) c)))))=true then _ else _)=_
 rw [hj,if_pos]
 rw [Bool.and_eq_true]
 refine ⟨?_,zjs (by omega) w2⟩
 unfold JoinOk
 rw [PySem.StrLaws.joinFits (B:=6)]
 ·rfl
 ·intro y hy
  obtain ⟨c,hc,rfl⟩:=mmp hy
  have:=(zsk hT (hl.2 c hc)).1
  simpa [Str.length] using this
 ·have:(("" : Str).length)=0:=rfl
  rw [this,List.length_map];omega
end Internal
namespace Internal
variable {S:Sig}
theorem yll (a b:Int):zdq .LtE (.int a) (.int b)=some (.bool (decide (a≤b))):=rfl
theorem zam {ρ:Rho} {o:CmpOp} {a b:E} {x y:D} {t:Bool} (ha:ev S ρ a=some x) (hb:ev S ρ b=some y) (h:zdq o x y=some (.bool t)):evT S ρ (.cmp o a b)=some t:=bi (bi ha (bi hb h)) rfl
theorem zoe {ρ:Rho} {o:CmpOp} {a b:E} {x y d:D} (ha:ev S ρ a=some x) (hb:ev S ρ b=some y) (h:zdq o x y=some d):ev S ρ (.cmp o a b)=some d:=bi ha (bi hb h)
theorem zav {ρ:Rho} {f:Nat} {es:Es} {ds:List D} {d:D} (h:evs S ρ es=some ds) (hc:S.cal f ds=some d):ev S ρ (.call f es)=some d:=bi h hc
theorem zah {ρ:Rho}:evs S ρ .nil=some []:=rfl
theorem zoh {ρ:Rho} {ns:List Nat} {e:E} {xs:List D} (h:ev S ρ e=some (.tuple xs)) (hl:xs.length=ns.length):ex S ρ (.unp ns e)=some (.next (zbl ρ ns xs)):=ti h (if_pos hl)
theorem ylz {ρ:Rho} {n:Nat} {e:E} {xs:List D} {d:D} (hg:ρ.get n=some (.list xs)) (h:ev S ρ e=some d) (hl:xs.length<1000000):ex S ρ (.app n e)=some (.next (ρ.set n (.list (xs++[d])))):=li hg (bi h (if_pos hl))
theorem zfm {ρ:Rho} {tg:List Nat} {src:Src} {body:Sts} {items:List D} {o:Option Out} (h:zdk S ρ src=some items) (hg:goL (fun d ρ'=>(zcn ρ' tg d).bind fun ρ''=>exs S ρ'' body) items (zov ρ src)=o):ex S ρ (.loop tg src body)=o:=bi h hg
theorem zso {ρ:Rho} {es:Es} {ds:List D} (h:evs S ρ es=some ds) (hl:ds.length≤1000):ev S ρ (.tup es)=some (.tuple ds):=bi h (if_pos hl)
theorem zdz {ρ:Rho} {es:Es} {ds:List D} (h:evs S ρ es=some ds) (hl:ds.length≤1000):ev S ρ (.list es)=some (.list ds):=bi h (if_pos hl)
theorem yal {ρ:Rho} {f n:Nat} {es:Es} {xs ds:List D} {d:D} (hg:ρ.get n=some (.list xs)) (h:evs S ρ es=some ds) (hc:S.cal f (.list xs::ds)=some d) (hs:zwb d=true):ev S ρ (.ocall f n es)=some d:=li hg (bi h (bi hc (if_pos hs)))
theorem ygq {f:D→Rho→Option Out} {d v:D} {ds:List D} {ρ:Rho} (h:f d ρ=some (.ret v)):goL f (d::ds) ρ=some (.ret v):=by
 have e:goL f (d::ds) ρ=match f d ρ with | some (.next ρ')=>goL f ds ρ' | o=>o:=rfl
 rw [e,h]
theorem zfc {f:D→Rho→Option Out} {d:D} {ds:List D} {ρ ρ':Rho} {o:Option Out} (h:f d ρ=some (.next ρ')) (h':goL f ds ρ'=o):goL f (d::ds) ρ=o:=by
 have e:goL f (d::ds) ρ=match f d ρ with | some (.next ρ')=>goL f ds ρ' | o=>o:=rfl
 rw [e,h];exact h'
theorem yhy {a b n:Int} (hg:S.gl 23=some (.int 4000)) (hb:b≠0) (hl:b.natAbs.log2<9000) (hs:(ib a:Int)-n≤4000):zbb S zgt [.int a, .int b, .int n]=some (.tuple [.int (a.fdiv b), .int (a.fmod b)]):=by
 refine zcv rfl (zal (zbc (t:=true) ?_ (zal (zbu ?_))))
 ·exact zam (x:=.int ((ib a:Int)-n)) rfl (show S.gl 23=_ from hg) (by rw [yll,decide_eq_true hs])
 ·show (if b != 0&&decide (b.natAbs.log2<9000) then some (PyData.tuple [.int (a.fdiv b), .int (a.fmod b)]) else none)=_
  rw [if_pos]
  rw [decide_eq_true hl]
  simpa using hb
noncomputable def zbv (n b:Nat):Nat→List Nat→List Nat × Nat
 | r,[]=>([],r)
 | r,d::hs=>((r*2^n+d) / b::(zbv n b ((r*2^n+d) % b) hs).1,(zbv n b ((r*2^n+d) % b) hs).2)
theorem zjo {n b:Nat} (hb:0<b):∀ {hs:List Nat} {r:Nat},r<b→(∀ d∈hs,d<2^n) →
  (zbv n b r hs).1.length=hs.length∧(∀ q∈(zbv n b r hs).1,q<2^n)∧und n (zbv n b r hs).1.reverse=(r*2^(n*hs.length)+und n hs.reverse) / b∧(zbv n b r hs).2=(r*2^(n*hs.length)+und n hs.reverse) % b
 | [],r,hr,_=>by
  refine ⟨rfl,fun q m=>(by cases m), ?_, ?_⟩
  ·simp only [zbv,List.reverse_nil,und,List.length_nil,Nat.mul_zero,Nat.pow_zero,Nat.mul_one,Nat.add_zero]
   rw [Nat.div_eq_of_lt hr]
  ·simp only [zbv,List.reverse_nil,und,List.length_nil,Nat.mul_zero,Nat.pow_zero,Nat.mul_one,Nat.add_zero]
   rw [Nat.mod_eq_of_lt hr]
 | d::hs,r,hr,hd=>by
  obtain ⟨h1,h2,h3,h4⟩:=zjo hb (hs:=hs) (r:=(r*2^n+d) % b) (Nat.mod_lt _ hb) fun x m=>hd x (mct _ m)
  have hdd:=hd d mch
  have hN:r*2^(n*(d::hs).length)+und n (d::hs).reverse=b*((r*2^n+d) / b*2^(n*hs.length))+((r*2^n+d) % b*2^(n*hs.length)+und n hs.reverse):=by
   rw [List.reverse_cons,zfi,List.length_reverse,List.length_cons,Nat.mul_add,Nat.mul_one,Nat.pow_add]
   simp only [und,Nat.mul_zero,Nat.add_zero]
   have e:=Nat.div_add_mod (r*2^n+d) b
   generalize (r*2^n+d) / b=u at e ⊢
   generalize (r*2^n+d) % b=v at e ⊢
   generalize 2^(n*hs.length)=p
   have e2:(b*u+v)*p=(r*2^n+d)*p:=by rw [e]
   rw [Nat.add_mul,Nat.add_mul] at e2
   have e3:r*(p*2^n)=r*2^n*p:=by rw [Nat.mul_comm p,Nat.mul_assoc]
   have e4:b*(u*p)=b*u*p:=by rw [Nat.mul_assoc]
   rw [e3,e4,Nat.mul_comm p d]
   omega
  rw [hN]
  refine ⟨by simp [zbv,h1],fun q m=>?_, ?_, ?_⟩
  ·rcases mcp (show q∈(r*2^n+d) / b::(zbv n b ((r*2^n+d) % b) hs).1 from m) with rfl | m
   ·rw [Nat.div_lt_iff_lt_mul hb]
    have:(r+1)*2^n≤b*2^n:=Nat.mul_le_mul_right _ hr
    rw [Nat.add_mul,Nat.one_mul] at this
    rw [Nat.mul_comm (2^n) b]
    omega
   ·exact h2 q m
  ·show und n ((r*2^n+d) / b::(zbv n b ((r*2^n+d) % b) hs).1).reverse=_
   rw [List.reverse_cons,zfi,List.length_reverse,h1,h3,Nat.mul_add_div hb]
   simp only [und,Nat.mul_zero,Nat.add_zero]
   rw [Nat.mul_comm (2^(n*hs.length))]
   omega
  ·show (zbv n b ((r*2^n+d) % b) hs).2=_
   rw [h4,Nat.mul_add_mod]
theorem zue {n b:Nat} (hb:0<b) (hbn:b≤2^n) (hn:n≤4000) (h12:∀ t:Nat,t<2^(2*n)→S.cal 12 [nint t,nint b,nint n]=some (.tuple [nint (t / b),nint (t % b)])) {body:Sts}
  (hbody:body=.cons (.unp [29,13] (.call 12 (.cons (.bin .Add (.bin .LShift (.var 13) (.var 2)) (.var 28)) (.cons (.var 21) (.cons (.var 2) .nil))))) (.cons (.app 27 (.var 29)) .nil)) :
  ∀ {hs:List Nat} {r:Nat} {qs:List Nat} {ρ:Rho},r<b→(∀ d∈hs,d<2^n)→qs.length+hs.length<1000000→ρ.get 13=some (nint r)→ρ.get 2=some (nint n)→ρ.get 21=some (nint b)→ρ.get 27=some (.list (qs.map nint)) →
   ∃ ρ',goL (fun d ρ'=>(zcn ρ' [28] d).bind fun ρ''=>exs S ρ'' body) (hs.map nint) ρ=some (.next ρ')∧ρ'.get 13=some (nint (zbv n b r hs).2)∧ρ'.get 2=some (nint n)∧ρ'.get 27=some (.list ((qs++(zbv n b r hs).1).map nint))
 | [],r,qs,ρ,_,_,_,g1,g2,_,g4=>⟨ρ,rfl,g1,g2,by simpa [zbv] using g4⟩
 | d::hs,r,qs,ρ,hr,hd,hl,g1,g2,g3,g4=>by
  subst hbody
  have hdd:=hd d mch
  have hrn:r<2^n:=Nat.lt_of_lt_of_le hr hbn
  have ht:r*2^n+d<2^(2*n):=by
   have h1:(r+1)*2^n≤2^n*2^n:=Nat.mul_le_mul_right _ hrn
   rw [Nat.add_mul,Nat.one_mul] at h1
   rw [Nat.two_mul,Nat.pow_add]
   omega
  have G:∀ (ρ:Rho) (m k:Nat) (d:D),(ρ.set m d).get k=if k=m then some d else ρ.get k:=fun ρ m k d=>Rho.get_set ρ m k d
  have s1:ex S (ρ.set 28 (nint d)) (.unp [29,13] (.call 12 (.cons (.bin .Add (.bin .LShift (.var 13) (.var 2)) (.var 28)) (.cons (.var 21) (.cons (.var 2) .nil)))))=some (.next (((ρ.set 28 (nint d)).set 29 (nint ((r*2^n+d) / b))).set 13 (nint ((r*2^n+d) % b)))):=by
   refine zoh (xs:=[nint ((r*2^n+d) / b),nint ((r*2^n+d) % b)]) (zav (ds:=[nint (r*2^n+d),nint b,nint n]) (zab (zaf (zaf (x:=nint r) (y:=nint n) ?_ ?_ (zkw hrn (by have:(2:Nat)^27=134217728:=(by decide);omega))) (y:=nint d) ?_ (zdp _ _)) (zab ?_ (zab ?_ zah))) (h12 _ ht)) rfl
   all_goals (refine zaa ?_;simp [G,g1,g2,g3])
  have s2:ex S (((ρ.set 28 (nint d)).set 29 (nint ((r*2^n+d) / b))).set 13 (nint ((r*2^n+d) % b))) (.app 27 (.var 29))=some (.next ((((ρ.set 28 (nint d)).set 29 (nint ((r*2^n+d) / b))).set 13 (nint ((r*2^n+d) % b))).set 27 (.list (qs.map nint++[nint ((r*2^n+d) / b)])))) :=
   ylz (by simp [G,g4]) (zaa (by simp [G])) (by rw [List.length_map];simp at hl;omega)
  obtain ⟨ρ',e1,e2,e3,e4⟩:=zue hb hbn hn h12 rfl (hs:=hs) (r:=(r*2^n+d) % b) (qs:=qs++[(r*2^n+d) / b]) (ρ:=(((ρ.set 28 (nint d)).set 29 (nint ((r*2^n+d) / b))).set 13 (nint ((r*2^n+d) % b))).set 27 (.list (qs.map nint++[nint ((r*2^n+d) / b)])))
   (Nat.mod_lt _ hb) (fun x m=>hd x (mct _ m)) (by simp at hl ⊢;omega) (by simp [G]) (by simp [G,g2]) (by simp [G,g3]) (by simp [G])
  refine ⟨ρ', ?_,e2,e3, ?_⟩
  ·rw [List.map_cons]
   refine zfc ?_ e1
   show exs S (ρ.set 28 (nint d)) _=_
   exact zad s1 (zad s2 rfl)
  ·rw [e4]
   simp [zbv]
theorem zzx {a n:Nat} (hn:0<n):ib (a:Int)≤n*zer a n:=by
 unfold zer
 have e:=Nat.div_add_mod (ib (a:Int)+n-1) n
 have:=Nat.mod_lt (ib (a:Int)+n-1) hn
 omega
theorem yhb (a:Nat):a<2^ib (a:Int):=by
 unfold ib Builtin.Int.intBits
 by_cases c:a=0
 ·subst c;simp
 ·have:((a:Int)==0)=false:=by simpa using c
  rw [this]
  simp only [Bool.false_eq_true,if_false,Int.natAbs_natCast]
  exact Nat.lt_log2_self
theorem ybu {a n:Nat} (hn:0<n):a<2^(n*zer a n):=Nat.lt_of_lt_of_le (yhb a) (Nat.pow_le_pow_right (by omega) (zzx hn))
theorem zyb {a b:Nat} (hb:0<b) (hn:ib (b:Int)≤4000) (hK:ib (b:Int)*zer a (ib (b:Int))≤2^26) (hK2:zer a (ib (b:Int))≤100000)
  (h12:∀ t:Nat,t<2^(2*ib (b:Int))→S.cal 12 [nint t,nint b,nint (ib (b:Int))]=some (.tuple [nint (t / b),nint (t % b)])) (h30:S.cal 30=zlg) (h26:S.cal 26=zkr) :
  zbb S zen [nint a,nint b]=some (.tuple [nint (a / b),nint (a % b)]):=by
 generalize hnn:ib (b:Int)=n at hn hK hK2 h12
 have hbn:b<2^n:=by rw [← hnn];exact yhb b
 have hn0:0<n:=by
  rcases Nat.eq_zero_or_pos n with c | c
  ·rw [c] at hbn;simp at hbn;omega
  ·exact c
 have h24:(2:Nat)^24=16777216:=by decide
 have h26':(2:Nat)^26=67108864:=by decide
 generalize hKK:zer a n=K at hK hK2
 have c30:zlg [nint a,nint n]=some (.list ((digs n a K).map nint)):=by
  have e:zlg [nint a,nint n]=if 0≤(a:Int)∧0<(n:Int)∧(n:Int)≤2^26∧((n:Int)).toNat*zer ((a:Int)).toNat ((n:Int)).toNat≤2^26∧zer ((a:Int)).toNat ((n:Int)).toNat≤2^24 then some (.list ((digs ((n:Int)).toNat ((a:Int)).toNat (zer ((a:Int)).toNat ((n:Int)).toNat)).map nint)) else none:=rfl
  rw [e,Int.toNat_natCast,Int.toNat_natCast,hKK,if_pos]
  refine ⟨by omega,by omega, ?_,by omega,by omega⟩
  have:(2:Int)^26=67108864:=by decide
  omega
 have hds:∀ d∈(digs n a K).reverse,d<2^n:=fun d hd=>by
  rw [List.mem_reverse] at hd
  obtain ⟨i,_,rfl⟩:=mmp hd
  exact yoz n a i
 obtain ⟨l1,l2,l3,l4⟩:=zjo (n:=n) hb (hs:=(digs n a K).reverse) (r:=0) hb hds
 have hval:0*2^(n*(digs n a K).reverse.length)+und n (digs n a K).reverse.reverse=a:=by
  rw [List.reverse_reverse,zwo,Nat.zero_mul,Nat.zero_add,Nat.mod_eq_of_lt]
  rw [← hKK];exact ybu hn0
 rw [hval] at l3 l4
 have hlen:(digs n a K).reverse.length=K:=by rw [List.length_reverse,zeh]
 refine zcv rfl ?_
 show exs S [(11,nint a),(21,nint b)] _=_
 refine zad (zao (d:=nint n) ?_) ?_
 ·show some (nint (ib (b:Int)))=_
  rw [hnn]
 refine zad (zao (d:=.list ((digs n a K).map nint)) (zav (ds:=[nint a,nint n]) rfl (by rw [h30];exact c30))) ?_
 refine zad (zao (d:=nint 0) rfl) ?_
 refine zad (ρ':=[(11,nint a),(21,nint b),(2,nint n),(0, .list ((digs n a K).map nint)),(13,nint 0),(27, .list [])]) rfl ?_
 obtain ⟨ρ',e1,e2,e3,e4⟩:=zue (S:=S) (n:=n) (b:=b) hb (Nat.le_of_lt hbn) hn h12 rfl (hs:=(digs n a K).reverse) (r:=0) (qs:=[]) (ρ:=[(11,nint a),(21,nint b),(2,nint n),(0, .list ((digs n a K).map nint)),(13,nint 0),(27, .list [])]) hb hds (by rw [hlen];simp;omega) rfl rfl rfl rfl
 refine zad (zfm (items:=((digs n a K).reverse).map nint) ?_ e1) ?_
 ·show some ((digs n a K).map nint).reverse=_
  rw [List.map_reverse]
 refine zad (ρ':=ρ'.set 27 (.list ((zbv n b 0 (digs n a K).reverse).1.reverse.map nint))) ?_ ?_
 ·refine li e4 ?_
  simp [List.map_reverse]
 have cq:zkr [.list ((zbv n b 0 (digs n a K).reverse).1.reverse.map nint),nint n]=some (nint (a / b)):=by
  have e:zkr [.list ((zbv n b 0 (digs n a K).reverse).1.reverse.map nint),nint n]=(zxq ((zbv n b 0 (digs n a K).reverse).1.reverse.map nint)).bind fun ns=>if 0<(n:Int)∧((n:Int)).toNat*ns.length≤2^26∧ns.length≤2^24∧ns.all (fun d=>decide (d<2^((n:Int)).toNat)) then some (nint (und ((n:Int)).toNat ns)) else none:=rfl
  rw [e,zvq]
  show (if _ then _ else _)=_
  rw [Int.toNat_natCast,l3,if_pos]
  rw [List.length_reverse,l1,hlen]
  refine ⟨by omega,hK,by omega,List.all_eq_true.mpr fun q hq=>decide_eq_true (l2 q (List.mem_reverse.mp hq))⟩
 refine zad (zao (d:=nint (a / b)) (yal (xs:=(zbv n b 0 (digs n a K).reverse).1.reverse.map nint) (ds:=[nint n]) (by rw [Rho.get_set,if_pos rfl]) (zab (zaa (by rw [Rho.get_set,if_neg (by decide)];exact e3)) zah) (by rw [h26];exact cq) rfl)) ?_
 refine zal (zbu (zso (ds:=[nint (a / b),nint (a % b)]) (zab (zaa (by rw [Rho.get_set,if_pos rfl])) (zab (zaa ?_) zah)) (nle rfl)))
 rw [Rho.get_set,if_neg (by decide),Rho.get_set,if_neg (by decide),e2,l4]
end Internal
namespace Internal
variable {S:Sig}
noncomputable def idm (a b:Int):D:=.tuple [.int (a.fdiv b), .int (a.fmod b)]
noncomputable def bd (a b:Int):Prop:=ib a≤60000∧ib b≤4000
noncomputable instance (a b:Int):Decidable (bd a b):=inferInstanceAs (Decidable (_∧_))
theorem yjt (a:Int):ib (-a)=ib a:=by
 unfold ib Builtin.Int.intBits
 by_cases c:a=0
 ·subst c;rfl
 ·have h1:(a==0)=false:=by simpa using c
  have h2:(-a==0)=false:=by simpa using c
  rw [h1,h2,Int.natAbs_neg]
theorem ybd {a b:Int} (h:a.natAbs≤b.natAbs):ib a≤ib b:=by
 unfold ib Builtin.Int.intBits
 by_cases c:a=0
 ·subst c;simp
 ·have h1:(a==0)=false:=by simpa using c
  have h0:a.natAbs≠0:=by omega
  have h2:(b==0)=false:=by
   have:b≠0:=fun e=>by rw [e] at h;simp at h;omega
   simpa using this
  rw [h1,h2]
  simp only [Bool.false_eq_true,if_false]
  have:a.natAbs.log2≤b.natAbs.log2:=by
   rw [Nat.le_log2 (by omega)]
   exact Nat.le_trans (Nat.log2_self_le h0) h
  omega
theorem yjs {a:Int} (h:a<0):ib (-a-1)≤ib a:=ybd (by omega)
theorem ybe (a b:Nat):idm (a:Int) (b:Int)=.tuple [nint (a / b),nint (a % b)]:=by
 unfold idm
 rw [Int.fdiv_eq_ediv_of_nonneg _ (by omega),Int.fmod_eq_emod_of_nonneg _ (by omega)]
 norm_cast
theorem zos {a b:Int} (ha:0≤a) (hb:0<b) (h24:S.cal 24 [.int a, .int b]=some (idm a b)):zbb S zbw [.int a, .int b]=some (idm a b):=by
 have e1:evT S [(11, .int a),(21, .int b)] (.cmp .Eq (.var 21) (.lit (.int 0)))=some false:=zam rfl rfl (by rw [znt,decide_eq_false (Int.ne_of_gt hb)])
 have e2:evT S [(11, .int a),(21, .int b)] (.cmp .Lt (.var 21) (.lit (.int 0)))=some false:=zam rfl rfl (by rw [zhk,decide_eq_false (Int.not_lt.mpr (Int.le_of_lt hb))])
 have e3:evT S [(11, .int a),(21, .int b)] (.cmp .Lt (.var 11) (.lit (.int 0)))=some false:=zam rfl rfl (by rw [zhk,decide_eq_false (Int.not_lt.mpr ha)])
 refine zcv rfl ?_
 show exs S [(11, .int a),(21, .int b)] _=_
 refine zal (zbc e1 ?_)
 refine zal (zbc e2 ?_)
 refine zal (zbc e3 ?_)
 exact zal (zbu (zav rfl h24))
theorem ypn {a b x r:Int} (h:x+r = -a-1):a=b-1-r+(-x-b):=by omega
theorem ypo {a b x r s:Int} (h:x+r = -a-1) (h2 : -x-b+s=a):s=b+(-r-1):=by omega
theorem zvz {a b:Int} (ha:a<0) (hb:0<b) (h31:S.cal 31 [.int (-a-1), .int b]=some (idm (-a-1) b)):zbb S zbw [.int a, .int b]=some (idm a b):=by
 have e1:evT S [(11, .int a),(21, .int b)] (.cmp .Eq (.var 21) (.lit (.int 0)))=some false:=zam rfl rfl (by rw [znt,decide_eq_false (Int.ne_of_gt hb)])
 have e2:evT S [(11, .int a),(21, .int b)] (.cmp .Lt (.var 21) (.lit (.int 0)))=some false:=zam rfl rfl (by rw [zhk,decide_eq_false (Int.not_lt.mpr (Int.le_of_lt hb))])
 have e3:evT S [(11, .int a),(21, .int b)] (.cmp .Lt (.var 11) (.lit (.int 0)))=some true:=zam rfl rfl (by rw [zhk,decide_eq_true ha])
 refine zcv rfl ?_
 show exs S [(11, .int a),(21, .int b)] _=_
 refine zal (zbc e1 ?_)
 refine zal (zbc e2 ?_)
 refine zal (zbc e3 ?_)
 refine zad (zoh (xs:=[.int ((-a-1).fdiv b), .int ((-a-1).fmod b)]) (zav (ds:=[.int (-a-1), .int b]) rfl h31) rfl) ?_
 refine zal (zbu ?_)
 show some (PyData.tuple [.int (-((-a-1).fdiv b)-1), .int (b+(-((-a-1).fmod b)-1))])=_
 unfold idm
 have h1:=Int.fdiv_eq_ediv_of_nonneg (-a-1) (Int.le_of_lt hb)
 have h2:=Int.fmod_eq_emod_of_nonneg (-a-1) (Int.le_of_lt hb)
 have h3:=Int.fdiv_eq_ediv_of_nonneg a (Int.le_of_lt hb)
 have h4:=Int.fmod_eq_emod_of_nonneg a (Int.le_of_lt hb)
 rw [h1,h2,h3,h4]
 have m1:=Int.mul_ediv_add_emod (-a-1) b
 have p1:=Int.emod_nonneg (-a-1) (Int.ne_of_gt hb)
 have p2:=Int.emod_lt_of_pos (-a-1) hb
 have m2:=Int.mul_ediv_add_emod a b
 have p3:=Int.emod_nonneg a (Int.ne_of_gt hb)
 have p4:=Int.emod_lt_of_pos a hb
 have key:a / b = -((-a-1) / b)-1:=by
  have:a / b=(b-1-(-a-1) % b+b*(-((-a-1) / b)-1)) / b:=by
   congr 1
   rw [Int.mul_sub,Int.mul_neg,Int.mul_one]
   exact ypn m1
  rw [this,Int.add_mul_ediv_left _ _ (Int.ne_of_gt hb),Int.ediv_eq_zero_of_lt (Int.sub_nonneg_of_le (Int.le_sub_one_of_lt p2)) (Int.lt_of_le_of_lt (Int.sub_le_self _ p1) (Int.sub_lt_self b Int.one_pos)),Int.zero_add]
 have key2:a % b=b+(-((-a-1) % b)-1):=by
  rw [key,Int.mul_sub,Int.mul_neg,Int.mul_one] at m2
  exact ypo m1 m2
 rw [key,key2]
theorem yib {a b:Int} (hb:b<0) (h31:S.cal 31 [.int (-a), .int (-b)]=some (idm (-a) (-b))):zbb S zbw [.int a, .int b]=some (idm a b):=by
 have e1:evT S [(11, .int a),(21, .int b)] (.cmp .Eq (.var 21) (.lit (.int 0)))=some false:=zam rfl rfl (by rw [znt,decide_eq_false (Int.ne_of_lt hb)])
 have e2:evT S [(11, .int a),(21, .int b)] (.cmp .Lt (.var 21) (.lit (.int 0)))=some true:=zam rfl rfl (by rw [zhk,decide_eq_true hb])
 refine zcv rfl ?_
 show exs S [(11, .int a),(21, .int b)] _=_
 refine zal (zbc e1 ?_)
 refine zal (zbc e2 ?_)
 refine zad (zoh (xs:=[.int ((-a).fdiv (-b)), .int ((-a).fmod (-b))]) (zav (ds:=[.int (-a), .int (-b)]) rfl h31) rfl) ?_
 refine zal (zbu ?_)
 show some (PyData.tuple [.int ((-a).fdiv (-b)), .int (-((-a).fmod (-b)))])=_
 unfold idm
 rw [Int.neg_fdiv_neg,Int.neg_fmod_neg,Int.neg_neg]
noncomputable def zny (ds:List D):Option D:=d3 ds fun a b n=>oInt a fun a=>oInt b fun b=>oInt n fun n=>if b≠0∧b.natAbs.log2<9000∧(ib a:Int)-n≤4000 then some (.tuple [.int (a.fdiv b), .int (a.fmod b)]) else none
noncomputable def zey (ds:List D):Option D:=i2 ds fun a b=>if 0≤a∧0<b∧bd a b then some (idm a b) else none
noncomputable def zol (ds:List D):Option D:=i2 ds fun a b=>if 0≤a∧0<b∧bd a b then some (idm a b) else none
noncomputable def zom (ds:List D):Option D:=i2 ds fun a b=>if 0<b∧bd a b then some (idm a b) else none
noncomputable def zqd (ds:List D):Option D:=i2 ds fun a b=>if b≠0∧bd a b then some (idm a b) else none
theorem ylt (hg:S.gl 23=some (.int 4000)) {ds:List D} {d:D} (h:zny ds=some d):zbb S zgt ds=some d:=by
 obtain ⟨a,b,n,rfl,h⟩:=yjf h
 obtain ⟨a,rfl,h⟩:=zas h
 obtain ⟨b,rfl,h⟩:=zas h
 obtain ⟨n,rfl,h⟩:=zas h
 obtain ⟨c,rfl⟩:=zfo h
 exact yhy hg c.1 c.2.1 c.2.2
theorem zzz (h12:S.cal 12=zny) (h30:S.cal 30=zlg) (h26:S.cal 26=zkr) {ds:List D} {d:D} (h:zey ds=some d):zbb S zen ds=some d:=by
 obtain ⟨a,b,rfl,h⟩:=zqc h
 obtain ⟨c,rfl⟩:=zfo h
 ··
   obtain ⟨c1,c2,c3,c4⟩:=c
   obtain ⟨a',rfl⟩:=Int.eq_ofNat_of_zero_le c1
   obtain ⟨b',rfl⟩:=Int.eq_ofNat_of_zero_le (Int.le_of_lt c2)
   rw [ybe]
   have h26':(2:Nat)^26=67108864:=by decide
   have hb0:0<ib (b':Int):=by
    rcases Nat.eq_zero_or_pos (ib (b':Int)) with q | q
    ·have:=yhb b';rw [q] at this;simp at this;omega
    ·exact q
   have hd:ib (b':Int)*zer a' (ib (b':Int))≤ib (a':Int)+ib (b':Int)-1:=Nat.mul_div_le _ _
   have hd2:zer a' (ib (b':Int))≤ib (a':Int)+ib (b':Int)-1:=Nat.div_le_self _ _
   refine zyb (by omega) c4 (by omega) (by omega) (fun t ht=>?_) h30 h26
   rw [h12]
   have hb1:b'.log2<9000:=by
    rw [Nat.log2_lt (by omega)]
    exact Nat.lt_of_lt_of_le (yhb b') (Nat.pow_le_pow_right (by omega) (by omega))
   have hib:=zxj ht
   show (if (b':Int)≠0∧(b':Int).natAbs.log2<9000∧(ib (t:Int):Int)-((ib (b':Int):Nat):Int)≤4000 then some (idm (t:Int) (b':Int)) else none)=_
   rw [if_pos ⟨by omega,by simpa using hb1,by omega⟩,ybe]
theorem ymh (h24:S.cal 24=zey) {ds:List D} {d:D} (h:zol ds=some d):zbb S zbw ds=some d:=by
 obtain ⟨a,b,rfl,h⟩:=zqc h
 obtain ⟨c,rfl⟩:=zfo h
 ··
   exact zos c.1 c.2.1 (by rw [h24];show (if _ then _ else _)=_;rw [if_pos c])
theorem ymi (h24:S.cal 24=zey) (h31:S.cal 31=zol) {ds:List D} {d:D} (h:zom ds=some d):zbb S zbw ds=some d:=by
 obtain ⟨a,b,rfl,h⟩:=zqc h
 obtain ⟨c,rfl⟩:=zfo h
 ··
   by_cases ha:0≤a
   ·exact zos ha c.1 (by rw [h24];show (if _ then _ else _)=_;rw [if_pos ⟨ha,c.1,c.2⟩])
   ·exact zvz (by omega) c.1 (by rw [h31];show (if _ then _ else _)=_;rw [if_pos ⟨by omega,c.1,Nat.le_trans (yjs (by omega)) c.2.1,c.2.2⟩])
theorem ymj (h24:S.cal 24=zey) (h31:S.cal 31=zom) {ds:List D} {d:D} (h:zqd ds=some d):zbb S zbw ds=some d:=by
 obtain ⟨a,b,rfl,h⟩:=zqc h
 obtain ⟨c,rfl⟩:=zfo h
 ··
   by_cases hb:0<b
   ·by_cases ha:0≤a
    ·exact zos ha hb (by rw [h24];show (if _ then _ else _)=_;rw [if_pos ⟨ha,hb,c.2⟩])
    ·exact zvz (by omega) hb (by rw [h31];show (if _ then _ else _)=_;rw [if_pos ⟨hb,Nat.le_trans (yjs (by omega)) c.2.1,c.2.2⟩])
   ·have:=c.1
    exact yib (by omega) (by rw [h31];show (if _ then _ else _)=_;rw [if_pos ⟨by omega,by rw [yjt];exact c.2.1,by rw [yjt];exact c.2.2⟩])
end Internal
section
namespace Internal
variable {S:Sig}
open PySem.StrLaws PySem.Builtin.Str
noncomputable def zhe (g w:List Nat) (s e:Nat):Option Nat:=(List.range' s (e+1-s)).find? fun k=>decide (k+w.length≤e)&&((g.drop k).take w.length==w)
theorem yar {l pre post:List Nat} {p:Nat→Bool} {a:Nat} (h:l=pre++a::post) (hn:∀ i∈pre,p i=false) (ha:p a=true):l.find? p=some a:=by
 subst h
 rw [List.find?_append,List.find?_eq_none.mpr (fun i m=>by rw [hn i m];exact Bool.false_ne_true),List.find?_cons,ha]
 rfl
theorem yhn (x y:Str) (lo hi:Nat):(occurrences x y lo hi 1).head?=zhe x.cps.toList y.cps.toList lo hi:=by
 have hp:∀ k,(decide (k+y.cps.toList.length≤hi)&&((x.cps.toList.drop k).take y.cps.toList.length==y.cps.toList))=true↔At x y hi k:=fun k=>by
  have e1:y.length=y.cps.toList.length:=by simp [Str.length]
  unfold At
  rw [subAt_eq,Bool.and_eq_true,decide_eq_true_eq,e1]
 rw [occ_eq]
 unfold zhe
 rcases occ_first x y hi 1 (Nat.le_refl 1) (List.range' lo (hi+1-lo)) lo (fun i hi=>by have:=List.mem_range'_1.mp hi;omega) with ⟨h0,hn⟩ | ⟨pre,a,post,e,h0,ha,hn⟩
 ·rw [h0]
  symm
  exact List.find?_eq_none.mpr fun k m q=>hn k m ((hp k).mp q)
 ·rw [yar e (fun i m=>by
   cases q:(decide (i+y.cps.toList.length≤hi)&&((x.cps.toList.drop i).take y.cps.toList.length==y.cps.toList)) with
   | false=>rfl
   | true=>exact absurd ((hp i).mp q) (hn i m)) ((hp a).mpr ha)]
  generalize (forIn (List.range' lo (hi+1-lo)) ((#[]:Array Nat),lo) (occBody x y hi 1)).run.fst=arr at h0
  have h1:arr.toList[0]?=some a:=by simpa using h0
  rw [← h1]
  cases arr.toList <;> rfl
theorem zvb (n i:Nat):fromIndex n (i:Int)=i:=by
 show (max 0 (if (i:Int)<0 then (i:Int)+n else i)).toNat=i
 rw [if_neg (by omega),Int.max_eq_right (by omega),Int.toNat_natCast]
theorem ygm {x y:Str} {i j:Nat} (hj:j≤x.length):zsp x y i j=match zhe x.cps.toList y.cps.toList i j with | some k=>(k:Int) | none => -1:=by
 unfold zsp
 have e1:fromIndex x.length (i:Int)=i:=zvb _ _
 have e2:fromIndex x.length (j:Int)=j:=zvb _ _
 rw [e1,e2,Nat.min_eq_left hj,← yhn]
 cases occurrences x y i j 1 <;> rfl
noncomputable def zdu (g:List Nat) (e:Nat):Nat→List (List Nat)→Bool
 | _,[]=>true
 | s,w::ws=>match zhe g w s e with
  | some k=>zdu g e (k+w.length) ws
  | none=>false
theorem zsd (a b:Int):zdq .Gt (.int a) (.int b)=some (.bool (decide (b<a))):=rfl
theorem zzk (a b:Int):zdq .GtE (.int a) (.int b)=some (.bool (decide (b≤a))):=rfl
theorem zuf {g:List Nat} {e:Nat} (he:e≤g.length) {body:Sts}
  (hbody:body=.cons (.set 35 (.mt .find3 (.var 36) (.cons (.var 33) (.cons (.var 35) (.cons (.var 37) .nil))))) (.cons (.ifs (.cmp .Lt (.var 35) (.lit (.int 0))) (.cons (.ret (.lit (.bool false))) .nil) .nil) (.cons (.aug 35 .Add (.bf .len (.cons (.var 33) .nil))) .nil))) :
  ∀ {ws:List (List Nat)} {s:Nat} {ρ:Rho},ρ.get 36=some (dtx g)→ρ.get 35=some (nint s)→ρ.get 37=some (nint e) →
   ∃ o,goL (fun d ρ'=>(zcn ρ' [33] d).bind fun ρ''=>exs S ρ'' body) (ws.map dtx) ρ=some o∧(zdu g e s ws=true→∃ ρ',o=.next ρ')∧(zdu g e s ws=false→o=.ret (.bool false))
 | [],s,ρ,_,_,_=>⟨.next ρ,rfl,fun _=>⟨ρ,rfl⟩,fun h=>by cases h⟩
 | w::ws,s,ρ,g1,g2,g3=>by
  subst hbody
  have G:∀ (ρ:Rho) (m k:Nat) (d:D),(ρ.set m d).get k=if k=m then some d else ρ.get k:=fun ρ m k d=>Rho.get_set ρ m k d
  have hf:zsp (tx g) (tx w) (s:Int) (e:Int)=match zhe g w s e with | some k=>(k:Int) | none => -1:=by
   have:=ygm (x:=tx g) (y:=tx w) (i:=s) (j:=e) (by simpa [Str.length] using he)
   simpa using this
  have s1:ev S (ρ.set 33 (dtx w)) (.mt .find3 (.var 36) (.cons (.var 33) (.cons (.var 35) (.cons (.var 37) .nil))))=some (.int (zsp (tx g) (tx w) s e)):=by
   have e1:ev S (ρ.set 33 (dtx w)) (.var 36)=some (dtx g):=zaa (by simp [G,g1])
   have e2:evs S (ρ.set 33 (dtx w)) (.cons (.var 33) (.cons (.var 35) (.cons (.var 37) .nil)))=some [dtx w,nint s,nint e] :=
    zab (zaa (by simp [G])) (zab (zaa (by simp [G,g2])) (zab (zaa (by simp [G,g3])) zah))
   exact bi e1 (bi e2 rfl)
  cases hw:zhe g w s e with
  | none =>
   rw [hw] at hf
   refine ⟨.ret (.bool false), ?_,fun h=>?_,fun _=>rfl⟩
   ·rw [List.map_cons]
    exact ygq (zad (zao s1) (zal (d:=.bool false) (zbc (t:=true) (zam (x:=.int (-1)) (zaa (by rw [Rho.get_set,if_pos rfl,hf])) rfl rfl) rfl)))
   ·have:zdu g e s (w::ws)=false:=by simp [zdu,hw]
    rw [this] at h;exact ff h
  | some k =>
   rw [hw] at hf
   obtain ⟨o,o1,o2,o3⟩:=zuf he rfl (ws:=ws) (s:=k+w.length) (ρ:=((ρ.set 33 (dtx w)).set 35 (nint k)).set 35 (nint (k+w.length))) (by simp [G,g1]) (by simp [G]) (by simp [G,g3])
   have ew:zdu g e s (w::ws)=zdu g e (k+w.length) ws:=by simp [zdu,hw]
   rw [ew]
   refine ⟨o, ?_,o2,o3⟩
   rw [List.map_cons]
   refine zfc ?_ o1
   show exs S (ρ.set 33 (dtx w)) _=_
   rw [hf] at s1
   refine zad (zao s1) (zad (ρ':=(ρ.set 33 (dtx w)).set 35 (nint k)) (zbc (t:=false) (zam (x:=nint k) (zaa (by simp [G])) rfl (by rw [zhk,decide_eq_false (by omega)])) rfl) (zad ?_ rfl))
   have e6:ev S ((ρ.set 33 (dtx w)).set 35 (nint k)) (.bf .len (.cons (.var 33) .nil))=some (nint w.length):=by
    refine bi (zab (zaa (show _=some (dtx w) by simp [G])) zah) ?_
    show some (PyData.int ((tx w).length:Nat))=_
    simp [Str.length]
   refine bi (show ((ρ.set 33 (dtx w)).set 35 (nint k)).get 35=some (nint k) by simp [G]) (bi e6 ?_)
   have e8:zuo .Add (nint k) (nint w.length)=some (nint (k+w.length)):=by
    show some (PyData.int ((k:Int)+(w.length:Int)))=_
    norm_cast
   rw [e8];rfl
end Internal
end
namespace Internal
variable {S:Sig}
noncomputable def ellE (g:List Nat) (s:Nat) (ws:List (List Nat)):Bool :=
 if ws.getLastD []=[] then (if g.length<s then false else zdu g g.length s ws)
 else if (ws.getLastD []).isSuffixOf g then (if g.length-(ws.getLastD []).length<s then false else zdu g (g.length-(ws.getLastD []).length) s ws.dropLast)
 else false
noncomputable def ellM (ps:List (List Nat)) (g:List Nat):Bool:=match ps with
 | []=>false
 | p::r=>if p=[] then ellE g 0 (p::r) else if p.isPrefixOf g then ellE g p.length r else false
noncomputable abbrev ysn:Sts:=.cons (.set 35 (.mt .find3 (.var 36) (.cons (.var 33) (.cons (.var 35) (.cons (.var 37) .nil))))) (.cons (.ifs (.cmp .Lt (.var 35) (.lit (.int 0))) (.cons (.ret (.lit (.bool false))) .nil) .nil) (.cons (.aug 35 .Add (.bf .len (.cons (.var 33) .nil))) .nil))
noncomputable abbrev yji:Sts:=.cons (.ifs (.cmp .Gt (.var 35) (.var 37)) (.cons (.ret (.lit (.bool false))) .nil) .nil) (.cons (.loop [33] (.own 34) ysn) (.cons (.ret (.lit (.bool true))) .nil))
noncomputable abbrev ypb:Sts:=.cons (.set 33 (.oget 34 (.neg (.lit (.int 1))))) (.cons (.ifs (.var 33) (.cons (.ifs (.mt .endswith (.var 36) (.cons (.var 33) .nil)) (.cons (.aug 37 .Sub (.bf .len (.cons (.var 33) .nil))) (.cons (.del 34 (-1)) .nil)) (.cons (.ret (.lit (.bool false))) .nil)) .nil) .nil) yji)
theorem yjk {g:List Nat} {s e:Nat} {ws:List (List Nat)} {ρ:Rho} (he:e≤g.length) (g1:ρ.get 36=some (dtx g)) (g2:ρ.get 35=some (nint s)) (g3:ρ.get 37=some (nint e)) (g4:ρ.get 34=some (.list (ws.map dtx))) :
  exs S ρ yji=some (.ret (.bool (if e<s then false else zdu g e s ws))):=by
 by_cases c:e<s
 ·rw [if_pos c]
  exact zal (zbc (t:=true) (zam (zaa g2) (zaa g3) (by rw [zsd,decide_eq_true (by omega)])) rfl)
 ·rw [if_neg c]
  refine zad (zbc (t:=false) (zam (zaa g2) (zaa g3) (by rw [zsd,decide_eq_false (by omega)])) rfl) ?_
  have dl:∀ k,k≠34→(ρ.del [34]).get k=ρ.get k:=fun k hk=>by
   rw [Rho.get_del,if_neg (by simpa using hk)]
  obtain ⟨o,o1,o2,o3⟩:=zuf (S:=S) (g:=g) he rfl (ws:=ws) (s:=s) (ρ:=ρ.del [34]) (by rw [dl _ (by decide),g1]) (by rw [dl _ (by decide),g2]) (by rw [dl _ (by decide),g3])
  have hs:zdk S ρ (.own 34)=some (ws.map dtx):=by
   exact li g4 rfl
  cases hw:zdu g e s ws with
  | true =>
   obtain ⟨ρ',rfl⟩:=o2 hw
   exact zad (zfm hs o1) (zal rfl)
  | false =>
   have:=o3 hw
   subst this
   exact zal (zfm hs o1)
theorem ygy {ws:List (List Nat)} (h:ws≠[]):(ws.map dtx)[ws.length-1]?=some (dtx (ws.getLastD [])):=by
 rw [List.getElem?_map]
 have:ws[ws.length-1]?=some (ws.getLastD []):=by
  rw [← List.getLast?_eq_getElem?]
  cases ws with
  | nil=>exact absurd rfl h
  | cons a r=>rw [List.getLastD_eq_getLast?,List.getLast?_eq_some_getLast (List.cons_ne_nil a r)];rfl
 rw [this];rfl
theorem zvi {n:Nat} (h:0<n):seqIndex? (-1) n=some (n-1):=by
 rw [PySem.StrLaws.seqIndex_neg (by decide) (by omega)]
 congr 1
 omega
theorem zsn {ρ:Rho} {n:Nat} {w:List Nat} (h:ρ.get n=some (dtx w)):ev S ρ (.bf .len (.cons (.var n) .nil))=some (nint w.length):=by
 refine bi (zab (zaa h) zah) ?_
 show some (PyData.int ((tx w).length:Nat))=_
 simp [Str.length]
theorem zkd {ρ:Rho} {n:Nat} {w:List Nat} (h:ρ.get n=some (dtx w)):evT S ρ (.var n)=some (!w.isEmpty):=by
 have e:evT S ρ (.var n)=(ρ.get n).bind truth:=rfl
 rw [e,h]
 show some (((tx w).length:Int) != 0)=_
 cases w with
 | nil=>rfl
 | cons a r=>simp [Str.length];omega
theorem zxf {ρ:Rho} {c:E} (h:evT S ρ c=some true):ex S ρ (.assert c)=some (.next ρ):=bi (k:=fun t=>bif t then some (Out.next ρ) else none) h rfl
theorem yjj {g:List Nat} {s:Nat} {ws:List (List Nat)} {ρ:Rho} (hw:ws≠[]) (g1:ρ.get 36=some (dtx g)) (g2:ρ.get 35=some (nint s)) (g3:ρ.get 37=some (nint g.length)) (g4:ρ.get 34=some (.list (ws.map dtx))) :
  exs S ρ ypb=some (.ret (.bool (ellE g s ws))):=by
 have hpos:0<ws.length:=List.length_pos_iff.mpr hw
 have G:∀ (ρ:Rho) (m k:Nat) (d:D),(ρ.set m d).get k=if k=m then some d else ρ.get k:=fun ρ m k d=>Rho.get_set ρ m k d
 generalize hlast:ws.getLastD []=w
 have e1:ev S ρ (.oget 34 (.neg (.lit (.int 1))))=some (dtx w):=by
  refine li g4 (bi (x:=.int (-1)) rfl ?_)
  show (seqIndex? (-1) (ws.map dtx).length).bind ((ws.map dtx)[·]?)=_
  rw [List.length_map,zvi hpos]
  show (ws.map dtx)[ws.length-1]?=_
  rw [ygy hw,hlast]
 refine zad (zao e1) ?_
 have g33:(ρ.set 33 (dtx w)).get 33=some (dtx w):=by simp [G]
 unfold ellE
 rw [hlast]
 by_cases c:w=[]
 ·rw [if_pos c]
  refine zad (zbc (t:=false) (by rw [zkd g33,c];rfl) rfl) ?_
  exact yjk (Nat.le_refl _) (by simp [G,g1]) (by simp [G,g2]) (by simp [G,g3]) (by simp [G,g4])
 ·rw [if_neg c]
  have ht:evT S (ρ.set 33 (dtx w)) (.var 33)=some true:=by
   rw [zkd g33]
   cases w with
   | nil=>exact absurd rfl c
   | cons _ _=>rfl
  have hm:evT S (ρ.set 33 (dtx w)) (.mt .endswith (.var 36) (.cons (.var 33) .nil))=some (w.isSuffixOf g):=by
   refine bi (x:=.bool (Txt.endswith (tx g) (tx w))) (bi (zaa (show (ρ.set 33 (dtx w)).get 36=some (dtx g) by simp [G,g1])) (bi (zab (zaa g33) zah) rfl)) ?_
   show some (Txt.endswith (tx g) (tx w))=_
   rw [zpt]
  by_cases c2:w.isSuffixOf g=true
  ·rw [if_pos c2]
   have hle:w.length≤g.length:=(List.isSuffixOf_iff_suffix.mp c2).length_le
   have hdel:(ws.map dtx).eraseIdx (ws.length-1)=ws.dropLast.map dtx:=by
    rw [List.map_dropLast,List.dropLast_eq_take,List.length_map,List.eraseIdx_eq_take_drop_succ,List.drop_of_length_le (by rw [List.length_map];omega),List.append_nil]
   refine zad (ρ':=((ρ.set 33 (dtx w)).set 37 (nint (g.length-w.length))).set 34 (.list (ws.dropLast.map dtx))) (zbc ht (zad (ρ':=((ρ.set 33 (dtx w)).set 37 (nint (g.length-w.length))).set 34 (.list (ws.dropLast.map dtx))) (zbc (t:=true) (by rw [hm,c2]) (zad (ρ':=(ρ.set 33 (dtx w)).set 37 (nint (g.length-w.length))) ?_ (zad ?_ rfl))) rfl)) ?_
   ·refine bi (show (ρ.set 33 (dtx w)).get 37=some (nint g.length) by simp [G,g3]) (bi (zsn g33) ?_)
    show (some (PyData.int ((g.length:Int)-(w.length:Int)))).map _=_
    rw [show (g.length:Int)-(w.length:Int)=((g.length-w.length:Nat):Int) by omega]
    rfl
   ·refine li (show ((ρ.set 33 (dtx w)).set 37 (nint (g.length-w.length))).get 34=some (.list (ws.map dtx)) by simp [G,g4]) ?_
    show ((seqIndex? (-1) (ws.map dtx).length).bind fun j=>some (Out.next (Rho.set ((ρ.set 33 (dtx w)).set 37 (nint (g.length-w.length))) 34 (.list ((ws.map dtx).eraseIdx j)))))=_
    rw [List.length_map,zvi hpos]
    show some (Out.next (Rho.set _ 34 (.list ((ws.map dtx).eraseIdx (ws.length-1)))))=_
    rw [hdel]
   ·exact yjk (by omega) (by simp [G,g1]) (by simp [G,g2]) (by simp [G]) (by simp [G])
  ·rw [if_neg c2]
   have c2:w.isSuffixOf g=false:=Bool.eq_false_iff.mpr c2
   exact zal (zbc ht (zal (zbc (t:=false) (by rw [hm,c2]) rfl)))
theorem zmy {x:Str} {b:Bool} (h:(!(Builtin.Str.occurrences x dots 0 x.length 1).isEmpty)=b):zdq .NotIn (.str "...") (.str x)=some (.bool (!b)):=by
 show some (PyData.bool (!(!(Builtin.Str.occurrences x dots 0 x.length 1).isEmpty)))=_
 rw [h]
theorem ynb {ps:List (List Nat)} {g:List Nat} (hg:S.gl 39=some (.str "...")) (hn:2≤ps.length) (hd:∀ p∈ps,46∉p) (hok:∀ p∈ps,okL p) (hl:ps.length≤100000):zbb S zbn [dtx (dotJ ps),dtx g]=some (.bool (ellM ps g)):=by
 have hne:ps≠[]:=fun e=>by rw [e] at hn;simp at hn
 have hsp:=zyj (x:=tx (dotJ ps)) rfl hn hd
 have hsp2:Txt.split (tx (dotJ ps)) dots=ps.map tx:=by
  have:((Txt.split (tx (dotJ ps)) dots).map (·.cps.toList)).map tx=ps.map tx:=by rw [hsp]
  rw [List.map_map] at this
  rw [← this]
  conv=>lhs;rw [← List.map_id (Txt.split (tx (dotJ ps)) dots)]
  refine List.map_congr_left fun x _=>?_
  exact Str.ext' (by simp)
 have hin:(!(Builtin.Str.occurrences (tx (dotJ ps)) dots 0 (tx (dotJ ps)).length 1).isEmpty)=true:=by
  rw [PySem.StrLaws.found_iff]
  obtain ⟨⟨f,c1,_⟩,_⟩:=zks (x:=tx (dotJ ps)) (ps:=ps) (a:=0) hne hd rfl (Nat.zero_le _)
  rcases ps with ⟨⟩ | ⟨p,⟨⟩ | ⟨q,r⟩⟩
  ·exact absurd rfl hne
  ·exact absurd hn (by decide:¬ 2≤1)
  ·exact ⟨_,c1.2.1⟩
 refine zcv rfl ?_
 show exs S [(38,dtx (dotJ ps)),(36,dtx g)] _=_
 refine zad (zbc (t:=false) (zam (x:=.str "...") (y:=dtx (dotJ ps)) (show S.gl 39=_ from hg) rfl (by rw [zmy hin];rfl)) rfl) ?_
 refine zad (ρ':=[(38,dtx (dotJ ps)),(36,dtx g),(34, .list (ps.map dtx))]) ?_ ?_
 ·refine si rfl (si (show S.gl 39=_ from hg) ?_)
  show (if decide (0<dots.length)&&sok (.list ((Txt.split (tx (dotJ ps)) dots).map .str)) then some (Out.next (Rho.set [(38,dtx (dotJ ps)),(36,dtx g)] 34 (.list ((Txt.split (tx (dotJ ps)) dots).map .str)))) else none)=_
  rw [hsp2,if_pos]
  ·rw [List.map_map];rfl
  ·rw [Bool.and_eq_true]
   refine ⟨rfl, ?_⟩
   show (decide (((ps.map tx).map PyData.str).length≤16777216)&&sokAll ((ps.map tx).map PyData.str))=true
   rw [Bool.and_eq_true,decide_eq_true_eq]
   refine ⟨by simp;omega,sokAll_iff.mpr fun x hx=>?_⟩
   rw [List.map_map] at hx
   obtain ⟨p,hp,rfl⟩:=mmp hx
   have:=hok p hp
   exact zjs (by have:=this.1;omega) this.2
 refine zad (ρ':=[(38,dtx (dotJ ps)),(36,dtx g),(34, .list (ps.map dtx))]) ?_ ?_
 ·exact zxf (zam (x:=.int ((ps.map dtx).length:Nat)) (y:=.int 2) rfl rfl (by rw [zzk,decide_eq_true (by rw [List.length_map];omega)]))
 refine zad (zoh (xs:=[nint 0,nint g.length]) ?_ rfl) ?_
 ·refine zso (zab rfl (zab (zsn (by rfl)) zah)) (nle rfl)
 show exs S [(38,dtx (dotJ ps)),(36,dtx g),(34, .list (ps.map dtx)),(35,nint 0),(37,nint g.length)] _=_
 match ps,hn,hne with
 | p::r,hn,_ =>
  have hr:r≠[]:=fun e=>by rw [e] at hn;simp at hn
  have e1:ev S [(38,dtx (dotJ (p::r))),(36,dtx g),(34, .list ((p::r).map dtx)),(35,nint 0),(37,nint g.length)] (.oget 34 (.lit (.int 0)))=some (dtx p):=by
   show (seqIndex? 0 ((p::r).map dtx).length).bind (((p::r).map dtx)[·]?)=_
   rw [seqIndex_of (by decide) (by simp)]
   rfl
  refine zad (zao e1) ?_
  show exs S [(38,dtx (dotJ (p::r))),(36,dtx g),(34, .list ((p::r).map dtx)),(35,nint 0),(37,nint g.length),(33,dtx p)] _=_
  show _=some (Out.ret (.bool (if p=[] then ellE g 0 (p::r) else if p.isPrefixOf g then ellE g p.length r else false)))
  by_cases c:p=[]
  ·rw [if_pos c]
   refine zad (zbc (t:=false) (by rw [zkd (w:=p) rfl,c];rfl) rfl) ?_
   exact yjj (by simp) rfl rfl rfl rfl
  ·rw [if_neg c]
   have ht:evT S [(38,dtx (dotJ (p::r))),(36,dtx g),(34, .list ((p::r).map dtx)),(35,nint 0),(37,nint g.length),(33,dtx p)] (.var 33)=some true:=by
    rw [zkd (w:=p) rfl]
    cases p with
    | nil=>exact absurd rfl c
    | cons _ _=>rfl
   have hm:evT S [(38,dtx (dotJ (p::r))),(36,dtx g),(34, .list ((p::r).map dtx)),(35,nint 0),(37,nint g.length),(33,dtx p)] (.mt .startswith (.var 36) (.cons (.var 33) .nil))=some (p.isPrefixOf g):=by
    show some (Txt.startswith (tx g) (tx p))=_
    rw [zlx]
   by_cases c2:p.isPrefixOf g=true
   ·rw [if_pos c2]
    have hb2:exs S [(38,dtx (dotJ (p::r))),(36,dtx g),(34, .list ((p::r).map dtx)),(35,nint 0),(37,nint g.length),(33,dtx p)] (.cons (.set 35 (.bf .len (.cons (.var 33) .nil))) (.cons (.del 34 0) .nil)) =
      some (.next [(38,dtx (dotJ (p::r))),(36,dtx g),(34, .list (r.map dtx)),(35,nint p.length),(37,nint g.length),(33,dtx p)]):=by
     refine zad (zao (zsn (w:=p) rfl)) ?_
     refine zad (ρ':=[(38,dtx (dotJ (p::r))),(36,dtx g),(34, .list (r.map dtx)),(35,nint p.length),(37,nint g.length),(33,dtx p)]) ?_ rfl
     exact li rfl (bi (seqIndex_of (by decide) (by simp)) rfl)
    have hb1:exs S [(38,dtx (dotJ (p::r))),(36,dtx g),(34, .list ((p::r).map dtx)),(35,nint 0),(37,nint g.length),(33,dtx p)] (.cons (.ifs (.mt .startswith (.var 36) (.cons (.var 33) .nil)) (.cons (.set 35 (.bf .len (.cons (.var 33) .nil))) (.cons (.del 34 0) .nil)) (.cons (.ret (.lit (.bool false))) .nil)) .nil) =
      some (.next [(38,dtx (dotJ (p::r))),(36,dtx g),(34, .list (r.map dtx)),(35,nint p.length),(37,nint g.length),(33,dtx p)]):=zad (zbc (t:=true) (by rw [hm,c2]) hb2) rfl
    refine zad (zbc ht hb1) ?_
    exact yjj hr rfl rfl rfl rfl
   ·rw [if_neg c2]
    have c2:p.isPrefixOf g=false:=Bool.eq_false_iff.mpr c2
    exact zal (zbc ht (zal (zbc (t:=false) (by rw [hm,c2]) rfl)))
theorem yhz {x g:List Nat} (hg:S.gl 39=some (.str "...")) (hd:46∉x):zbb S zbn [dtx x,dtx g]=some (.bool (x==g)):=by
 have hin:(!(Builtin.Str.occurrences (tx x) dots 0 (tx x).length 1).isEmpty)=false:=by
  cases q:(!(Builtin.Str.occurrences (tx x) dots 0 (tx x).length 1).isEmpty) with
  | false=>rfl
  | true =>
   rw [PySem.StrLaws.found_iff] at q
   obtain ⟨i,hi⟩:=q
   have:=zrx (x:=tx x) hi
   exact absurd (List.mem_of_getElem? this) (by simpa using hd)
 refine zcv rfl ?_
 show exs S [(38,dtx x),(36,dtx g)] _=_
 have e:ev S [(38,dtx x),(36,dtx g)] (.cmp .Eq (.var 38) (.var 36))=some (.bool (x==g)):=by
  refine zoe (x:=dtx x) (y:=dtx g) rfl rfl ?_
  show some (PyData.bool (tx x==tx g))=_
  congr 2
  rw [Bool.eq_iff_iff,beq_iff_eq,beq_iff_eq]
  constructor
  ·intro h;have:=congrArg (fun s:Str=>s.cps.toList) h;simpa using this
  ·intro h;rw [h]
 have hb:exs S [(38,dtx x),(36,dtx g)] (.cons (.ret (.cmp .Eq (.var 38) (.var 36))) .nil)=some (.ret (.bool (x==g))):=zal (zbu e)
 exact zal (zbc (t:=true) (zam (x:=.str "...") (y:=dtx x) (show S.gl 39=_ from hg) rfl (by rw [zmy hin];rfl)) hb)
end Internal
namespace Internal
section
variable {p prog:Program} {loose:List Str} {mean:ExcName→Option Value} {w:World} {h:Heap} {mg mb:Str→Option Value} {c1 P1 c2 P2:Addr} {pos1 pos2:Pos} {nm:List Str}
theorem zxh {f:Fn} {fd fd':FuncData} {body:List Stmt} {xs:List Str} (e:fd.scope=fd'.scope):fnOK nm f fd body xs=fnOK nm f fd' body xs:=by
 unfold fnOK zid;rw [e]
theorem yki (T:Top p loose mean mg mb h) (hT:TabsAt [(c1,P1),(c2,P2)] h) {x:Str} {f:Fn} {xs:List Str} (hr:zep nm p x f xs=true) :
  ∃ a fd d,zxz p x=some d∧mg x=some (.ref a)∧DefOK (gcOf prog w h mg mb c1 P1 c2 P2 pos1 pos2 nm) a fd d.body xs∧fnOK nm f fd d.body xs=true∧fd.scope=d.scope:=by
 unfold zep at hr
 split at hr
 ·rename_i d hd
  rw [Bool.and_eq_true] at hr
  obtain ⟨a,fd,hm,Df,hs,-,-⟩:=yax (prog:=prog) (w:=w) (pos1:=pos1) (pos2:=pos2) (nm:=nm) T hT hd hr.2
  exact ⟨a,fd,d,hd,hm,Df,(zxh hs).trans hr.1,hs⟩
 ·exact ff hr
theorem FunAt.rc (T:Top p loose mean mg mb h) (hT:TabsAt [(c1,P1),(c2,P2)] h) (ok:GOK (gcOf prog w h mg mb c1 P1 c2 P2 pos1 pos2 nm)) {cal:Nat→List D→Option D} {K U n:Nat} {x:Str} {f:Fn} {xs:List Str} {cf:List D→Option D} {gl:Nat→Option D}
  (hg:zhf (gcOf prog w h mg mb c1 P1 c2 P2 pos1 pos2 nm) gl) (hU:103≤U) (hn:nm[n]?=some x) (hr:zep nm p x f xs=true) (F:FunAt (gcOf prog w h mg mb c1 P1 c2 P2 pos1 pos2 nm) cal K U)
  (hc:∀ ds d,cf ds=some d→zbb ⟨cal,gl,false⟩ f ds=some d):FunAt (gcOf prog w h mg mb c1 P1 c2 P2 pos1 pos2 nm) (put cal n cf) (K+1) (U+3):=by
 obtain ⟨a,fd,d,-,hm,Df,hf,-⟩:=yki (prog:=prog) (w:=w) (pos1:=pos1) (pos2:=pos2) T hT hr
 exact F.add ok hU hn hm Df hf hg hc
noncomputable def yhq (p:Program) (x:Str) (k:DefRec→Bool):Bool:=match zxz p x with | some d=>k d | none=>false
theorem zqw {p:Program} {x:Str} {k:DefRec→Bool} (h:yhq p x k=true):∃ d,zxz p x=some d∧k d=true:=by
 unfold yhq at h
 cases e:zxz p x with
 | none=>rw [e] at h;exact ff h
 | some d=>rw [e] at h;exact ⟨d,rfl,h⟩
noncomputable def yos (nm:List Str) (p:Program) (pos1 pos2:Pos):Bool:=yhq p "_int2digits" fun d1=>yhq p "_digits2int" fun d2 =>
 zin d1 ["a", "n"]&&zin d2 ["digits", "n"]&&zve ⟨nm,i2dNames,[]⟩ ⟨0,0,pos1, ""⟩ d1.body&&zub ⟨nm,d2iNames,[]⟩ ⟨0,0,pos2, ""⟩ d2.body&&decide (d1.scope.names=i2dNames)&&decide (d2.scope.names=d2iNames)
noncomputable def ymb (p:Program) (loose:List Str) (x:Str):Bool:=!startupNames.contains x&&!loose.contains x&&!((recsOf p).map (·.name)).contains x&&!((litsOf p).map (·.1)).contains x&&!((clssOf p loose).map (·.name)).contains x
theorem ymc (T:Top p loose mean mg mb h) {x:Str} (hx:ymb p loose x=true):mg x=none:=by
 unfold ymb at hx
 simp only [Bool.and_eq_true,Bool.not_eq_true'] at hx
 obtain ⟨⟨⟨⟨h1,h2⟩,h3⟩,h4⟩,h5⟩:=hx
 have g:∀ {l:List Str},l.contains x=false→x∉l:=fun q m=>by rw [List.contains_iff_mem.mpr m] at q;cases q
 exact T.free x (g h1) (g h2) (g h3) (g h4) (g h5)
noncomputable def zut:List Stmt→Pos
 | []=>⟨0,0,0,0⟩
 | s::r=>if zew s fun _ _ _ _ _ _ _ _ _ _=>true then s.pos else zut r
noncomputable def zme (p:Program) (x:Str):Pos:=match zxz p x with
 | some d=>zut d.body
 | none=>⟨0,0,0,0⟩
noncomputable def zht (mg:Str→Option Value) (h:Heap) (x:Str) (c:Addr):Prop:=∀ a o fd,mg x=some (.ref a)→h.get? a=some o→o.data=.func fd→fd.code=.ref c
noncomputable def vRef (v:Value):Option Addr:=match v with | .ref a=>some a | _=>none
noncomputable def inNs (o:Obj) (x:Str):Option Value:=match o.data with | .dict es _=>nsFind es x | _=>none
noncomputable def inFn (o:Obj):Option Addr:=match o.data with | .func fd=>vRef fd.code | _=>none
noncomputable def ypr (o:Obj):Option Addr:=match o.data with | .fields vs=>(vs[11]?:Option Value).bind vRef | _=>none
noncomputable def tabP (h:Heap) (x:Str):Option Addr:=(h.get? mainGlobals).bind fun o=>(inNs o x).bind fun v=>(vRef v).bind fun a=>(h.get? a).bind fun o=>(inFn o).bind fun c=>(h.get? c).bind ypr
theorem zro {h h':Heap} {x:Str} {P:Addr} (k:∀ b o,h.get? b=some o→h'.get? b=some o) (e:tabP h x=some P):tabP h' x=some P :=
 zaq e fun _ e1 e=>zaq e fun _ e2 e=>zaq e fun _ e3 e=>zaq e fun _ e4 e=>zaq e fun _ e5 e=>zaq e fun _ e6 e =>
  bi (k _ _ e1) (bi e2 (bi e3 (bi (k _ _ e4) (bi e5 (bi (k _ _ e6) e)))))
theorem ykn (T:Top p loose mean mg mb h) {x:Str} {d:DefRec} {P:Addr} (hd:yhw p x d) (hP:tabP h x=some P):∃ c,CodeHd h c P∧h.get? P=some (tabObj #[])∧zht mg h x c:=by
 have hn:d.name=x:=bqp (List.find?_some (p:=fun e:DefRec=>e.name==x) hd)
 obtain ⟨a,o,fd,c,P',h1,h2,h3,h4,h5,h6⟩:=T.tab d (List.mem_of_find?_eq_some hd)
 rw [hn] at h1
 have hP':P'=P:=by
  obtain ⟨og,es,ep,g1,g2,_,g3⟩:=T.g
  obtain ⟨⟨oc,vs,i1,_,i2,i3⟩,_⟩:=h6
  have:tabP h x=some P':=by
   refine bi g1 (bi (x:=.ref a) ?_ (bi rfl (bi h2 (bi (x:=c) ?_ (bi i1 ?_)))))
   ·unfold inNs;rw [g2];exact (g3 x).trans h1
   ·unfold inFn;rw [h3];show vRef fd.code=_;rw [h4];rfl
   ·unfold ypr;rw [i2];exact bi i3 rfl
  rw [hP] at this
  exact (soi this).symm
 subst hP'
 refine ⟨c,CodeHd.of h5 h6,h6.2,fun a2 o2 fd2 m1 m2 m3=>?_⟩
 rw [h1] at m1;cases m1
 rw [h2] at m2;obtain rfl:=soi m2
 rw [h3] at m3;cases m3
 exact h4
structure Shared5 (p:Program) (loose:List Str) (nm:List Str) (pos1 pos2:Pos):Prop where
 nd:nm.Nodup
 pre:∀ (i:Nat) (x:Str),topNames[i]?=some x→nm[i]?=some x
 nb:bltNames.all (ymb p loose)=true
 g23:valOf p "_DIV_LIMIT" = some (.int 4000)
 g39:valOf p "ELLIPSIS_MARKER" = some (.str "...")
 b:yos nm p pos1 pos2=true
 r12:zep nm p "_div2n1n" zgt ["a", "b", "n"]=true
 r24:zep nm p "_divmod_pos" zen ["a", "b"]=true
 r31:zep nm p "int_divmod" zbw ["a", "b"]=true
 r32:zep nm p "_ellipsis_match" zbn ["want", "got"]=true
 r40:zep nm p "_escape_cdata" zcr ["text"]=true
 r42:zep nm p "_escape_attrib" zcm ["text"]=true
 r43:zep nm p "_escape_attrib_html" zbk ["text"]=true
 r44:zep nm p "_escape_cdata_c14n" zbo ["text"]=true
 r45:zep nm p "_escape_attrib_c14n" zbj ["text"]=true
 r46:zep nm p "_law_written" zce ["kind", "text"]=true
 r48:zep nm p "_law_spelled" zcx ["kind", "text"]=true
variable (T:Top p loose mean mg mb h) (hT:TabsAt [(c1,P1),(c2,P2)] h) (hne:P1≠P2) (R:Shared5 p loose nm pos1 pos2)
include T hT hne R
theorem yij:GOK (gcOf prog w h mg mb c1 P1 c2 P2 pos1 pos2 nm):=ysq T hT R.nd fun x hx=>ymc T (latp R.nb x hx)
theorem ynj:zhf (gcOf prog w h mg mb c1 P1 c2 P2 pos1 pos2 nm) topGl:=yme T fun n x d hn hd=>by
 unfold topGl at hd
 split at hd
 ·obtain rfl:=soi hd
  rw [R.pre 23 "_DIV_LIMIT" rfl] at hn;obtain rfl:=soi hn
  exact ⟨R.g23,rfl⟩
 ·obtain rfl:=soi hd
  rw [R.pre 39 "ELLIPSIS_MARKER" rfl] at hn;obtain rfl:=soi hn
  exact ⟨R.g39,by decide +kernel⟩
 ·exact nn hd
noncomputable def calB:Nat→List D→Option D:=put (put (fun _ _=>none) 30 zlg) 26 zkr
omit T hT hne R in
theorem ycg:∀ (i:Nat) (x:Str),zlp[i]?=some x→topNames[i]?=some x:=fun i x hx=>by
 have e:zlp=topNames.take 12:=by decide +kernel
 rw [e,List.getElem?_take] at hx
 split at hx
 ·exact hx
 ·exact nn hx
omit T hT hne R in
theorem ysw:("_int2digits" : Str) ++ ".<locals>." ++ ("inner" : Str) = "_int2digits.<locals>.inner":=by decide +kernel
omit T hT hne R in
theorem ysx:("_digits2int" : Str) ++ ".<locals>." ++ ("inner" : Str) = "_digits2int.<locals>.inner":=by decide +kernel
theorem yni (hc1:zht mg h "_int2digits" c1) (hc2:zht mg h "_digits2int" c2):FunAt (gcOf prog w h mg mb c1 P1 c2 P2 pos1 pos2 nm) calB 30 200:=by
 obtain ⟨d1,h1,hb⟩:=zqw R.b
 obtain ⟨d2,h2,hb⟩:=zqw hb
 simp only [Bool.and_eq_true,decide_eq_true_eq] at hb
 obtain ⟨⟨⟨⟨⟨b1,b2⟩,b3⟩,b4⟩,b5⟩,b6⟩:=hb
 obtain ⟨a1,fd1,m1,D1,s1,q1,o1,e1,e2⟩:=yax (prog:=prog) (w:=w) (pos1:=pos1) (pos2:=pos2) (nm:=nm) T hT h1 b1
 obtain ⟨a2,fd2,m2,D2,s2,q2,o2,e3,e4⟩:=yax (prog:=prog) (w:=w) (pos1:=pos1) (pos2:=pos2) (nm:=nm) T hT h2 b2
 exact yfh (G:=gcOf prog w h mg mb c1 P1 c2 P2 pos1 pos2 nm) (yij T hT hne R) (ymf hne) (fun i x hx=>R.pre i x (ycg i x hx)) (by decide) (R.pre 30 "_int2digits" rfl) (R.pre 26 "_digits2int" rfl) m1 m2 (t1:=⟨c1,P1,pos1, "_int2digits.<locals>.inner"⟩) (t2:=⟨c2,P2,pos2, "_digits2int.<locals>.inner"⟩)
  (by show _∈[_,_];simp) (by show _∈[_,_];simp) D1 D2 b3 b4 (by rw [s1];exact b5) (by rw [s2];exact b6) (hc1 a1 o1 fd1 m1 e1 e2) (hc2 a2 o2 fd2 m2 e3 e4) (by rw [q1];exact ysw) (by rw [q2];exact ysx)
noncomputable def ysi:Nat→List D→Option D:=put calB 12 zny
noncomputable def ysj:Nat→List D→Option D:=put ysi 24 zey
noncomputable def you:Nat→List D→Option D:=put ysj 31 zol
noncomputable def yov:Nat→List D→Option D:=put you 31 zom
noncomputable def zzg:Nat→List D→Option D:=put yov 31 zqd
noncomputable def yfl:Nat→List D→Option D:=put zzg 32 fun ds=>zbb ⟨zzg,topGl,false⟩ zbn ds
noncomputable def yfm:Nat→List D→Option D:=put yfl 40 fun ds=>zbb ⟨yfl,topGl,false⟩ zcr ds
noncomputable def yfn:Nat→List D→Option D:=put yfm 42 fun ds=>zbb ⟨yfm,topGl,false⟩ zcm ds
noncomputable def yfo:Nat→List D→Option D:=put yfn 43 fun ds=>zbb ⟨yfn,topGl,false⟩ zbk ds
noncomputable def yfp:Nat→List D→Option D:=put yfo 44 fun ds=>zbb ⟨yfo,topGl,false⟩ zbo ds
noncomputable def zzh:Nat→List D→Option D:=put yfp 45 fun ds=>zbb ⟨yfp,topGl,false⟩ zbj ds
noncomputable def yfq:Nat→List D→Option D:=put zzh 46 fun ds=>zbb ⟨zzh,topGl,false⟩ zce ds
noncomputable def zkn:Nat→List D→Option D:=put yfq 48 fun ds=>zbb ⟨yfq,topGl,false⟩ zcx ds
theorem yqs (hc1:zht mg h "_int2digits" c1) (hc2:zht mg h "_digits2int" c2):FunAt (gcOf prog w h mg mb c1 P1 c2 P2 pos1 pos2 nm) zkn 43 239:=by
 have ok:GOK (gcOf prog w h mg mb c1 P1 c2 P2 pos1 pos2 nm):=yij T hT hne R
 have gl:zhf (gcOf prog w h mg mb c1 P1 c2 P2 pos1 pos2 nm) topGl:=ynj T hT hne R
 have f0:FunAt (gcOf prog w h mg mb c1 P1 c2 P2 pos1 pos2 nm) calB 30 200:=yni T hT hne R hc1 hc2
 have f1:=FunAt.rc T hT ok gl (n:=12) (cf:=zny) (by omega) (R.pre 12 "_div2n1n" rfl) R.r12 f0 fun ds d e=>ylt rfl e
 have f2:=FunAt.rc T hT ok gl (n:=24) (cf:=zey) (by omega) (R.pre 24 "_divmod_pos" rfl) R.r24 f1 fun ds d e=>zzz rfl rfl rfl e
 have f3:=FunAt.rc T hT ok gl (n:=31) (cf:=zol) (by omega) (R.pre 31 "int_divmod" rfl) R.r31 f2 fun ds d e=>ymh rfl e
 have f4:=FunAt.rc T hT ok gl (n:=31) (cf:=zom) (by omega) (R.pre 31 "int_divmod" rfl) R.r31 f3 fun ds d e=>ymi rfl rfl e
 have f5:=FunAt.rc T hT ok gl (n:=31) (cf:=zqd) (by omega) (R.pre 31 "int_divmod" rfl) R.r31 f4 fun ds d e=>ymj rfl rfl e
 have f6:=FunAt.rc T hT ok gl (n:=32) (cf:=fun ds=>zbb ⟨zzg,topGl,false⟩ zbn ds) (by omega) (R.pre 32 "_ellipsis_match" rfl) R.r32 f5 fun ds d e=>e
 have f7:=FunAt.rc T hT ok gl (n:=40) (cf:=fun ds=>zbb ⟨yfl,topGl,false⟩ zcr ds) (by omega) (R.pre 40 "_escape_cdata" rfl) R.r40 f6 fun ds d e=>e
 have f8:=FunAt.rc T hT ok gl (n:=42) (cf:=fun ds=>zbb ⟨yfm,topGl,false⟩ zcm ds) (by omega) (R.pre 42 "_escape_attrib" rfl) R.r42 f7 fun ds d e=>e
 have f9:=FunAt.rc T hT ok gl (n:=43) (cf:=fun ds=>zbb ⟨yfn,topGl,false⟩ zbk ds) (by omega) (R.pre 43 "_escape_attrib_html" rfl) R.r43 f8 fun ds d e=>e
 have f10:=FunAt.rc T hT ok gl (n:=44) (cf:=fun ds=>zbb ⟨yfo,topGl,false⟩ zbo ds) (by omega) (R.pre 44 "_escape_cdata_c14n" rfl) R.r44 f9 fun ds d e=>e
 have f11:=FunAt.rc T hT ok gl (n:=45) (cf:=fun ds=>zbb ⟨yfp,topGl,false⟩ zbj ds) (by omega) (R.pre 45 "_escape_attrib_c14n" rfl) R.r45 f10 fun ds d e=>e
 have f12:=FunAt.rc T hT ok gl (n:=46) (cf:=fun ds=>zbb ⟨zzh,topGl,false⟩ zce ds) (by omega) (R.pre 46 "_law_written" rfl) R.r46 f11 fun ds d e=>e
 exact FunAt.rc T hT ok gl (n:=48) (cf:=fun ds=>zbb ⟨yfq,topGl,false⟩ zcx ds) (by omega) (R.pre 48 "_law_spelled" rfl) R.r48 f12 fun ds d e=>e
theorem yqr {cal:Nat→List D→Option D} {K U:Nat} {f:Fn} {fa:Addr} {s₁:Shared} {vals:List Value} {ds:List D} {dr:D} {Q:Value→Shared→Prop} {E:Value→Shared→Prop} {xs:List Str} (hs:s₁.heap=h) (htk:0<s₁.toks) (F:FunAt (gcOf prog w h mg mb c1 P1 c2 P2 pos1 pos2 nm) cal K U) (hK:K≤400) (hU:U≤1000) (hr:zep nm p "law" f xs=true) (hmg:mg "law" = some (.ref fa))
  (r:VReps w [] h vals ds) (hrun:zbb ⟨cal,topGl,false⟩ f ds=some dr) (q:∀ v s',Ext (gcOf prog w h mg mb c1 P1 c2 P2 pos1 pos2 nm) s₁ s'→VRep w [] s'.heap v dr→Q v s'):wpAny (model prog w) callerA (call (.ref fa) vals) Q E s₁:=by
 subst hs
 have ok:GOK (gcOf prog w s₁.heap mg mb c1 P1 c2 P2 pos1 pos2 nm):=yij T hT hne R
 have gl:zhf (gcOf prog w s₁.heap mg mb c1 P1 c2 P2 pos1 pos2 nm) topGl:=ynj T hT hne R
 obtain ⟨a,fd,d,-,hm,Df,hf,hsc⟩:=yki (prog:=prog) (w:=w) (pos1:=pos1) (pos2:=pos2) T hT hr
 rw [hmg] at hm;cases hm
 have hlim:302+400<recursionLimit:=by decide
 have hcl:4+3+1200<cLine:=by decide
 have hd0:callerA.depth=301:=rfl
 have hu0:callerA.units=4:=rfl
 have FO:∀ env,FunOK (gcOf prog w s₁.heap mg mb c1 P1 c2 P2 pos1 pos2 nm) (callerA.deeper env) cal:=fun env=>F.go _ rfl (by show callerA.depth+1+K<_;omega) (by show callerA.units+3+U<_;omega)
 exact zuw (S:=⟨cal,topGl,false⟩) ok rfl (by omega) (by omega) (ymd hT) htk (fun _ m=>by cases m) r Df hf FO gl hrun Q E q
end
theorem yfr (ps:List (List Nat)) (g:List Nat) (hn:2≤ps.length) (hd:∀ p∈ps,46∉p) (hok:∀ p∈ps,okL p) (hl:ps.length≤100000):zkn 32 [dtx (dotJ ps),dtx g]=some (.bool (ellM ps g)):=ynb (S:=⟨zzg,topGl,false⟩) rfl hn hd hok hl
theorem zzi (x g:List Nat) (hd:46∉x):zkn 32 [dtx x,dtx g]=some (.bool (x==g)):=yhz (S:=⟨zzg,topGl,false⟩) rfl hd
theorem yfs (k:Nat) (l:List Nat) (hk:k<5) (hl:okL l):zkn 46 [nint k,dtx l]=some (dtx (escL (zcb (zdy k)) l)):=by
 refine ztj (S:=⟨zzh,topGl,false⟩) hk ?_
 exact zlc (P:=fun k=>zzh (yoa k) [dtx l]=some (dtx (escL (zcb (zdy k)) l))) (yda (S:=⟨yfl,topGl,false⟩) hl) (zya (S:=⟨yfm,topGl,false⟩) hl) (yia (S:=⟨yfn,topGl,false⟩) hl) (zth (S:=⟨yfo,topGl,false⟩) hl) (zrf (S:=⟨yfp,topGl,false⟩) hl) k hk
theorem yft (k:Nat) (l:List Nat) (hk:k<5) (hl:okL l):zkn 48 [nint k,dtx l]=some (dtx (escL (zcb (zdy k)) l)):=zti (S:=⟨yfq,topGl,false⟩) hk hl
theorem script_reps {w:World} {P:Params} {h:Heap} {a:Addr} {ns:List Int} {as:List Addr} (r:Reads h (.ref a) (.list (ns.map PyData.int)) as) (hw:Well P h (.ref a) (ofPy (.list (ns.map PyData.int)))) (hl:ns.length≤1000):VReps w [] h [.ref a] [.list (ns.map PyData.int)]:=by
 have ra:∀ {vs:List Value} {ns:List Int} {as:List Addr},ReadsAll h vs (ns.map PyData.int) as→as=[]:=by
  intro vs ns
  induction ns generalizing vs with
  | nil=>intro as x;cases x;rfl
  | cons n ns ih=>intro as x;cases x with | cons x y=>cases x;rw [ih y];rfl
 have so:∀ ns:List Int,sokAll (ns.map PyData.int)=true:=fun ns=>sokAll_iff.mpr fun x hx=>by
  obtain ⟨i,_,rfl⟩:=mmp hx;rfl
 cases r with
 | list h1 h2 h3 h4 =>
  obtain rfl:=ra h4
  have ho:HashAt w h a:=fun o e=>by
   cases hw with
   | list e1 _ =>
    rw [e1] at e;obtain rfl:=soi e
    exact ⟨rfl,fun es n q=>by cases q⟩
  refine ⟨_, .cons (.list h1 h2 h3 h4) .nil,fun b m=>?_, ?_⟩
  ·simp only [List.append_nil,List.mem_cons,List.not_mem_nil,or_false] at m
   subst m
   exact ⟨by simp,ho⟩
  ·show (sok (.list (ns.map PyData.int))&&true)=true
   rw [Bool.and_true]
   show (decide ((ns.map PyData.int).length≤16777216)&&sokAll (ns.map PyData.int))=true
   rw [so,Bool.and_true,decide_eq_true_eq,List.length_map]
   omega
noncomputable def viewOf (p:Program):Program:={ p with main:={ p.main with body:=p.main.body.filter fun s=>!(zqu s fun t _=>zcl t fun x _=>x==("__name__" : Str)) } }
noncomputable def obs5 (s:Shared):Option Addr × Option Addr × Nat:=(tabP s.heap "_int2digits",tabP s.heap "_digits2int",s.toks)
noncomputable def val5 (P1 P2 t:Nat) (_:World):Option Addr × Option Addr × Nat:=(some P1,some P2,t)
theorem obs_at {w:World} {s₀ s₁:Shared} {p:Program} {loose:List Str} {mean:ExcName→Option Value} {mg mb:Str→Option Value} {P1 P2 t:Nat} {d1 d2:DefRec} (y:obs5 s₀=val5 P1 P2 t w) (k:∀ b o,s₀.heap.get? b=some o→s₁.heap.get? b=some o)
  (T:Top p loose mean mg mb s₁.heap) (h1:yhw p "_int2digits" d1) (h2:yhw p "_digits2int" d2):s₀.toks=t∧∃ c1 c2,TabsAt [(c1,P1),(c2,P2)] s₁.heap∧zht mg s₁.heap "_int2digits" c1∧zht mg s₁.heap "_digits2int" c2:=by
 have y1:tabP s₀.heap "_int2digits" = some P1:=congrArg Prod.fst y
 have y2:tabP s₀.heap "_digits2int" = some P2:=congrArg (fun x=>x.2.1) y
 obtain ⟨c1,a1,a2,a3⟩:=ykn T h1 (zro k y1)
 obtain ⟨c2,b1,b2,b3⟩:=ykn T h2 (zro k y2)
 exact ⟨congrArg (fun x=>x.2.2) y,c1,c2,List.forall_mem_cons.mpr ⟨⟨a1,a2⟩,List.forall_mem_cons.mpr ⟨⟨b1,b2⟩,fun _ h=>nomatch h⟩⟩,a3,b3⟩
end Internal
namespace Internal
variable {S:Sig}
theorem ysh (a b:Int):zez .Add (.int a) (.int b)=some (.int (a+b)):=rfl
end Internal
namespace Internal
structure Code (u v:List Nat):Prop where
 u0:u≠[]
 v0:v≠[]
 p1:¬ u <+: v
 p2:¬ v <+: u
 s1:¬ u <:+ v
 s2:¬ v <:+ u
noncomputable def wd (u v:List Nat) (x:List Bool):List Nat:=x.flatMap fun b=>if b then v else u
theorem zcf (u v:List Nat) (x y:List Bool):wd u v (x++y)=wd u v x++wd u v y:=by simp [wd]
theorem zcu (u v:List Nat) (b:Bool) (x:List Bool):wd u v (b::x)=(if b then v else u)++wd u v x:=by simp [wd]
theorem zwq {u v:List Nat} (h0:u≠[]∧v≠[]) (h:¬ u <+: v∧¬ v <+: u):∀ {x y:List Bool},wd u v x <+: wd u v y→x <+: y
 | [],y,_=>List.nil_prefix
 | a::x,[],hp=>by
  rw [zcu] at hp
  have:=List.prefix_nil.mp (show _ <+: [] from hp)
  have h1:=(List.append_eq_nil_iff.mp this).1
  cases a
  ·exact absurd h1 h0.1
  ·exact absurd h1 h0.2
 | a::x,b::y,hp=>by
  rw [zcu,zcu] at hp
  by_cases e:a=b
  ·subst e
   have:=zwq h0 h ((List.prefix_append_right_inj _).mp hp)
   exact List.cons_prefix_cons.mpr ⟨rfl,this⟩
  ·have h1:(if a then v else u) <+: (if b then v else u)++wd u v y:=(List.prefix_append _ _).trans hp
   have h2:(if b then v else u) <+: (if b then v else u)++wd u v y:=List.prefix_append _ _
   rcases List.prefix_or_prefix_of_prefix h1 h2 with q | q
   ·cases a <;> cases b <;> simp at e q
    ·exact absurd q h.1
    ·exact absurd q h.2
   ·cases a <;> cases b <;> simp at e q
    ·exact absurd q h.2
    ·exact absurd q h.1
theorem zto {u v:List Nat} {x y:List Bool} (h:x <+: y):wd u v x <+: wd u v y:=by
 obtain ⟨r,rfl⟩:=h
 rw [zcf]
 exact List.prefix_append _ _
theorem yku (u v:List Nat) (x:List Bool):(wd u v x).reverse=wd u.reverse v.reverse x.reverse:=by
 induction x with
 | nil=>rfl
 | cons b x ih =>
  rw [zcu,List.reverse_append,ih,List.reverse_cons,zcf]
  congr 1
  cases b <;> simp [wd]
theorem Code.pre {u v:List Nat} (c:Code u v) (x y:List Bool):(wd u v x).isPrefixOf (wd u v y)=x.isPrefixOf y:=by
 rw [Bool.eq_iff_iff,List.isPrefixOf_iff_prefix,List.isPrefixOf_iff_prefix]
 exact ⟨zwq ⟨c.u0,c.v0⟩ ⟨c.p1,c.p2⟩,zto⟩
theorem Code.suf {u v:List Nat} (c:Code u v) (x y:List Bool):(wd u v x).isSuffixOf (wd u v y)=x.isSuffixOf y:=by
 have h:∀ {α:Type} (a b:List α),a <:+ b↔a.reverse <+: b.reverse:=fun a b=>List.reverse_prefix.symm
 rw [Bool.eq_iff_iff,List.isSuffixOf_iff_suffix,List.isSuffixOf_iff_suffix,h,h,yku,yku]
 refine ⟨zwq ⟨by simpa using c.u0,by simpa using c.v0⟩ ⟨fun q=>c.s1 (List.reverse_prefix.mp q),fun q=>c.s2 (List.reverse_prefix.mp q)⟩,zto⟩
theorem yiv {u v:List Nat} (c:Code u v) {x:List Bool} (h:x≠[]):wd u v x≠[]:=by
 cases x with
 | nil=>exact absurd rfl h
 | cons b x =>
  rw [zcu]
  intro q
  have h1:=(List.append_eq_nil_iff.mp q).1
  cases b
  ·exact c.u0 h1
  ·exact c.v0 h1
noncomputable def mk:List Bool→List Bool × List Bool
 | []=>([false],[true])
 | true::r=>((mk r).1++(mk r).2,(mk r).2)
 | false::r=>((mk r).1,(mk r).1++(mk r).2)
theorem zmn {g w:List Nat} {s e:Nat} (h:s+w.length≤e) (hw:(g.drop s).take w.length=w):zhe g w s e=some s:=by
 unfold zhe
 have:e+1-s=(e-s)+1:=by omega
 rw [this,List.range'_succ,List.find?_cons]
 have hc:(decide (s+w.length≤e)&&((g.drop s).take w.length==w))=true:=by rw [Bool.and_eq_true,decide_eq_true_eq,beq_iff_eq];exact ⟨h,hw⟩
 rw [hc]
theorem yiu {g:List Nat} {s e:Nat} (h:s≤e):zdu g e s [[]]=true:=by
 simp only [zdu]
 rw [zmn (by simpa using h) (by simp)]
variable {S:Sig}
structure Facts (S:Sig):Prop where
 c30:S.cal 30=zlg
 c26:S.cal 26=zkr
 c31:S.cal 31=zqd
 c32:∀ ps g,2≤ps.length→(∀ p∈ps,46∉p)→(∀ p∈ps,okL p)→ps.length≤100000→S.cal 32 [dtx (dotJ ps),dtx g]=some (.bool (ellM ps g))
 c320:∀ x g,46∉x→S.cal 32 [dtx x,dtx g]=some (.bool (x==g))
 c46:∀ k l,k<5→okL l→S.cal 46 [nint k,dtx l]=some (dtx (escL (zcb (zdy k)) l))
 c48:∀ k l,k<5→okL l→S.cal 48 [nint k,dtx l]=some (dtx (escL (zcb (zdy k)) l))
theorem zco {ρ:Rho} {e1 e2:E} {a b:List Nat} (h1:ev S ρ e1=some (dtx a)) (h2:ev S ρ e2=some (dtx b)) (hl:a.length+b.length≤100000):ev S ρ (.bin .Add e1 e2)=some (dtx (a++b)):=by
 refine zaf h1 h2 ?_
 show (if decide ((tx a).length+(tx b).length≤16777216) then some (PyData.str (tx a++tx b)) else none)=_
 rw [if_pos (decide_eq_true (by simp [Str.length];omega))]
 congr 2
 exact Str.of_list (by show (a.toArray++b.toArray).toList=(a++b).toArray.toList;simp)
theorem yah {ρ:Rho} {e1 e2:E} {a b:List D} (h1:ev S ρ e1=some (.list a)) (h2:ev S ρ e2=some (.list b)) (hl:a.length+b.length≤100000):ev S ρ (.bin .Add e1 e2)=some (.list (a++b)):=by
 refine zaf h1 h2 ?_
 show (if decide (a.length+b.length≤16777216) then some (PyData.list (a++b)) else none)=_
 rw [if_pos (decide_eq_true (by omega))]
end Internal
namespace Internal
variable {S:Sig}
noncomputable def zis (v:Option Nat) (d n:Nat):Nat:=match v with | none=>d | some i=>min i n
theorem zwx (lo hi:Option Nat) (n:Nat):sliceBounds (lo.map (fun i:Nat=>(i:Int))) (hi.map (fun i:Nat=>(i:Int))) none n=(((zis lo 0 n:Nat):Int),((zis hi n n:Nat):Int),(1:Int)):=by
 have c:∀ i:Nat,(if ((i:Int))<0 then (i:Int)+n else i)=i:=fun i=>if_neg (by omega)
 unfold sliceBounds zis
 cases lo <;> cases hi <;> simp only [Option.map_none,Option.map_some,Option.getD_none,show (1:Int) > 0 by decide,if_true,c,Prod.mk.injEq,and_true] <;> first | (constructor <;> omega) | omega | rfl
theorem zsg {α:Type} (xs:List α) (lo hi:Option Nat):cut xs (lo.map (fun i:Nat=>(i:Int))) (hi.map (fun i:Nat=>(i:Int))) none=(xs.drop (zis lo 0 xs.length)).take (zis hi xs.length xs.length-zis lo 0 xs.length):=by
 unfold cut
 rw [zwx]
 dsimp only
 rw [sliceRange_one]
 have h:zis hi xs.length xs.length≤xs.length:=by unfold zis;cases hi <;> simp <;> omega
 have h2:zis lo 0 xs.length≤xs.length:=by unfold zis;cases lo <;> simp <;> omega
 exact PySem.StrLaws.picks xs _ _ (by omega)
noncomputable abbrev D3:List Nat:=[46,46,46]
theorem ylu:("..." : Str)=tx D3:=Str.of_list zkt
theorem lit3 {ρ:Rho}:ev S ρ (.lit (.str "..."))=some (dtx D3):=congrArg (fun x=>some (PyData.str x)) ylu
end Internal
namespace Internal
variable {S:Sig}
theorem yfy (n:Nat):∀ ns:List Nat,(ns.map nint).all (fun x=>dep (n+1) x)=true:=fun ns=>List.all_eq_true.mpr fun x hx=>by
 obtain ⟨m,_,rfl⟩:=mmp hx
 rfl
theorem pow2 (k:Nat) (hk:k≤1000000):zez .Pow (.int 2) (nint k)=some (nint (2^k)):=by
 show (if decide ((0:Int)≤k)&&decide (((ib 2:Nat):Int)*(k:Int)≤2^27) then some (PyData.int (2^((k:Int)).toNat)) else none)=_
 have:(ib 2:Nat)=2:=by decide
 rw [this,Int.toNat_natCast,if_pos]
 ·norm_cast
 ·have:(2:Int)^27=134217728:=by decide
  rw [this]
  simp only [Bool.and_eq_true,decide_eq_true_eq]
  omega
theorem zli:∀ ns:List Nat,zgi (ns.map nint)=some (ns.map fun n:Nat=>(n:Int))
 | []=>rfl
 | n::ns=>by
  have e:zgi ((n::ns).map nint)=(zgi (ns.map nint)).map ((n:Int) :: ·):=rfl
  rw [e,zli ns];rfl
theorem zoy:∀ ns:List Nat,(ns.map fun n:Nat=>(n:Int)).sum=((ns.sum:Nat):Int)
 | []=>rfl
 | n::ns=>by rw [List.map_cons,List.sum_cons,zoy ns,List.sum_cons];norm_cast
theorem ycz {n:Nat} (h:n≤16777216):zdi 0 (n:Int) 1=some ((List.range n).map nint):=by
 unfold zdi
 rw [if_pos]
 ·have:((n:Int)-0+1-1) / 1=n:=by omega
  rw [this,Int.toNat_natCast]
  congr 1
  refine List.map_congr_left fun k _=>?_
  show PyData.int (0+(k:Int)*1)=PyData.int k
  rw [Int.zero_add,Int.mul_one]
 ·simp only [Bool.and_eq_true,decide_eq_true_eq]
  omega
theorem zic {ρ:Rho} {e:E} {n:Nat} (h:ev S ρ e=some (nint n)) (hn:n≤16777216):zdk S ρ (.range (.cons e .nil))=some ((List.range n).map nint):=by
 have e1:zdk S ρ (.range (.cons e .nil))=(evs S ρ (.cons e .nil)).bind evRange:=rfl
 rw [e1,zab h zah]
 exact ycz hn
theorem yai {ρ:Rho} {e:E} {ds:List D} (h:ev S ρ e=some (.list ds)):ev S ρ (.bf .len (.cons e .nil))=some (nint ds.length):=bi (zab h zah) rfl
theorem yaj {ρ:Rho} {e:E} {l:List Nat} (h:ev S ρ e=some (dtx l)):ev S ρ (.bf .len (.cons e .nil))=some (nint l.length):=bi (zab h zah) rfl
end Internal
namespace Internal
variable {S:Sig}
theorem zdc {a b:Nat} (h:0<b):zez .Mod (nint a) (nint b)=some (nint (a % b)):=by
 show (if (b:Int) != 0 then some (PyData.int ((a:Int).fmod b)) else none)=_
 rw [if_pos (by simpa using (by omega:b≠0)),Int.fmod_eq_emod_of_nonneg _ (Int.natCast_nonneg _)]
 norm_cast
theorem zfk {a b:Nat} (h:0<b) (h2:b<2^60):zez .FloorDiv (nint a) (nint b)=some (nint (a / b)):=by
 show (if (b:Int) != 0&&decide ((b:Int).natAbs.log2<9000) then some (PyData.int ((a:Int).fdiv b)) else none)=_
 rw [if_pos,Int.fdiv_eq_ediv_of_nonneg _ (Int.natCast_nonneg _)]
 ·norm_cast
 ·have:b.log2<60:=(Nat.log2_lt (by omega)).mpr h2
  rw [Int.natAbs_natCast]
  simp only [Bool.and_eq_true,decide_eq_true_eq,bne_iff_ne]
  omega
theorem zbf {ρ:Rho} {a i:E} {x y d:D} (ha:ev S ρ a=some x) (hi:ev S ρ i=some y) (h:zkz x y=some d):ev S ρ (.sub a i)=some d:=bi ha (bi hi h)
theorem zgr {xs:List D} {i:Nat} {d:D} (h:xs[i]?=some d):zkz (.list xs) (nint i)=some d:=by
 have hi:i<xs.length:=by
  rcases Nat.lt_or_ge i xs.length with q | q
  ·exact q
  ·rw [List.getElem?_eq_none q] at h;exact nn h
 show (seqIndex? (i:Int) xs.length).bind (xs[·]?)=_
 have e:seqIndex? (i:Int) xs.length=some i:=by
  unfold seqIndex?
  have c:¬ ((i:Int)<0):=by omega
  rw [if_neg c]
  simp;omega
 rw [e];exact h
theorem zct {ρ:Rho} {e:E} {d:D} (h:ev S ρ e=some d):evo S ρ (.yes e)=some (some d):=bi h rfl
theorem zds {ρ:Rho}:evo S ρ .no=some none:=rfl
theorem zla {ρ:Rho} {a:E} {i:Int} (h:ev S ρ a=some (.int i)):ev S ρ (.neg a)=some (.int (-i)):=bi h rfl
theorem zej {ρ:Rho} {a:E} {lo hi st:Os} {x d:D} {l h t:Option D} (ha:ev S ρ a=some x) (h1:evo S ρ lo=some l) (h2:evo S ρ hi=some h) (h3:evo S ρ st=some t) (e:zei x l h t=some d):ev S ρ (.slc a lo hi st)=some d:=bi ha (bi h1 (bi h2 (bi h3 e)))
theorem zib {ρ:Rho} {f:Bf} {es:Es} {ds:List D} {d:D} (h:evs S ρ es=some ds) (hb:evBf f ds=some d):ev S ρ (.bf f es)=some d:=bi h hb
theorem zkb {x:D} (h:dep 8 x=true) (he:PyData.eqv x x=true):zdq .NotEq x x=some (.bool false):=by
 show (if dep 8 x&&dep 8 x then some (PyData.bool (!PyData.eqv x x)) else none)=_
 rw [h,he];rfl
theorem yfv (l:List Nat):zdq .NotEq (dtx l) (dtx l)=some (.bool false):=zkb rfl (by show (tx l==tx l)=true;simp)
theorem ylp {α β:Type} (f:α→β) (xs:List α) (lo hi st:Option Int):cut (xs.map f) lo hi st=(cut xs lo hi st).map f:=by
 unfold cut
 rw [List.length_map,List.map_filterMap]
 congr 1
 funext i
 simp
theorem zqg:∀ xs:List Int,zgi (xs.map PyData.int)=some xs
 | []=>rfl
 | x::xs=>by
  have e:zgi ((x::xs).map PyData.int)=(zgi (xs.map PyData.int)).map (x :: ·):=rfl
  rw [e,zqg xs];rfl
noncomputable def Sm (n:Nat) (a:Int):Prop:=a.natAbs<2^n
theorem Sm.ib {n:Nat} {a:Int} (h:Sm n a):ib a≤n:=by
 have:Internal.ib a≤Internal.ib ((a.natAbs:Nat):Int):=ybd (by rw [Int.natAbs_natCast];omega)
 exact Nat.le_trans this (zxj h)
theorem Sm.mono {n m:Nat} {a:Int} (h:Sm n a) (hm:n≤m):Sm m a:=Nat.lt_of_lt_of_le h (Nat.pow_le_pow_right (by omega) hm)
theorem fdm {a b q r:Int} (hb:0<b) (h:a=b*q+r) (h0:0≤r) (h1:r<b):a.fdiv b=q∧a.fmod b=r:=by
 rw [Int.fdiv_eq_ediv_of_nonneg _ (by omega),Int.fmod_eq_emod_of_nonneg _ (by omega)]
 have:=(Int.ediv_emod_unique hb (a:=a) (r:=r) (q:=q)).mpr ⟨by rw [h];omega,h0,h1⟩
 exact this
theorem ybf {a b q r:Int} (hb:0<b) (h:a=b*q+r) (h0:0≤r) (h1:r<b):idm a b=.tuple [.int q, .int r]:=by
 unfold idm
 rw [(fdm hb h h0 h1).1,(fdm hb h h0 h1).2]
theorem ymk {a b q r:Int} (hb:0<b) (h:a=b*q+r) (h0:0≤r) (h1:r<b):idm (-a) (-b)=.tuple [.int q, .int (-r)]:=by
 unfold idm
 rw [Int.neg_fdiv_neg,Int.neg_fmod_neg,(fdm hb h h0 h1).1,(fdm hb h h0 h1).2]
theorem zvg {a b:Int} (hb:b≠0) (ha:Sm 20000 a) (hb2:Sm 4000 b):zqd [.int a, .int b]=some (idm a b):=by
 show (if b≠0∧bd a b then some (idm a b) else none)=_
 rw [if_pos ⟨hb,by have:=ha.ib;omega,hb2.ib⟩]
noncomputable def ylm (u v:List Nat):Bool:=!u.isEmpty&&!v.isEmpty&&!u.isPrefixOf v&&!v.isPrefixOf u&&!u.isSuffixOf v&&!v.isSuffixOf u
theorem yfw {u v:List Nat} (h:ylm u v=true):Code u v:=by
 unfold ylm at h
 simp only [Bool.and_eq_true,Bool.not_eq_true'] at h
 obtain ⟨⟨⟨⟨⟨h1,h2⟩,h3⟩,h4⟩,h5⟩,h6⟩:=h
 have np:∀ {a b:List Nat},a.isPrefixOf b=false→¬ a <+: b:=fun {a b} h q=>by rw [List.isPrefixOf_iff_prefix.mpr q] at h;cases h
 have ns:∀ {a b:List Nat},a.isSuffixOf b=false→¬ a <:+ b:=fun {a b} h q=>by rw [List.isSuffixOf_iff_suffix.mpr q] at h;cases h
 exact ⟨(fun e=>by rw [e] at h1;cases h1),(fun e=>by rw [e] at h2;cases h2),np h3,np h4,ns h5,ns h6⟩
theorem zit {u v:List Nat} (hu:u≠[]) (hv:v≠[]) (h:∀ c∈u,c∉v):Code u v:=by
 have g:∀ {a b:List Nat},a≠[]→(∀ c∈a,c∉b)→(∀ c∈a,c∈b)→False:=fun {a b} ha h1 h2=>by
  cases a with
  | nil=>exact ha rfl
  | cons c r=>exact h1 c mch (h2 c mch)
 have h':∀ c∈v,c∉u:=fun c hc hc'=>h c hc' hc
 exact ⟨hu,hv,fun q=>g hu h fun c m=>q.subset m,fun q=>g hv h' fun c m=>q.subset m,fun q=>g hu h fun c m=>q.subset m,fun q=>g hv h' fun c m=>q.subset m⟩
noncomputable def sgs (x:Nat):List Nat:=[38,60,62,34,13,10,9,x]
noncomputable abbrev wr (k c:Nat):List Nat:=escT (zcb (zdy k)) c
noncomputable def lows:List Nat:=[38,60,62,34,13,10,9]
theorem yha:((List.range 5).all fun k=>(List.range 7).all fun i=>(List.range 7).all fun j=>i==j || ylm (wr k (lows.getD i 0)) (wr k (lows.getD j 0)))=true:=by decide +kernel
theorem ybt:((List.range 5).all fun k=>lows.all fun c=>!(wr k c).isEmpty&&(wr k c).all fun z=>decide (z<192)&&z != 46)=true:=by decide +kernel
theorem ygw:((List.range 5).all fun k=>(zcb (zdy k)).all fun p=>decide (p.1<192))=true:=by decide +kernel
theorem zma {k x:Nat} (hk:k<5) (hx:192≤x):wr k x=[x]:=by
 have h:=latp (latp ygw k (List.mem_range.mpr hk))
 unfold wr escT
 have:(zcb (zdy k)).lookup x=none:=by
  rw [List.lookup_eq_none_iff]
  intro p hp
  have:=of_decide_eq_true (h p hp)
  simp only [bne_iff_ne]
  omega
 rw [this];rfl
theorem zwr {k c:Nat} (hk:k<5) (hc:c∈lows):wr k c≠[]∧∀ z∈wr k c,z<192∧z≠46:=by
 have h:=latp (latp ybt k (List.mem_range.mpr hk)) c hc
 simp only [Bool.and_eq_true,Bool.not_eq_true',List.all_eq_true,decide_eq_true_eq,bne_iff_ne] at h
 exact ⟨fun e=>by rw [e] at h;simp at h,fun z hz=>h.2 z hz⟩
theorem lt7:∀ i:Nat,i<7→i=0∨i=1∨i=2∨i=3∨i=4∨i=5∨i=6:=by decide
theorem lt8:∀ i:Nat,i<8→i=0∨i=1∨i=2∨i=3∨i=4∨i=5∨i=6∨i=7:=by decide
theorem zwd {k x i j:Nat} (hk:k<5) (hx:192≤x) (hi:i<8) (hj:j<8) (hij:i≠j):Code (wr k ((sgs x).getD i 0)) (wr k ((sgs x).getD j 0)):=by
 have lowD:∀ {i:Nat},i<7→(sgs x).getD i 0=lows.getD i 0∧lows.getD i 0∈lows:=fun {i} h=>by
  have:=lt7 i h
  rcases this with rfl | rfl | rfl | rfl | rfl | rfl | rfl <;> exact ⟨rfl,by decide⟩
 have h7:(sgs x).getD 7 0=x:=rfl
 by_cases ci:i=7
 ·subst ci
  obtain ⟨e,m⟩:=lowD (i:=j) (by omega)
  rw [h7,e,zma hk hx]
  obtain ⟨n0,n1⟩:=zwr hk m
  exact zit (by simp) n0 fun c hc hc2=>by
   have:=(n1 c hc2).1
   simp at hc;omega
 ·by_cases cj:j=7
  ·subst cj
   obtain ⟨e,m⟩:=lowD (i:=i) (by omega)
   rw [h7,e,zma hk hx]
   obtain ⟨n0,n1⟩:=zwr hk m
   exact zit n0 (by simp) fun c hc hc2=>by
    have:=(n1 c hc).1
    simp at hc2;omega
  ·rw [(lowD (i:=i) (by omega)).1,(lowD (i:=j) (by omega)).1]
   have h:=latp (latp (latp yha k (List.mem_range.mpr hk)) i (List.mem_range.mpr (by omega))) j (List.mem_range.mpr (by omega))
   rw [Bool.or_eq_true] at h
   rcases h with h | h
   ·exact absurd (by simpa using h) hij
   ·exact yfw h
theorem ydh {k x i:Nat} (hk:k<5) (hx:192≤x) (hi:i<8):46∉wr k ((sgs x).getD i 0):=by
 by_cases ci:i=7
 ·subst ci
  show 46∉wr k x
  rw [zma hk hx]
  simp;omega
 ·have:=lt7 i (Nat.lt_of_le_of_ne (Nat.le_of_lt_succ hi) ci)
  intro m
  have hm:(sgs x).getD i 0∈lows:=by rcases this with rfl | rfl | rfl | rfl | rfl | rfl | rfl <;> first | exact (show (38:Nat)∈lows by decide) | exact (show (60:Nat)∈lows by decide) | exact (show (62:Nat)∈lows by decide) | exact (show (34:Nat)∈lows by decide) | exact (show (13:Nat)∈lows by decide) | exact (show (10:Nat)∈lows by decide) | exact (show (9:Nat)∈lows by decide)
  exact ((zwr hk hm).2 _ m).2 rfl
theorem zrg {x i:Nat} (hx:x<55296) (hi:i<8):(sgs x).getD i 0<55296:=by
 have:=lt8 i hi
 rcases this with rfl | rfl | rfl | rfl | rfl | rfl | rfl | rfl <;> first | exact hx | exact (show (38:Nat)<55296 by decide) | exact (show (60:Nat)<55296 by decide) | exact (show (62:Nat)<55296 by decide) | exact (show (34:Nat)<55296 by decide) | exact (show (13:Nat)<55296 by decide) | exact (show (10:Nat)<55296 by decide) | exact (show (9:Nat)<55296 by decide)
theorem ydi {x i:Nat} (hi:i<8):((sgs x).map fun c=>dtx [c])[i]?=some (dtx [(sgs x).getD i 0]):=by
 have:=lt8 i hi
 rcases this with rfl | rfl | rfl | rfl | rfl | rfl | rfl | rfl <;> rfl
theorem zul (T:List (Nat × List Nat)) (c d:Nat) (x:List Bool):escL T (wd [c] [d] x)=wd (escT T c) (escT T d) x:=by
 induction x with
 | nil=>rfl
 | cons b x ih =>
  rw [zcu,zcu,zsj,ih]
  congr 1
  cases b <;> simp [escL]
theorem yem (c d:Nat) (x:List Bool):(wd [c] [d] x).length=x.length:=by
 induction x with
 | nil=>rfl
 | cons b x ih =>
  rw [zcu,List.length_append,ih]
  cases b <;> simp <;> omega
theorem yen {u v:List Nat} {x:List Bool} {z:Nat} (h:z∈wd u v x):z∈u∨z∈v:=by
 induction x with
 | nil=>cases h
 | cons b x ih =>
  rw [zcu,List.mem_append] at h
  rcases h with h | h
  ·cases b
   ·exact .inl h
   ·exact .inr h
  ·exact ih h
end Internal
section
set_option exponentiation.threshold 1000
namespace Internal
variable {S:Sig}
structure Two (k cu cv:Nat):Prop where
 hk:k<5
 hu:cu<55296
 hv:cv<55296
 code:Code (wr k cu) (wr k cv)
 du:46∉wr k cu
 dv:46∉wr k cv
noncomputable abbrev tw (cu cv:Nat) (x:List Bool):List Nat:=wd [cu] [cv] x
noncomputable abbrev ww (k cu cv:Nat) (x:List Bool):List Nat:=wd (wr k cu) (wr k cv) x
theorem ymv:((List.range 5).all fun k=>okT (zcb (zdy k)))=true:=by decide +kernel
theorem yka {k:Nat} (hk:k<5):okT (zcb (zdy k))=true:=latp ymv k (List.mem_range.mpr hk)
section
variable {k cu cv m:Nat} (Q:Two k cu cv)
include Q
theorem Two.ok {x:List Bool} (h:x.length≤1000):okL (tw cu cv x):=⟨by rw [yem];omega,fun c hc=>by
 rcases yen hc with q | q
 ·rw [msp q];exact Q.hu
 ·rw [msp q];exact Q.hv⟩
theorem Two.len {x:List Bool} (h:x.length≤1000):(ww k cu cv x).length≤6*x.length:=by
 have:=(ziv (yka Q.hk) (Q.ok h).2).1
 rw [zul,yem] at this
 exact this
theorem Two.dot (x:List Bool):46∉ww k cu cv x:=fun h=>(yen h).elim Q.du Q.dv
theorem Two.ne {x:List Bool} (h:x≠[]):ww k cu cv x≠[]:=yiv Q.code h
end
end Internal
end
namespace Internal
section
variable {u v:Nat}
end
end Internal
namespace Internal
theorem ygn {g w:List Nat} {s e k:Nat} (h:zhe g w s e=some k):s≤k∧k+w.length≤e:=by
 unfold zhe at h
 have h1:=List.find?_some h
 have h2:=List.mem_range'_1.mp (List.mem_of_find?_eq_some h)
 simp only [Bool.and_eq_true,decide_eq_true_eq] at h1
 exact ⟨h2.1,h1.1⟩
theorem zrq {g:List Nat} {e:Nat}:∀ (ms:List (List Nat)) (s:Nat),s≤e→zdu g e s (ms++[[]])=zdu g e s ms
 | [],s,h=>yiu h
 | w::ms,s,h=>by
  show (match zhe g w s e with | some k=>zdu g e (k+w.length) (ms++[[]]) | none=>false)=(match zhe g w s e with | some k=>zdu g e (k+w.length) ms | none=>false)
  cases c:zhe g w s e with
  | none=>rfl
  | some k=>exact zrq ms _ (ygn c).2
theorem zyu {g:List Nat} {e:Nat} {ms:List (List Nat)} {s:Nat} (h:s≤e):zdu g e s ([]::ms)=zdu g e s ms:=by
 show (match zhe g [] s e with | some k=>zdu g e (k+0) ms | none=>false)=_
 rw [zmn (by simpa using h) (by simp)]
 rfl
theorem ybp {ms:List (List Nat)} {q:List Nat}:(ms++[q]).getLastD []=q:=by rw [List.getLastD_eq_getLast?,List.getLast?_concat];rfl
theorem zps {g:List Nat} {s:Nat} {ms:List (List Nat)} {q:List Nat}:ellE g s (ms++[q])=(q.isSuffixOf g&&decide (s+q.length≤g.length)&&zdu g (g.length-q.length) s ms):=by
 unfold ellE
 rw [ybp]
 by_cases hq:q=[]
 ·subst hq
  rw [if_pos rfl]
  have e1:([]:List Nat).isSuffixOf g=true:=List.isSuffixOf_iff_suffix.mpr List.nil_suffix
  rw [e1,Bool.true_and]
  by_cases c:g.length<s
  ·rw [if_pos c,decide_eq_false (by simp;omega),Bool.false_and]
  ·rw [if_neg c,decide_eq_true (by simp;omega),Bool.true_and,zrq ms s (by omega)];rfl
 ·rw [if_neg hq]
  cases c:q.isSuffixOf g with
  | false=>simp
  | true =>
   have hl:=(List.isSuffixOf_iff_suffix.mp c).length_le
   rw [if_pos rfl,Bool.true_and,List.dropLast_concat]
   by_cases c2:g.length-q.length<s
   ·rw [if_pos c2,decide_eq_false (by omega),Bool.false_and]
   ·rw [if_neg c2,decide_eq_true (by omega),Bool.true_and]
theorem zxd {p q g:List Nat} {ms:List (List Nat)}:ellM (p::(ms++[q])) g=(p.isPrefixOf g&&q.isSuffixOf g&&decide (p.length+q.length≤g.length)&&zdu g (g.length-q.length) p.length ms):=by
 show (if p=[] then ellE g 0 (([]:List (List Nat))++p::(ms++[q])) else if p.isPrefixOf g then ellE g p.length (ms++[q]) else false)=_
 by_cases hp:p=[]
 ·subst hp
  have e1:([]:List Nat).isPrefixOf g=true:=List.isPrefixOf_iff_prefix.mpr List.nil_prefix
  have e2:([]:List (List Nat))++[]::(ms++[q])=([]::ms)++[q]:=rfl
  rw [if_pos rfl,e1,Bool.true_and,e2,zps,List.length_nil]
  rw [zyu (Nat.zero_le _)]
 ·rw [if_neg hp]
  cases c:p.isPrefixOf g with
  | false=>simp
  | true=>rw [if_pos rfl,Bool.true_and,zps]
theorem yuo (u v:List Nat):wd u v []=[]:=rfl
theorem Code.inj {u v:List Nat} (c:Code u v) {x y:List Bool}:wd u v x=wd u v y↔x=y:=by
 constructor
 ·intro h
  have h1:x.isPrefixOf y=true:=by rw [← c.pre,h];exact List.isPrefixOf_iff_prefix.mpr (List.prefix_refl _)
  have h2:y.isPrefixOf x=true:=by rw [← c.pre,h];exact List.isPrefixOf_iff_prefix.mpr (List.prefix_refl _)
  have h1:=List.isPrefixOf_iff_prefix.mp h1
  have h2:=List.isPrefixOf_iff_prefix.mp h2
  exact h1.eq_of_length (Nat.le_antisymm h1.length_le h2.length_le)
 ·rintro rfl;rfl
variable {S:Sig} {cu cv:Nat}
theorem zgg {α:Type} {f:D→Option (List D)} {i g:α→D} {p:α→Bool}:∀ {l:List α},(∀ a∈l,f (i a)=some (if p a then [g a] else []))→zcs f (l.map i)=some ((l.filter p).map g)
 | [],_=>rfl
 | a::l,h=>by
  have e:zcs f ((a::l).map i)=match f (i a) with | some x=>(match zcs f (l.map i) with | some y=>some (x++y) | none=>none) | none=>none:=rfl
  rw [e,h a mch,zgg fun b m=>h b (mct _ m)]
  cases hp:p a <;> simp [hp]
theorem zdl {α:Type} {ρ:Rho} {elt c:E} {tg:List Nat} {src:Src} {l:List α} {i g:α→D} {p:α→Bool} (hs:zdk S ρ src=some (l.map i))
  (h:∀ a∈l,∃ ρ',zcn (ρ.del (tg++[])) tg (i a)=some ρ'∧evT S ρ' c=some (p a)∧(p a=true→ev S ρ' elt=some (g a))) (hz:(!zeu src || zaw ((l.filter p).map g))=true:=by rfl):ev S ρ (.comp elt (.cons tg src (.cons c .nil) .nil))=some (.list ((l.filter p).map g)):=by
 refine bi (x:=(l.filter p).map g) (bi hs (zgg fun a m=>?_)) (if_pos (show (true&&(!zeu src || zaw ((l.filter p).map g)))=true from hz))
 obtain ⟨ρ',h1,h2,h3⟩:=h a m
 refine bi h1 (bi (x:=p a) (bi h2 (by cases p a <;> rfl)) ?_)
 cases hp:p a with
 | false=>rfl
 | true =>
  show (ev S ρ' elt).map (fun d=>[d])=_
  rw [h3 hp];rfl
theorem zbt {α:Type} {ρ:Rho} {elt:E} {tg:List Nat} {src:Src} {l:List α} {i g:α→D} (hs:zdk S ρ src=some (l.map i))
  (h:∀ a∈l,∃ ρ',zcn (ρ.del (tg++[])) tg (i a)=some ρ'∧ev S ρ' elt=some (g a)) (hz:(!zeu src || zaw (l.map g))=true:=by rfl):ev S ρ (.comp elt (.cons tg src .nil .nil))=some (.list (l.map g)):=by
 have key:zcs (fun it=>(zcn (ρ.del (tg++[])) tg it).bind fun ρ'=>(ziw S ρ' .And .nil).bind fun b=>bif b then evGs S ρ' ρ' (fun ρ'=>ev S ρ' elt) .nil else some []) (l.map i)=some ((l.filter fun _=>true).map g):=zgg fun a m=>by
  obtain ⟨ρ',h1,h2⟩:=h a m
  refine bi h1 (bi (x:=true) rfl ?_)
  show (ev S ρ' elt).map (fun d=>[d])=_
  rw [h2];rfl
 rw [List.filter_eq_self.mpr fun _ _=>rfl] at key
 exact bi (x:=l.map g) (bi hs key) (if_pos (show (true&&(!zeu src || zaw (l.map g)))=true from hz))
theorem yeg (x y:List Nat):((tx x:Str)==tx y)=(x==y):=by
 rw [Bool.eq_iff_iff,beq_iff_eq,beq_iff_eq]
 exact ⟨fun h=>by have:=congrArg (fun s:Str=>s.cps.toList) h;simpa using this,fun h=>by rw [h]⟩
theorem zui (x y:List Nat):PyData.eqv (dtx x) (dtx y)=(x==y):=by
 rw [← yeg];rfl
theorem zop (h:cu≠cv):Code [cu] [cv]:=zit (List.cons_ne_nil _ _) (List.cons_ne_nil _ _) fun c m m'=>h ((msp m).symm.trans (msp m'))
theorem zwn (h:cu≠cv) (x y:List Bool):(tw cu cv x==tw cu cv y)=(x==y):=by
 rw [Bool.eq_iff_iff,beq_iff_eq,beq_iff_eq]
 exact (zop h).inj
theorem zjv (x:List Bool):(tw cu cv x).length=x.length:=by
 rw [yem]
theorem yee (x:List Bool) (s:Bool):tw cu cv (s::x)=tw cu cv [s]++tw cu cv x:=zcf _ _ [s] x
theorem zau {ρ:Rho} {n k:Nat} {d:D} (h:n≠k) (g:ρ.get n=some d):(ρ.del ([k]++[])).get n=some d:=by
 rw [Rho.get_del,if_neg]
 ·exact g
 ·simpa using h
theorem zac {ρ:Rho} {n k:Nat} {d e:D} (h:n≠k) (g:ρ.get n=some d):(ρ.set k e).get n=some d:=by
 rw [Rho.get_set,if_neg h];exact g
theorem zag {ρ:Rho} {n:Nat} {d:D}:(ρ.set n d).get n=some d:=by rw [Rho.get_set,if_pos rfl]
theorem yjn {ρ:Rho} {c:E} {a b:Sts} {o:Option Out} (h:evT S ρ c=some true) (h':exs S ρ a=o):ex S ρ (.ifs c a b)=o:=zbc h h'
theorem zfa {ρ:Rho} {c:E} {a b:Sts} {o:Option Out} (h:evT S ρ c=some false) (h':exs S ρ b=o):ex S ρ (.ifs c a b)=o:=zbc h h'
theorem zur {ρ:Rho} {e1 e2:E} {a b:D} (h1:ev S ρ e1=some a) (h2:ev S ρ e2=some b):ev S ρ (.tup (.cons e1 (.cons e2 .nil)))=some (.tuple [a,b]):=zso (zab h1 (zab h2 zah)) (nle rfl)
end Internal
namespace Internal
variable {S:Sig} {cu cv:Nat}
theorem ztz {α:Type} (xs:List α) (a:Nat):cut xs none (some (a:Int)) none=xs.take a:=by
 have:=zsg xs none (some a)
 simp only [Option.map_some,Option.map_none,zis] at this
 rw [this,List.drop_zero,Nat.sub_zero]
 rcases Nat.le_total a xs.length with h | h
 ·rw [Nat.min_eq_left h]
 ·rw [Nat.min_eq_right h,List.take_of_length_le (Nat.le_refl _),List.take_of_length_le h]
theorem zty {α:Type} (xs:List α) (a:Nat):cut xs (some (a:Int)) none none=xs.drop a:=by
 have:=zsg xs (some a) none
 simp only [Option.map_some,Option.map_none,zis] at this
 rw [this]
 rcases Nat.le_total a xs.length with h | h
 ·rw [Nat.min_eq_left h,List.take_of_length_le (by rw [List.length_drop];omega)]
 ·rw [Nat.min_eq_right h,List.drop_of_length_le (Nat.le_refl _),List.drop_of_length_le h];simp
theorem zwe {l:List Nat} {a:Nat}:zei (dtx l) none (some (nint a)) none=some (dtx (l.take a)):=by
 show some (PyData.str ⟨(cut l none (some (a:Int)) none).toArray⟩)=_
 rw [ztz]
theorem zot {l:List Nat} {a:Nat}:zei (dtx l) (some (nint a)) none none=some (dtx (l.drop a)):=by
 show some (PyData.str ⟨(cut l (some (a:Int)) none none).toArray⟩)=_
 rw [zty]
theorem ydl {l:List D} {a:Nat}:zei (.list l) none (some (nint a)) none=some (.list (l.take a)):=by
 show some (PyData.list (cut l none (some (a:Int)) none))=_
 rw [ztz]
theorem ydk {l:List D} {a:Nat}:zei (.list l) (some (nint a)) none none=some (.list (l.drop a)):=by
 show some (PyData.list (cut l (some (a:Int)) none none))=_
 rw [zty]
theorem ztn (x:List Bool) (n:Nat):(tw cu cv x).take n=tw cu cv (x.take n):=by
 induction x generalizing n with
 | nil=>simp [wd]
 | cons b x ih =>
  cases n with
  | zero=>rfl
  | succ n =>
   show List.take (n+1) (wd [cu] [cv] (b::x))=wd [cu] [cv] (b::x.take n)
   have ih':List.take n (wd [cu] [cv] x)=wd [cu] [cv] (x.take n):=ih n
   rw [zcu,zcu,← ih']
   cases b <;> rfl
theorem zpb (x:List Bool) (n:Nat):(tw cu cv x).drop n=tw cu cv (x.drop n):=by
 induction x generalizing n with
 | nil=>simp [wd]
 | cons b x ih =>
  cases n with
  | zero=>rfl
  | succ n =>
   show List.drop (n+1) (wd [cu] [cv] (b::x))=wd [cu] [cv] (x.drop n)
   have ih':List.drop n (wd [cu] [cv] x)=wd [cu] [cv] (x.drop n):=ih n
   rw [zcu,← ih']
   cases b <;> rfl
theorem zea (a b:Nat):zez .Add (nint a) (nint b)=some (nint (a+b)):=zdp a b
end Internal
namespace Internal
variable {S:Sig} {k cu cv:Nat}
section
variable (Q:Two k cu cv)
include Q
theorem Two.okw {x:List Bool} (h:x.length≤150):okL (ww k cu cv x):=by
 have:=ziv (yka Q.hk) (Q.ok (x:=x) (by omega)).2
 rw [zul] at this
 have h2:(ww k cu cv x).length≤6*(tw cu cv x).length:=this.1
 rw [zjv] at h2
 exact ⟨by omega,this.2⟩
theorem Two.written (F:Facts S) {x:List Bool} (h:x.length≤150):S.cal 46 [nint k,dtx (tw cu cv x)]=some (dtx (ww k cu cv x)):=by
 rw [F.c46 k _ Q.hk (Q.ok (by omega)),zul]
theorem Two.spelled (F:Facts S) {x:List Bool} (h:x.length≤150):S.cal 48 [nint k,dtx (tw cu cv x)]=some (dtx (ww k cu cv x)):=by
 rw [F.c48 k _ Q.hk (Q.ok (by omega)),zul]
end
end Internal
namespace Internal
variable {S:Sig} {k cu cv:Nat}
end Internal
namespace Internal
variable {S:Sig} {k cu cv:Nat}
theorem yox (x y:List Nat):zdq .Eq (dtx x) (dtx y)=some (.bool (x==y)):=by
 show (if dep 8 (dtx x)&&dep 8 (dtx y) then some (PyData.bool (PyData.eqv (dtx x) (dtx y))) else none)=_
 rw [if_pos (by rfl),zui]
end Internal
namespace Internal
variable {S:Sig} {k cu cv:Nat}
noncomputable abbrev txs (cu cv:Nat) (E:List (List Bool)):D:=.list (E.map fun t=>dtx (tw cu cv t))
end Internal
namespace Internal
variable {S:Sig} {k cu cv:Nat}
theorem Two.code_ne (Q:Two k cu cv):cu≠cv:=fun e=>by
 have h:ww k cu cv [false]=ww k cu cv [true]:=by subst e;rfl
 exact absurd (Q.code.inj.mp h) (by decide)
end Internal
section
namespace Internal
variable {S:Sig}
open PySem.StrLaws in
theorem zkq {x:Str} {c:Nat}:∀ {cuts:List Nat} {a f:Nat},ChainG x ⟨#[c]⟩ x.length a cuts f→(∀ k,f≤k→¬ At x ⟨#[c]⟩ x.length k)→a≤x.length→(x.cps.toList.drop a).count c=cuts.length
 | [],a,f,h,hn,ha=>by
  have e:f=a:=h
  subst e
  have:=part_free x c f x.length (Nat.le_refl _) fun k h1 _=>hn k h1
  rw [strSub_toList] at this
  rw [List.take_of_length_le (by rw [List.length_drop];simp [Str.length])] at this
  exact List.count_eq_zero.mpr this
 | d::r,a,f,h,hn,ha=>by
  obtain ⟨h1,h2,h3,h4⟩:=h
  have hd:d+1≤x.length:=h2.1
  have g:=(subAt_one x c d).mp h2
  have free:=part_free x c a d (by omega) h3
  rw [strSub_toList] at free
  have ih:=zkq h4 hn hd
  have e1:x.cps.toList.drop a=(x.cps.toList.drop a).take (d-a)++x.cps.toList.drop d:=by
   have:=(List.take_append_drop (d-a) (x.cps.toList.drop a)).symm
   rw [List.drop_drop] at this
   have e:a+(d-a)=d:=by omega
   rw [e] at this
   exact this
  have e2:x.cps.toList.drop d=c::x.cps.toList.drop (d+1):=by
   obtain ⟨hlt,hv⟩:=List.getElem?_eq_some_iff.mp g
   rw [List.drop_eq_getElem_cons hlt,hv]
  rw [e1,List.count_append,List.count_eq_zero.mpr free,e2,List.count_cons_self]
  have e3:(x.cps.toList.drop (d+1)).count c=r.length:=ih
  rw [e3,List.length_cons];omega
open PySem.StrLaws in
theorem zzq (x:Str) (c:Nat):Txt.count x ⟨#[c]⟩=((x.cps.toList.count c:Nat):Int):=by
 obtain ⟨f,h1,h2⟩:=occ_tight x ⟨#[c]⟩ (Nat.le_refl 1)
 have:=zkq h1 h2 (Nat.zero_le _)
 rw [List.drop_zero] at this
 rw [this];rfl
theorem zvp (l:List Nat) (c:Nat):evMt .count (dtx l) [dtx [c]]=some (nint (l.count c)):=by
 show some (PyData.int (Txt.count (tx l) ⟨#[c]⟩))=_
 rw [zzq]
theorem zup {ρ:Rho} {m:Mt} {o:E} {args:Es} {x d:D} {ds:List D} (h:ev S ρ o=some x) (hs:evs S ρ args=some ds) (e:evMt m x ds=some d):ev S ρ (.mt m o args)=some d:=bi h (bi hs e)
theorem ycw {a k:Nat} (h:ib (a:Int)*k≤134217728):zez .Pow (nint a) (nint k)=some (nint (a^k)):=by
 show (if decide (0≤(k:Int))&&decide ((ib (a:Int):Int)*(k:Int)≤2^27) then some (PyData.int ((a:Int)^((k:Int)).toNat)) else none)=_
 have e:((ib (a:Int):Nat):Int)*(k:Int)=((ib (a:Int)*k:Nat):Int):=by rw [Int.natCast_mul]
 have e27:(2:Int)^27=134217728:=by decide
 rw [e,e27,if_pos (by simp only [Bool.and_eq_true,decide_eq_true_eq];omega),Int.toNat_natCast,← Int.natCast_pow]
theorem zog (ns:List Nat):evBf .sum [.list (ns.map nint)]=some (nint ns.sum):=by
 show (zgi (ns.map nint)).map (fun ns=>PyData.int ns.sum)=_
 rw [zli]
 show some (PyData.int (ns.map fun n:Nat=>(n:Int)).sum)=_
 rw [zoy]
noncomputable def nmax:Nat→List Nat→Nat
 | n,[]=>n
 | n,m::r=>nmax (max n m) r
theorem zvj:∀ (n:Nat) (r:List Nat),imax (((n::r).map fun n:Nat=>(n:Int)))=(nmax n r:Int)
 | n,[]=>rfl
 | n,m::r=>by
  have ih:=zvj (max n m) r
  show List.foldl (fun m x=>if x > m then x else m) (if (m:Int) > (n:Int) then (m:Int) else (n:Int)) (r.map fun n:Nat=>(n:Int))=(nmax (max n m) r:Int)
  have e:(if (m:Int) > (n:Int) then (m:Int) else (n:Int))=((max n m:Nat):Int):=by
   by_cases h:m > n
   ·rw [if_pos (by omega)];omega
   ·rw [if_neg (by omega)];omega
  rw [e];exact ih
theorem yly (n:Nat) (r:List Nat):evBf .max [.list ((n::r).map nint)]=some (nint (nmax n r)):=by
 show (match zgi ((n::r).map nint) with | some (n::r)=>some (PyData.int (imax (n::r))) | _=>none)=_
 rw [zli]
 exact congrArg (fun x=>some (PyData.int x)) (zvj n r)
noncomputable abbrev yow (b sc kk:Nat) (st:Int):E:=.bin .Mod (.bin .Add (.var b) (.bf .sum (.cons (.slc (.var sc) (.yes (.var kk)) (.yes (.lit (.int 60))) (.yes (.lit (.int st)))) .nil))) (.bin .Pow (.lit (.int 10)) (.lit (.int 9)))
noncomputable def zkp (xs:List Int) (st b:Int) (k:Nat):Nat:=((b+(cut xs (some (k:Int)) (some 60) (some st)).sum).fmod 1000000000).toNat
theorem pow9:zez .Pow (.int 10) (.int 9)=some (.int 1000000000):=by rfl
theorem ygf {xs:List Int} {ρ:Rho} {b sc kk:Nat} {st bv:Int} {kv:Nat} (hst:st≠0) (gb:ρ.get b=some (.int bv)) (gs:ρ.get sc=some (.list (xs.map PyData.int))) (gk:ρ.get kk=some (nint kv)):ev S ρ (yow b sc kk st)=some (nint (zkp xs st bv kv)):=by
 have hs:ev S ρ (.slc (.var sc) (.yes (.var kk)) (.yes (.lit (.int 60))) (.yes (.lit (.int st))))=some (.list ((cut xs (some (kv:Int)) (some 60) (some st)).map PyData.int)):=by
  refine zej (zaa gs) (zct (zaa gk)) (zct zai) (zct zai) ?_
  show (if some st=some 0 then none else some (PyData.list (cut (xs.map PyData.int) (some (kv:Int)) (some 60) (some st))))=_
  rw [if_neg (fun e=>hst (soi e)),ylp]
 have hsum:ev S ρ (.bf .sum (.cons (.slc (.var sc) (.yes (.var kk)) (.yes (.lit (.int 60))) (.yes (.lit (.int st)))) .nil))=some (.int (cut xs (some (kv:Int)) (some 60) (some st)).sum):=by
  refine zib (zab hs zah) ?_
  show (zgi ((cut xs (some (kv:Int)) (some 60) (some st)).map PyData.int)).map (fun ns=>PyData.int ns.sum)=_
  rw [zqg];rfl
 refine zaf (zaf (zaa gb) hsum (ysh _ _)) (zaf zai zai pow9) ?_
 show (if (1000000000:Int) != 0 then some (PyData.int ((bv+(cut xs (some (kv:Int)) (some 60) (some st)).sum).fmod 1000000000)) else none)=_
 rw [if_pos (by decide)]
 unfold zkp
 have h0:0≤(bv+(cut xs (some (kv:Int)) (some 60) (some st)).sum).fmod 1000000000:=by
  rw [Int.fmod_eq_emod_of_nonneg _ (by omega)];omega
 obtain ⟨n,hn⟩:=Int.eq_ofNat_of_zero_le h0
 rw [hn,Int.toNat_natCast]
theorem yaf {xs:List Int} {ρ:Rho} {b sc kk:Nat} {st:Int} {src:Src} {ps:List (Nat × Int)} (hst:st≠0) (hs:zdk S ρ src=some (ps.map fun p=>PyData.tuple [nint p.1, .int p.2])) (h1:b≠kk) (h2:sc≠kk) (h3:sc≠b) (gs:ρ.get sc=some (.list (xs.map PyData.int))) (hz:zeu src=false:=by rfl) :
  ev S ρ (.comp (yow b sc kk st) (.cons [kk,b] src .nil .nil))=some (.list ((ps.map fun p=>zkp xs st p.2 p.1).map nint)):=by
 rw [List.map_map]
 refine zbt hs (fun p _=>⟨((ρ.del ([kk,b]++[])).set kk (nint p.1)).set b (.int p.2),rfl,ygf hst zag (zac h3 (zac h2 ?_)) (zac (fun e=>h1 e.symm) zag)⟩) (by rw [hz];rfl)
 rw [Rho.get_del,if_neg]
 ·exact gs
 ·simp [h2,h3]
noncomputable abbrev sgX (cl : Nat) : E := .list (.cons (.lit (.str "&")) (.cons (.lit (.str "<")) (.cons (.lit (.str ">")) (.cons (.lit (.str "\"")) (.cons (.lit (.str "\r")) (.cons (.lit (.str "\n")) (.cons (.lit (.str "\t")) (.cons (.bf .chr (.cons (.bin .Add (.lit (.int 192)) (.bin .Mod (.bin .FloorDiv (.sub (.var cl) (.lit (.int 0))) (.lit (.int 280))) (.lit (.int 55000)))) .nil)) .nil))))))))
theorem yii : ("&" : Str) = tx [38] ∧ ("<" : Str) = tx [60] ∧ (">" : Str) = tx [62] ∧ ("\"" : Str) = tx [34] ∧ ("\r" : Str) = tx [13] ∧ ("\n" : Str) = tx [10] ∧ ("\t" : Str) = tx [9] := by decide +kernel
theorem zdr {ρ:Rho} {cl i c:Nat} {cs:List Nat} (g:ρ.get cl=some (.list (cs.map nint))) (h:cs[i]?=some c):ev S ρ (.sub (.var cl) (.lit (.int i)))=some (nint c):=zbf (zaa g) zai (zgr (i:=i) (by rw [List.getElem?_map,h];rfl))
theorem ype {ρ:Rho} {cl c0:Nat} {r:List Nat} (g:ρ.get cl=some (.list ((c0::r).map nint))):ev S ρ (sgX cl)=some (.list ((sgs (192+c0 / 280 % 55000)).map fun c=>dtx [c])):=by
 obtain ⟨h1,h2,h3,h4,h5,h6,h7⟩:=yii
 have hl:∀ {y:Str} {c:Nat},y=tx [c]→ev S ρ (.lit (.str y))=some (dtx [c]):=fun h=>by rw [h];rfl
 refine zdz (zab (hl h1) (zab (hl h2) (zab (hl h3) (zab (hl h4) (zab (hl h5) (zab (hl h6) (zab (hl h7) (zab ?_ zah)))))))) (nle rfl)
 refine zib (ds:=[nint (192+c0 / 280 % 55000)]) (zab (zaf (y:=nint (c0 / 280 % 55000)) (zai (d:=nint 192)) (zaf (x:=nint (c0 / 280)) (y:=nint 55000) (zaf (x:=nint c0) (y:=nint 280) (zdr (i:=0) g rfl) zai (zfk (by omega) (by omega))) zai (zdc (by omega))) (zea _ _)) zah) ?_
 have:c0 / 280 % 55000<55000:=Nat.mod_lt _ (by omega)
 show (if decide (0≤((192+c0 / 280 % 55000:Nat):Int))&&decide (((192+c0 / 280 % 55000:Nat):Int)≤1114111) then some (PyData.str ⟨#[((192+c0 / 280 % 55000:Nat):Int).toNat]⟩) else none)=_
 rw [if_pos (by simp only [Bool.and_eq_true,decide_eq_true_eq];omega),Int.toNat_natCast]
noncomputable abbrev prX (cl sg fi:Nat):E:=.bin .Add (.sub (.var sg) (.var fi)) (.sub (.var sg) (.bin .Mod (.bin .Add (.bin .Add (.var fi) (.lit (.int 1))) (.bin .Mod (.bin .FloorDiv (.sub (.var cl) (.lit (.int 0))) (.lit (.int 40))) (.lit (.int 7)))) (.lit (.int 8))))
theorem ypd {ρ:Rho} {cl sg fi c0 i x:Nat} {r:List Nat} (g:ρ.get cl=some (.list ((c0::r).map nint))) (g86:ρ.get sg=some (.list ((sgs x).map fun c=>dtx [c]))) (g87:ρ.get fi=some (nint i)) (hi:i<8) :
  ev S ρ (prX cl sg fi)=some (dtx [(sgs x).getD i 0,(sgs x).getD ((i+1+c0 / 40 % 7) % 8) 0]):=by
 refine zco (a:=[(sgs x).getD i 0]) (b:=[(sgs x).getD ((i+1+c0 / 40 % 7) % 8) 0]) (zbf (zaa g86) (zaa g87) (zgr (ydi hi))) (zbf (zaa g86) (y:=nint ((i+1+c0 / 40 % 7) % 8)) ?_ (zgr (ydi (Nat.mod_lt _ (by omega))))) (nle rfl)
 refine zaf (zaf (zaf (zaa g87) (zai (d:=nint 1)) (zea _ _)) (zaf (zaf (zdr (i:=0) g rfl) (zai (d:=nint 40)) (zfk (by omega) (by omega))) (zai (d:=nint 7)) (zdc (by omega))) (zea _ _)) (zai (d:=nint 8)) (zdc (by omega))
theorem yny {k x i j:Nat} (hk:k<5) (h1:192≤x) (h2:x<55296) (hi:i<8) (hj:j<8) (hij:i≠j):Two k ((sgs x).getD i 0) ((sgs x).getD j 0) :=
 ⟨hk,zrg h2 hi,zrg h2 hj,zwd hk h1 hi hj hij,ydh hk h1 hi,ydh hk h1 hj⟩
end Internal
end
namespace Internal
variable {S:Sig} {k cu cv:Nat}
theorem dot2 (a b:List Nat):dotJ [a,b]=a++D3++b:=by simp [dotJ]
noncomputable abbrev szL (k cu cv:Nat):List Nat:=[(wr k cu).length,(wr k cv).length]
theorem yeq (s:Bool):(ww k cu cv [s]).length=if s then (wr k cv).length else (wr k cu).length:=by
 cases s
 ·show (wr k cu++[]).length=_;rw [List.append_nil];rfl
 ·show (wr k cv++[]).length=_;rw [List.append_nil];rfl
end Internal
namespace Internal
variable {S:Sig} {k cu cv:Nat}
theorem Two.size (Q:Two k cu cv):(1≤(wr k cu).length∧(wr k cu).length≤6)∧1≤(wr k cv).length∧(wr k cv).length≤6:=by
 have h0:=Q.len (x:=[false]) (by decide)
 have h1:=Q.len (x:=[true]) (by decide)
 have n0:=List.length_pos_iff.mpr (Q.ne (x:=[false]) (by decide))
 have n1:=List.length_pos_iff.mpr (Q.ne (x:=[true]) (by decide))
 rw [yeq] at h0 h1 n0 n1
 exact ⟨⟨n0,h0⟩,n1,h1⟩
theorem yit (h:cu≠cv) (x:List Bool):(tw cu cv x).count cu=x.count false∧(tw cu cv x).count cv=x.count true:=by
 induction x with
 | nil=>exact ⟨rfl,rfl⟩
 | cons b x ih =>
  have e:tw cu cv (b::x)=(if b then [cv] else [cu])++tw cu cv x:=zcu _ _ b x
  rw [e,List.count_append,List.count_append,ih.1,ih.2]
  have h':¬ cv=cu:=fun q=>h q.symm
  cases b <;> simp [List.count_cons,h,h'] <;> omega
theorem or2F {ρ:Rho} {a b:E} (h1:evT S ρ a=some false) (h2:evT S ρ b=some false):evT S ρ (.bop .Or (.cons a (.cons b .nil)))=some false:=bi h1 (bi h2 rfl)
theorem ztt:∀ ms:List Bool,((ms.map PyData.bool).any fun y=>PyData.eqv y (.bool true))=ms.contains true
 | []=>rfl
 | m::ms=>by
  rw [List.map_cons,List.any_cons,ztt ms,List.contains_cons]
  cases m <;> rfl
theorem zpr (ms:List Bool):dep 8 (.list (ms.map PyData.bool))=true:=List.all_eq_true.mpr fun x hx=>by
 obtain ⟨p,_,rfl⟩:=mmp hx
 rfl
end Internal
section
set_option linter.unusedSimpArgs false
namespace Internal
variable {S:Sig} {k cu cv:Nat}
theorem zuq {ρ:Rho} {e:E} {ps:List (List Nat)} (h:ev S ρ e=some (.list (ps.map dtx))) (hn:ps.length≤1000) (hp:∀ p∈ps,p.length≤1000∧∀ c∈p,c<55296):ev S ρ (.mt .join (.lit (.str "")) (.cons e .nil))=some (dtx ps.flatten):=by
 refine bi rfl (bi (zab h zah) ?_)
 have e3:ps.map dtx=(ps.map tx).map PyData.str:=by rw [List.map_map];rfl
 rw [e3]
 show (match zjh ((ps.map tx).map PyData.str) with
  | some ts=>if JoinOk "" ts&&sok (.str (Txt.join "" ts)) then some (PyData.str (Txt.join "" ts)) else none
  | none=>none)=_
 rw [zkg]
 have hj:Txt.join "" (ps.map tx)=tx ps.flatten:=Str.of_list (by
  rw [zms,List.map_map,List.toList_toArray]
  congr 1
  exact (List.map_congr_left fun x _=>by simp).trans (List.map_id ps))
 show (if (JoinOk "" (ps.map tx)&&sok (.str (Txt.join "" (ps.map tx))))=true then some (PyData.str (Txt.join "" (ps.map tx))) else none)=_
 rw [hj,if_pos]
 rw [Bool.and_eq_true]
 refine ⟨?_,zjs ?_ fun c hc=>?_⟩
 ·unfold JoinOk
  rw [PySem.StrLaws.joinFits (B:=1000)]
  ·rfl
  ·intro y hy
   obtain ⟨p,hp',rfl⟩:=mmp hy
   have:=(hp p hp').1
   simpa [Str.length] using this
  ·have:(("" : Str).length)=0:=rfl
   rw [this,List.length_map]
   have:=Nat.mul_le_mul_right 1000 hn
   omega
 ·have:∀ (ps:List (List Nat)),(∀ p∈ps,p.length≤1000)→ps.flatten.length≤ps.length*1000:=by
   intro ps
   induction ps with
   | nil=>intro _;exact Nat.zero_le _
   | cons p ps ih =>
    intro h
    have h1:=h p mch
    have h2:=ih fun q m=>h q (mct _ m)
    rw [List.flatten_cons,List.length_append,List.length_cons];omega
  have h1:=this ps fun p m=>(hp p m).1
  have:=Nat.mul_le_mul_right 1000 hn
  omega
 ·obtain ⟨p,h1,h2⟩:=List.mem_flatten.mp hc
  exact (hp p h1).2 c h2
theorem ynw (x:List Bool):(x.map fun s=>tw cu cv [s]).flatten=tw cu cv x:=by
 induction x with
 | nil=>rfl
 | cons s x ih =>
  rw [List.map_cons,List.flatten_cons,ih]
  exact (yee x s).symm
theorem ylr (E:List (List Bool)):dep 8 (txs cu cv E)=true:=List.all_eq_true.mpr fun x hx=>by
 obtain ⟨p,_,rfl⟩:=mmp hx
 rfl
theorem yjb (h:cu≠cv) (t:List Bool):∀ E:List (List Bool),((E.map fun t=>dtx (tw cu cv t)).any fun y=>PyData.eqv y (dtx (tw cu cv t)))=decide (t∈E)
 | []=>rfl
 | a::E=>by
  rw [List.map_cons,List.any_cons,yjb h t E,zui,zwn h,Bool.eq_iff_iff,Bool.or_eq_true,beq_iff_eq,decide_eq_true_eq,decide_eq_true_eq,List.mem_cons]
  constructor
  ·rintro (rfl | q)
   ·exact .inl rfl
   ·exact .inr q
  ·rintro (rfl | q)
   ·exact .inl rfl
   ·exact .inr q
theorem zpl (h:cu≠cv) (t:List Bool) (E:List (List Bool)):zdq .NotIn (dtx (tw cu cv t)) (txs cu cv E)=some (.bool (!decide (t∈E))):=by
 show (if dep 8 (dtx (tw cu cv t))&&dep 8 (txs cu cv E) then some (PyData.bool (!((E.map fun t=>dtx (tw cu cv t)).any fun y=>PyData.eqv y (dtx (tw cu cv t))))) else none)=_
 rw [ylr,yjb h];rfl
end Internal
end
namespace Internal
noncomputable def zyw (d n:Nat):List Bool:=(List.range (d-1)).map fun k=>n / 2^k % 2==1
noncomputable def zda (c:List (List Bool)) (w:List Bool):List (List Bool):=(c.filter fun x=>w.isSuffixOf x).map fun x=>x.take (x.length-w.length)
noncomputable def zbz (c:List (List Bool)) (w:List Bool):List (List Bool):=(c.filter fun x=>w.isPrefixOf x).map fun x=>x.drop w.length
noncomputable def zdj (c:List (List Bool)) (w:List Bool):List (List Bool):=((zda c w).map fun x=>x++w)++(zbz c w).map fun x=>w++x
noncomputable def zel (c:List (List Bool)) (w:List Bool):List (List Bool):=[w]++(zda c w).flatMap fun a=>(zbz c w).map fun b=>a++w++b
noncomputable def zhu:List (List Bool)→Bool
 | []=>true
 | x::r=>!r.contains x&&zhu r
noncomputable def ztm (c:List (List Bool)) (w:List Bool):List (List Bool) :=
 if zhu (zdj c w)&&decide (c.length+(zel c w).length≤20+(zdj c w).length) then (c.filter fun x=>!(zdj c w).contains x)++zel c w else c
noncomputable def zyp (d:Nat) (c:List (List Bool)) (n:Nat):List (List Bool):=ztm c (zyw d n)
noncomputable def zdg (c:List (List Bool)):List (List Bool):=c.flatMap fun x=>[false,true].map fun s=>x++[s]
noncomputable def zdt:Nat→List (List Bool)
 | 0=>[[]]
 | d+1=>zdg (zdt d)
noncomputable def znv (d:Nat) (ns:List Nat):List (List Bool):=ns.foldl (zyp d) (zdt d)
noncomputable def addC {α:Type} [BEq α] (l:List α) (c:α):List α:=if l.contains c then l else l++[c]
theorem yhc {α:Type} [BEq α] [LawfulBEq α] {l:List α} {c x:α}:x∈addC l c↔x∈l∨x=c:=by
 unfold addC
 by_cases h:l.contains c=true
 ·rw [if_pos h]
  exact ⟨.inl,fun q=>q.elim id fun e=>e▸List.contains_iff_mem.mp h⟩
 ·rw [if_neg h,List.mem_append,List.mem_singleton]
theorem mem_fold {α:Type} [BEq α] [LawfulBEq α]:∀ {cs l:List α} {x:α},x∈cs.foldl addC l↔x∈l∨x∈cs
 | [],l,x=>⟨.inl,fun q=>q.elim id fun m=>nomatch m⟩
 | c::cs,l,x=>by
  rw [List.foldl_cons,mem_fold,yhc,List.mem_cons,or_assoc]
noncomputable def levC (d:Nat):Nat→List (List (List Bool))
 | 0=>[zdt d]
 | i+1=>((levC d i).flatMap fun c=>(List.range 8).map (zyp d c)).foldl addC []
theorem yio {d i:Nat} {c:List (List Bool)} {n:Nat} (h:c∈levC d i) (hn:n<8):zyp d c n∈levC d (i+1) :=
 mem_fold.mpr (.inr (List.mem_flatMap.mpr ⟨c,h,List.mem_map.mpr ⟨n,List.mem_range.mpr hn,rfl⟩⟩))
theorem zuz {d:Nat}:∀ {ns:List Nat} {i:Nat} {c:List (List Bool)},c∈levC d i→(∀ n∈ns,n<8)→ns.foldl (zyp d) c∈levC d (i+ns.length)
 | [],_,_,h,_=>h
 | n::ns,i,c,h,k=>by
  have:=zuz (ns:=ns) (yio h (k n (.head _))) fun m q=>k m (.tail _ q)
  rw [List.foldl_cons,List.length_cons,Nat.add_comm ns.length 1,← Nat.add_assoc]
  exact this
noncomputable def zxg (g w:List Bool) (s e:Nat):Option Nat:=(List.range' s (e+1-s)).find? fun k=>decide (k+w.length≤e)&&((g.drop k).take w.length==w)
noncomputable def yek (g:List Bool) (e:Nat):Nat→List (List Bool)→Bool
 | _,[]=>true
 | s,w::ws=>match zxg g w s e with
  | some k=>yek g e (k+w.length) ws
  | none=>false
noncomputable def ellR (p:List Bool) (ms:List (List Bool)) (q g:List Bool):Bool:=p.isPrefixOf g&&q.isSuffixOf g&&decide (p.length+q.length≤g.length)&&yek g (g.length-q.length) p.length ms
noncomputable def addP (l m:List Nat):List Nat:=List.zipWith (fun a b=>a+b) l m
noncomputable def mulP (l:List Nat):List Nat:=addP (l++[0]) (0::l)
noncomputable def pwP:Nat→List Nat→List Nat
 | 0,l=>l
 | m+1,l=>mulP (pwP m l)
noncomputable def oneP (a b:Nat):List Nat:=List.replicate b 0++1::List.replicate a 0
noncomputable def wtP (R:Nat) (f:List Bool):List Nat:=pwP (R-f.length) (oneP (f.count false) (f.count true))
noncomputable def totP (n:List Bool→Nat) (R:Nat):List (List Bool)→List Nat
 | []=>List.replicate (R+1) 0
 | f::r=>addP ((wtP R f).map fun k=>n f*k) (totP n R r)
noncomputable def evH (p q:Int):List Nat→Int
 | []=>0
 | c::l=>c*p^l.length+q*evH p q l
section
variable {p q:Int}
theorem znq {l m:List Nat} (h:l.length=m.length):(addP l m).length=m.length:=by
 unfold addP;rw [List.length_zipWith,h,Nat.min_self]
theorem yhe (l:List Nat):(mulP l).length=l.length+1:=znq (by rw [List.length_append];rfl)
theorem mixI (a b c d:Int):a+b+(c+d)=a+c+(b+d):=by omega
theorem zsl:∀ {l m:List Nat},l.length=m.length→evH p q (addP l m)=evH p q l+evH p q m
 | [],[],_=>rfl
 | [],_::_,h=>by cases h
 | _::_,[],h=>by cases h
 | a::l,b::m,h=>by
  have h:l.length=m.length:=Nat.succ.inj h
  show ((a+b:Nat):Int)*p^(addP l m).length+q*evH p q (addP l m)=(a*p^l.length+q*evH p q l)+(b*p^m.length+q*evH p q m)
  rw [znq h,zsl h,h,Int.natCast_add,Int.add_mul,Int.mul_add,mixI]
theorem zod (l:List Nat):evH p q (0::l)=q*evH p q l:=by
 show ((0:Nat):Int)*p^l.length+_=_
 rw [Int.natCast_zero,Int.zero_mul,Int.zero_add]
theorem zun:∀ l:List Nat,evH p q (l++[0])=p*evH p q l
 | []=>by
  show ((0:Nat):Int)*p^0+q*0=p*0
  rw [Int.natCast_zero,Int.zero_mul,Int.mul_zero,Int.mul_zero];rfl
 | c::l=>by
  show (c:Int)*p^(l++[0]).length+q*evH p q (l++[0])=p*(c*p^l.length+q*evH p q l)
  rw [zun l,List.length_append,List.length_singleton,Int.pow_succ,Int.mul_add,Int.mul_comm (p^l.length) p,Int.mul_left_comm (c:Int) p,Int.mul_left_comm q p]
theorem ylw (l:List Nat):evH p q (mulP l)=(p+q)*evH p q l:=by
 unfold mulP
 rw [zsl (by rw [List.length_append];rfl),zun,zod,Int.add_mul]
theorem yjl:∀ (m:Nat) (l:List Nat),evH p q (pwP m l)=(p+q)^m*evH p q l∧(pwP m l).length=l.length+m
 | 0,l=>⟨by rw [Int.pow_zero,Int.one_mul];rfl,rfl⟩
 | m+1,l=>by
  obtain ⟨h1,h2⟩:=yjl m l
  refine ⟨?_, ?_⟩
  ·show evH p q (mulP (pwP m l))=_
   rw [ylw,h1,Int.pow_succ,Int.mul_comm ((p+q)^m) (p+q),Int.mul_assoc]
  ·show (mulP (pwP m l)).length=_
   rw [yhe,h2];rfl
theorem zoc:∀ a:Nat,evH p q (List.replicate a 0)=0
 | 0=>rfl
 | a+1=>by rw [List.replicate_succ,zod,zoc a,Int.mul_zero]
theorem yac (a:Nat):∀ b:Nat,evH p q (oneP a b)=p^a*q^b∧(oneP a b).length=a+b+1
 | 0=>by
  refine ⟨?_, ?_⟩
  ·show ((1:Nat):Int)*p^(List.replicate a 0).length+q*evH p q (List.replicate a 0)=_
   rw [zoc,List.length_replicate,Int.mul_zero,Int.add_zero,Int.pow_zero,Int.mul_one,Int.natCast_one,Int.one_mul]
  ·show (List.replicate a 0).length+1=_
   rw [List.length_replicate]
 | b+1=>by
  obtain ⟨h1,h2⟩:=yac a b
  have e:oneP a (b+1)=0::oneP a b:=by unfold oneP;rw [List.replicate_succ];rfl
  rw [e]
  refine ⟨?_, ?_⟩
  ·rw [zod,h1,Int.pow_succ,Int.mul_left_comm,Int.mul_comm q]
  ·rw [List.length_cons,h2];rfl
theorem zhy:∀ f:List Bool,f.count false+f.count true=f.length
 | []=>rfl
 | true::f=>by rw [List.count_cons,List.count_cons,List.length_cons,← zhy f];rfl
 | false::f=>by rw [List.count_cons,List.count_cons,List.length_cons,← zhy f];show f.count false+1+(f.count true+0)=_;omega
theorem yjm {R:Nat} {f:List Bool} (h:f.length≤R):evH p q (wtP R f)=p^f.count false*q^f.count true*(p+q)^(R-f.length)∧(wtP R f).length=R+1:=by
 obtain ⟨h1,h2⟩:=yac (p:=p) (q:=q) (f.count false) (f.count true)
 obtain ⟨h3,h4⟩:=yjl (p:=p) (q:=q) (R-f.length) (oneP (f.count false) (f.count true))
 refine ⟨?_, ?_⟩
 ·unfold wtP;rw [h3,h1,Int.mul_comm]
 ·unfold wtP;rw [h4,h2,zhy];omega
theorem zky (n:Nat):∀ l:List Nat,evH p q (l.map fun k=>n*k)=n*evH p q l
 | []=>by rw [show evH p q []=0 from rfl,Int.mul_zero];rfl
 | c::l=>by
  show ((n*c:Nat):Int)*p^(l.map fun k=>n*k).length+q*evH p q (l.map fun k=>n*k)=n*(c*p^l.length+q*evH p q l)
  rw [zky n l,List.length_map,Int.natCast_mul,Int.mul_add,Int.mul_assoc,Int.mul_left_comm q]
theorem yad {n:List Bool→Nat} {R:Nat}:∀ {l:List (List Bool)},(∀ f∈l,f.length≤R) →
  evH p q (totP n R l)=(l.map fun f=>n f*(p^f.count false*q^f.count true*(p+q)^(R-f.length))).sum∧(totP n R l).length=R+1
 | [],_=>⟨zoc _,List.length_replicate⟩
 | f::l,h=>by
  obtain ⟨h1,h2⟩:=yjm (p:=p) (q:=q) (h f (.head _))
  obtain ⟨h3,h4⟩:=yad (n:=n) (l:=l) fun x m=>h x (.tail _ m)
  have hl:((wtP R f).map fun k=>n f*k).length=(totP n R l).length:=by rw [List.length_map,h2,h4]
  refine ⟨?_, ?_⟩
  ·show evH p q (addP _ _)=_
   rw [zsl hl,zky,h1,h3,List.map_cons,List.sum_cons]
  ·show (addP _ _).length=_
   rw [znq hl,h4]
theorem yng {n:List Bool→Nat} {R m:Nat} {l:List (List Bool)} (h:∀ f∈l,f.length≤R) (e:totP n R l=(wtP R []).map fun k=>m*k):(l.map fun f=>n f*(p^f.count false*q^f.count true*(p+q)^(R-f.length))).sum=m*(p+q)^R:=by
 rw [← (yad (p:=p) (q:=q) (n:=n) h).1,e,zky,(yjm (p:=p) (q:=q) (Nat.zero_le _)).1]
 show (m:Int)*(p^0*q^0*(p+q)^(R-0))=_
 rw [Int.pow_zero,Int.pow_zero,Int.one_mul,Int.one_mul,Nat.sub_zero]
end
end Internal
namespace Internal
noncomputable def midR (x:List Bool):List Bool:=(x.drop 1).take (x.length-2)
noncomputable def rowI (c:List (List Bool)) (x:List Bool):List Bool:=(c.filter fun one=>decide (x.length+1<one.length)).map fun one=>ellR [] [x] [] (midR one)
noncomputable def zff (c:List (List Bool)) (R:Nat):List (List Bool):=c.filter fun x=>decide (x.length+1<R)
noncomputable def zem (c:List (List Bool)) (R:Nat):List (List Bool):=(zff c R).filter fun x=>(rowI c x).contains true
noncomputable def zhi (inner:List (List Bool)) (t:List Bool):Nat:=(inner.flatMap fun one=>(List.range (t.length+1-one.length)).filter fun k=>(t.drop k).take one.length==one).length
noncomputable def zfs (d:Nat) (inner:List (List Bool)) (t:List Bool):Nat:=d+zhi inner t-(t.length+1)
noncomputable def zgf (d:Nat) (inner l:List (List Bool)):List (List Bool):=l.filter fun x=>zfs d inner (x.drop 1)==zfs d inner x+1
noncomputable def zgh (d:Nat) (inner:List (List Bool)):Nat→List (List Bool)→List (List Bool)→List (List Bool) × List (List Bool)
 | 0,ws,fs=>(ws,fs)
 | n+1,ws,fs=>zgh d inner n (ws++(zdg fs).filter fun x=>!(zgf d inner (zdg fs)).contains x) (zgf d inner (zdg fs))
noncomputable def zax (c:List (List Bool)):Nat:=(c.map List.length).foldl max 0
noncomputable def zan (x:List Bool):List Bool × List Bool:=(x.take 1,x.drop (x.length-1))
noncomputable def zar (x t:List Bool):List Nat:=((List.range (x.length-t.length-1)).map fun k=>k+1).filter fun k=>(x.drop k).take t.length==t
noncomputable def zba (e:List Bool × List Bool) (x t:List Bool):Bool:=ellR e.1 [t] e.2 x
noncomputable def znm (x t:List Bool):Bool:=ellR (zan x).1 [t,t] (zan x).2 x
noncomputable def ypu (l:List Nat):Nat:=l.getD (l.length-1) 0
noncomputable def zmh (t x:List Bool):Bool:=!zba (zan x) x t || (!(zar x t).isEmpty&&znm x t==decide ((zar x t).getD 0 0+t.length≤ypu (zar x t)))
noncomputable def zcj (c:List (List Bool)) (t:List Bool):List (List Bool):=c.flatMap fun x=>if zba (zan x) x t then (zar x t).map fun k=>x.take k++x.drop (k+t.length) else []
noncomputable def textsR:List (List Bool):=[[]]++zdt 1++zdt 2++zdt 3++zdt 4
noncomputable def ykk (c:List (List Bool)):Bool:=!c.isEmpty&&decide (c.length≤20)&&c.all fun x=>!x.isEmpty&&decide (x.length≤7)
noncomputable def ypi (d:Nat) (c:List (List Bool)):Bool :=
 ykk c&&((zgh d (zem c (zax c)) (zax c) [] [[]]).1++(zgh d (zem c (zax c)) (zax c) [] [[]]).2).isPerm c&&(c.all fun x=>decide (x.length≤zax c))&&totP List.length (zax c) c==(wtP (zax c) []).map fun k=>d*k
noncomputable def ypj (d:Nat) (c:List (List Bool)):Bool :=
 textsR.all fun t=>((zcj c t).all fun f=>decide (f.length≤zax c))&&totP (fun _=>1) (zax c) (zcj c t)==(wtP (zax c) []).map fun k=>zfs d (zem c (zax c)) t*k
noncomputable def decB:Nat→Nat→List Bool→List Bool
 | 0,_,a=>a
 | f+1,n,a=>if n≤1 then a else decB f (n / 2) ((n % 2==1)::a)
noncomputable def dec (n:Nat):List Bool:=decB 8 n []
noncomputable def yje:Nat→List (List Nat)
 | 1=>[[2,3]]
 | 2=>[[4,5,6,7]]
 | 3=>[[8,9,10,11,12,13,14,15],[8,9,11,15,6,20,21,28,29],[8,12,14,15,5,18,19,26,27]]
 | 4=>[[16,17,18,19,20,21,22,23,24,25,26,27,28,29,30,31],[16,17,18,19,21,22,23,26,27,29,30,31,12,40,41,56,57],[16,17,19,22,23,24,25,27,28,29,30,31,10,36,37,52,53],[16,17,18,19,20,21,23,24,25,26,27,31,14,44,45,60,61],[16,20,21,22,23,24,26,27,28,29,30,31,9,34,35,50,51],[16,17,18,19,20,22,23,24,25,28,30,31,13,42,43,58,59],[16,17,18,20,21,24,25,26,28,29,30,31,11,38,39,54,55],[16,17,19,22,23,27,29,30,31,12,56,57,10,37,72,73,53,104,105],[16,17,18,19,21,23,26,27,31,12,40,41,14,45,88,89,61,120,121],[16,21,22,23,26,27,29,30,31,12,40,56,9,34,35,82,83,114,115],[16,17,18,19,22,23,30,31,12,40,41,56,57,13,42,43,58,59],[16,17,18,21,26,29,30,31,12,40,41,56,57,11,38,39,54,55],[16,17,19,22,23,27,29,30,31,10,37,53,12,56,57,72,73,104,105],[16,17,19,23,24,25,27,31,10,36,37,52,53,14,44,45,60,61],[16,22,23,24,27,28,29,30,31,10,52,53,9,35,68,69,51,100,101],[16,17,24,25,28,29,30,31,10,36,37,52,53,11,38,39,54,55],[16,17,18,19,21,23,26,27,31,14,45,61,12,40,41,88,89,120,121],[16,17,19,23,24,25,27,31,14,44,45,60,61,10,36,37,52,53],[16,20,21,23,24,26,27,31,14,44,45,60,61,9,34,35,50,51],[16,17,18,19,20,23,24,25,31,14,44,60,13,42,43,90,91,122,123],[16,17,18,20,21,24,25,26,31,14,60,61,11,39,76,77,55,108,109],[16,21,22,23,26,27,29,30,31,9,34,35,12,40,82,83,56,114,115],[16,22,23,24,27,28,29,30,31,9,35,51,10,52,53,68,69,100,101],[16,20,21,23,24,26,27,31,9,34,35,50,51,14,44,45,60,61],[16,20,22,23,24,28,30,31,9,34,35,50,51,13,42,43,58,59],[16,20,21,24,26,28,29,30,31,9,34,50,11,54,55,70,71,102,103],[16,17,18,19,22,23,30,31,13,42,43,58,59,12,40,41,56,57],[16,17,18,19,20,23,24,25,31,13,42,43,14,44,90,91,60,122,123],[16,20,22,23,24,28,30,31,13,42,43,58,59,9,34,35,50,51],[16,17,18,20,24,25,28,30,31,13,42,58,11,38,39,86,87,118,119],[16,17,18,21,26,29,30,31,11,38,39,54,55,12,40,41,56,57],[16,17,24,25,28,29,30,31,11,38,39,54,55,10,36,37,52,53],[16,17,18,20,21,24,25,26,31,11,39,55,14,60,61,76,77,108,109],[16,20,21,24,26,28,29,30,31,11,54,55,9,34,70,71,50,102,103],[16,17,18,20,24,25,28,30,31,11,38,39,13,42,86,87,58,118,119],[16,17,29,30,31,12,56,57,10,37,72,73,53,104,105,11,38,39,54,55],[16,22,23,30,31,12,40,56,9,34,35,82,83,114,115,13,42,43,58,59],[16,22,23,30,31,12,40,56,13,42,43,58,59,9,34,35,82,83,114,115],[16,17,18,30,31,12,40,41,56,57,13,42,58,11,38,39,86,87,118,119],[16,17,29,30,31,12,56,57,11,38,39,54,55,10,37,72,73,53,104,105],[16,17,18,30,31,12,40,41,56,57,11,38,39,13,42,86,87,58,118,119],[16,17,29,30,31,10,37,53,12,56,57,72,73,104,105,11,38,39,54,55],[16,23,24,27,31,10,52,53,14,44,45,60,61,9,35,68,69,51,100,101],[16,17,24,25,31,10,36,37,52,53,14,60,61,11,39,76,77,55,108,109],[16,23,24,27,31,10,52,53,9,35,68,69,51,100,101,14,44,45,60,61],[16,17,29,30,31,10,37,53,11,38,39,54,55,12,56,57,72,73,104,105],[16,17,24,25,31,10,36,37,52,53,11,39,55,14,60,61,76,77,108,109],[16,23,24,27,31,14,44,45,60,61,10,52,53,9,35,68,69,51,100,101],[16,17,24,25,31,14,60,61,10,36,37,52,53,11,39,76,77,55,108,109],[16,23,24,27,31,14,44,45,60,61,9,35,51,10,52,53,68,69,100,101],[16,20,23,24,31,14,44,60,9,34,35,50,51,13,42,43,90,91,122,123],[16,20,23,24,31,14,44,60,13,42,43,90,91,122,123,9,34,35,50,51],[16,17,24,25,31,14,60,61,11,39,76,77,55,108,109,10,36,37,52,53],[16,22,23,30,31,9,34,35,12,40,82,83,56,114,115,13,42,43,58,59],[16,23,24,27,31,9,35,51,10,52,53,68,69,100,101,14,44,45,60,61],[16,23,24,27,31,9,35,51,14,44,45,60,61,10,52,53,68,69,100,101],[16,20,23,24,31,9,34,35,50,51,14,44,60,13,42,43,90,91,122,123],[16,22,23,30,31,9,34,35,13,42,43,58,59,12,40,82,83,56,114,115],[16,20,23,24,31,9,34,35,50,51,13,42,43,14,44,90,91,60,122,123],[16,22,23,30,31,13,42,43,58,59,12,40,56,9,34,35,82,83,114,115],[16,17,18,30,31,13,42,58,12,40,41,56,57,11,38,39,86,87,118,119],[16,20,23,24,31,13,42,43,14,44,90,91,60,122,123,9,34,35,50,51],[16,22,23,30,31,13,42,43,58,59,9,34,35,12,40,82,83,56,114,115],[16,20,23,24,31,13,42,43,9,34,35,50,51,14,44,90,91,60,122,123],[16,17,18,30,31,13,42,58,11,38,39,86,87,118,119,12,40,41,56,57],[16,17,29,30,31,11,38,39,54,55,12,56,57,10,37,72,73,53,104,105],[16,17,18,30,31,11,38,39,12,40,41,56,57,13,42,86,87,58,118,119],[16,17,29,30,31,11,38,39,54,55,10,37,53,12,56,57,72,73,104,105],[16,17,24,25,31,11,39,55,10,36,37,52,53,14,60,61,76,77,108,109],[16,17,24,25,31,11,39,55,14,60,61,76,77,108,109,10,36,37,52,53],[16,17,18,30,31,11,38,39,13,42,86,87,58,118,119,12,40,41,56,57]]
 | _=>[]
noncomputable def ztv (d:Nat):List (List (List Bool)):=(yje d).map fun c=>c.map dec
theorem ypv:([1,2,3,4].all fun d=>(levC d 3).all fun c=>(ztv d).contains c)=true:=by decide +kernel
theorem ypk:([1,2,3,4].all fun d=>(ztv d).all (ypi d))=true:=by decide +kernel
theorem ypm:([1,2,3,4].all fun d=>((yje d).flatten.foldl addC []).all fun x=>textsR.all fun t=>zmh t (dec x))=true:=by decide +kernel
theorem ypl:([1,2,3,4].all fun d=>(ztv d).all (ypj d))=true:=by decide +kernel
noncomputable abbrev cB0:St:=.set 57 (.mt .join (.lit (.str "")) (.cons (.comp (.sub (.var 62) (.bin .Mod (.bin .FloorDiv (.var 53) (.bin .Pow (.lit (.int 2)) (.var 63))) (.lit (.int 2)))) (.cons [63] (.range (.cons (.bin .Sub (.var 64) (.lit (.int 1))) .nil)) .nil .nil)) .nil))
noncomputable abbrev cB1:St:=.set 61 (.comp (.slc (.var 3) .no (.yes (.bin .Sub (.bf .len (.cons (.var 3) .nil)) (.bf .len (.cons (.var 57) .nil)))) .no) (.cons [3] (.e (.var 52)) (.cons (.mt .endswith (.var 3) (.cons (.var 57) .nil)) .nil) .nil))
noncomputable abbrev cB2:St:=.set 60 (.comp (.slc (.var 3) (.yes (.bf .len (.cons (.var 57) .nil))) .no .no) (.cons [3] (.e (.var 52)) (.cons (.mt .startswith (.var 3) (.cons (.var 57) .nil)) .nil) .nil))
noncomputable abbrev cB3:St:=.set 55 (.bin .Add (.comp (.bin .Add (.var 58) (.var 57)) (.cons [58] (.e (.var 61)) .nil .nil)) (.comp (.bin .Add (.var 57) (.var 58)) (.cons [58] (.e (.var 60)) .nil .nil)))
noncomputable abbrev cB4:St:=.set 56 (.bin .Add (.list (.cons (.var 57) .nil)) (.comp (.bin .Add (.bin .Add (.var 58) (.var 57)) (.var 59)) (.cons [58] (.e (.var 61)) .nil (.cons [59] (.e (.var 60)) .nil .nil))))
noncomputable abbrev cB5:St:=.ifs (.bop .And (.cons (.cmp .Eq (.setlen (.var 55)) (.bf .len (.cons (.var 55) .nil))) (.cons (.cmp .LtE (.bin .Add (.bin .Sub (.bf .len (.cons (.var 52) .nil)) (.bf .len (.cons (.var 55) .nil))) (.bf .len (.cons (.var 56) .nil))) (.lit (.int 20))) .nil))) (.cons (.set 52 (.bin .Add (.comp (.var 3) (.cons [3] (.e (.var 52)) (.cons (.cmp .NotIn (.var 3) (.var 55)) .nil) .nil)) (.var 56))) .nil) .nil
noncomputable abbrev yot:Sts:=.cons cB0 (.cons cB1 (.cons cB2 (.cons cB3 (.cons cB4 (.cons cB5 .nil)))))
noncomputable def zgk:Fn:=⟨[62,64,54],[],(.cons (.set 52 (.list (.cons (.lit (.str "")) .nil))) (.cons (.loop [65] (.range (.cons (.var 64) .nil)) (.cons (.set 52 (.comp (.bin .Add (.var 3) (.var 50)) (.cons [3] (.e (.var 52)) .nil (.cons [50] (.e (.var 62)) .nil .nil)))) .nil)) (.cons (.loop [53] (.e (.var 54)) yot) (.cons (.ret (.var 52)) .nil))))⟩
variable {S:Sig}
noncomputable def NT (ρ:Rho):Prop:=(ρ.all fun p=>zbm p.2)=true
theorem NT.cons {ρ:Rho} {n:Nat} {d:D} (h:zbm d=true) (t:NT ρ):NT ((n,d)::ρ):=Bool.and_eq_true_iff.mpr ⟨h,t⟩
theorem NT.inv {ρ:Rho} {p:Nat × D} (h:NT (p::ρ)):zbm p.2=true∧NT ρ:=bap h
theorem NT.set:∀ {ρ:Rho} {n:Nat} {d:D},NT ρ→zbm d=true→NT (ρ.set n d)
 | [],_,_,_,k=>NT.cons k rfl
 | (m,e)::r,n,d,h,k=>by
  unfold Rho.set
  by_cases c:m=n
  ·rw [if_pos c];exact NT.cons k h.inv.2
  ·rw [if_neg c];exact NT.cons h.inv.1 (NT.set h.inv.2 k)
theorem NT.del {ρ:Rho} {ns:List Nat} (h:NT ρ):NT (ρ.del ns):=List.all_eq_true.mpr fun p m=>latp h p (List.mem_filter.mp m).1
theorem zbi {α:Type} {g:α→D}:∀ {l:List α},(∀ a∈l,zbm (g a)=true)→zaw (l.map g)=true
 | [],_=>rfl
 | a::l,h=>Bool.and_eq_true_iff.mpr ⟨h a (.head _),zbi fun b m=>h b (.tail _ m)⟩
theorem zqt {l:List D} (h:zaw l=true):l.all zbm=true:=by
 induction l with
 | nil=>rfl
 | cons a l ih =>
  obtain ⟨h1,h2⟩:=bap (show (zbm a&&zaw l)=true from h)
  exact Bool.and_eq_true_iff.mpr ⟨h1,ih h2⟩
theorem zkj {α β γ:Type} (f:α→β) (g:α→γ):∀ l:List α,(l.map f).zip (l.map g)=l.map fun a=>(f a,g a)
 | []=>rfl
 | a::l=>by rw [List.map_cons,List.map_cons,List.zip_cons_cons,zkj f g l];rfl
theorem zhb {α:Type} {ρ:Rho} {e1 e2:E} {l:List α} {f g:α→D} (nt:NT ρ) (h1:ev S ρ e1=some (.list (l.map f))) (h2:ev S ρ e2=some (.list (l.map g))) (n1:zaw (l.map f)=true) (n2:zaw (l.map g)=true) :
  zdk S ρ (.zip (.cons e1 (.cons e2 .nil)))=some (l.map fun a=>.tuple [f a,g a]):=by
 refine bi (x:=[l.map f,l.map g]) (bi (zab h1 (zab h2 zah)) rfl) ?_
 rw [if_pos]
 ·show some (((l.map f).zip (l.map g)).map fun p=>PyData.tuple [p.1,p.2])=_
  rw [zkj,List.map_map];rfl
 ·refine Bool.and_eq_true_iff.mpr ⟨nt,Bool.and_eq_true_iff.mpr ⟨?_,rfl⟩⟩
  show (l.map f++(l.map g++[])).all zbm=true
  rw [List.append_nil,List.all_append,zqt n1,zqt n2];rfl
theorem zou {α:Type} {ρ:Rho} {e1 e2 e3:E} {l:List α} {f g h:α→D} (nt:NT ρ) (h1:ev S ρ e1=some (.list (l.map f))) (h2:ev S ρ e2=some (.list (l.map g))) (h3:ev S ρ e3=some (.list (l.map h))) (n1:zaw (l.map f)=true) (n2:zaw (l.map g)=true) (n3:zaw (l.map h)=true) :
  zdk S ρ (.zip (.cons e1 (.cons e2 (.cons e3 .nil))))=some (l.map fun a=>.tuple [f a,g a,h a]):=by
 refine bi (x:=[l.map f,l.map g,l.map h]) (bi (zab h1 (zab h2 (zab h3 zah))) rfl) ?_
 rw [if_pos]
 ·show some (((l.map f).zip ((l.map g).zip (l.map h))).map fun p=>PyData.tuple [p.1,p.2.1,p.2.2])=_
  rw [zkj,zkj,List.map_map];rfl
 ·refine Bool.and_eq_true_iff.mpr ⟨nt,Bool.and_eq_true_iff.mpr ⟨?_,rfl⟩⟩
  show (l.map f++(l.map g++(l.map h++[]))).all zbm=true
  rw [List.append_nil,List.all_append,List.all_append,zqt n1,zqt n2,zqt n3];rfl
theorem zpz {α:Type} {f:D→Option (List D)} {i:α→D} {out:α→List D}:∀ {l:List α},(∀ a∈l,f (i a)=some (out a))→zcs f (l.map i)=some (l.flatMap out)
 | [],_=>rfl
 | a::l,h=>by
  have e:zcs f ((a::l).map i)=match f (i a) with | some x=>(match zcs f (l.map i) with | some y=>some (x++y) | none=>none) | none=>none:=rfl
  rw [e,h a (.head _),zpz fun b m=>h b (.tail _ m)];rfl
theorem yab {ρ:Rho} {c:E} {b:Bool} (h:evT S ρ c=some b):ziw S ρ .And (.cons c .nil)=some b:=bi h (by cases b <;> rfl)
theorem zus {α β:Type} {ρ:Rho} {elt:E} {tg tg2:List Nat} {src src2:Src} {ifs ifs2:Es} {l:List α} {i:α→D} {q:α→Bool} {l2:α→List β} {i2:α→β→D} {p:α→β→Bool} {g:α→β→D} (hs:zdk S ρ src=some (l.map i))
  (h:∀ a∈l,∃ ρ',zcn (ρ.del (tg++(tg2++[]))) tg (i a)=some ρ'∧ziw S ρ' .And ifs=some (q a)∧(q a=true→zdk S ρ' src2=some ((l2 a).map (i2 a))∧∀ b∈l2 a,∃ ρ'',zcn ρ' tg2 (i2 a b)=some ρ''∧ziw S ρ'' .And ifs2=some (p a b)∧(p a b=true→ev S ρ'' elt=some (g a b))))
  (hl:(l.flatMap fun a=>if q a then ((l2 a).filter (p a)).map (g a) else []).length≤16777216) (hz:(!zeu src || zaw (l.flatMap fun a=>if q a then ((l2 a).filter (p a)).map (g a) else []))=true:=by rfl) :
  ev S ρ (.comp elt (.cons tg src ifs (.cons tg2 src2 ifs2 .nil)))=some (.list (l.flatMap fun a=>if q a then ((l2 a).filter (p a)).map (g a) else [])):=by
 refine bi (x:=l.flatMap fun a=>if q a then ((l2 a).filter (p a)).map (g a) else []) (bi hs (zpz fun a m=>?_)) (if_pos (show (decide (_≤16777216)&&(!zeu src || zaw _))=true from Bool.and_eq_true_iff.mpr ⟨decide_eq_true hl,hz⟩))
 obtain ⟨ρ',h1,h2,h3⟩:=h a m
 refine bi h1 (bi h2 ?_)
 cases hq:q a with
 | false=>rfl
 | true =>
  obtain ⟨h4,h5⟩:=h3 hq
  refine bi h4 (zgg fun b mb=>?_)
  obtain ⟨ρ'',k1,k2,k3⟩:=h5 b mb
  refine bi k1 (bi k2 ?_)
  cases hp:p a b with
  | false=>rfl
  | true =>
   show (ev S ρ'' elt).map (fun d=>[d])=_
   rw [k3 hp];rfl
theorem yam {α β:Type} {ρ:Rho} {elt:E} {tg tg2:List Nat} {src src2:Src} {l:List α} {i:α→D} {l2:α→List β} {i2:α→β→D} {g:α→β→D} (hs:zdk S ρ src=some (l.map i))
  (h:∀ a∈l,∃ ρ',zcn (ρ.del (tg++(tg2++[]))) tg (i a)=some ρ'∧zdk S ρ' src2=some ((l2 a).map (i2 a))∧∀ b∈l2 a,∃ ρ'',zcn ρ' tg2 (i2 a b)=some ρ''∧ev S ρ'' elt=some (g a b))
  (hl:(l.flatMap fun a=>(l2 a).map (g a)).length≤16777216) (hz:zeu src=false:=by rfl):ev S ρ (.comp elt (.cons tg src .nil (.cons tg2 src2 .nil .nil)))=some (.list (l.flatMap fun a=>(l2 a).map (g a))):=by
 have e:(l.flatMap fun a=>if true=true then ((l2 a).filter fun _=>true).map (g a) else [])=l.flatMap fun a=>(l2 a).map (g a):=by
  refine congrArg (fun f=>l.flatMap f) (funext fun a=>?_)
  rw [if_pos rfl,List.filter_eq_self.mpr fun _ _=>rfl]
 have:=zus (S:=S) (ρ:=ρ) (elt:=elt) (tg:=tg) (tg2:=tg2) (src:=src) (src2:=src2) (ifs:=.nil) (ifs2:=.nil) (q:=fun _=>true) (p:=fun _ _=>true) (l2:=l2) (i2:=i2) (g:=g) hs (fun a m=>by
  obtain ⟨ρ',h1,h2,h3⟩:=h a m
  exact ⟨ρ',h1,rfl,fun _=>⟨h2,fun b mb=>let ⟨ρ'',k1,k2⟩:=h3 b mb;⟨ρ'',k1,rfl,fun _=>k2⟩⟩⟩) (by rw [e];exact hl) (by rw [hz];rfl)
 rw [e] at this
 exact this
end Internal
namespace Internal
structure Sync (u v:List Nat):Prop extends Code u v where
 hd:∀ c∈u.tail++v.tail,u.head?≠some c∧v.head?≠some c
section
variable {u v:List Nat}
noncomputable abbrev at_ (u v:List Nat) (g:List Bool) (j:Nat):Nat:=(wd u v (g.take j)).length
theorem zvd {α:Type} {a b:List α} (h:a≠[]):(a++b).head?=a.head?:=by
 cases a with
 | nil=>exact absurd rfl h
 | cons x r=>rfl
theorem Sync.occ (y:Sync u v) {w:List Bool} (hw:w≠[]):∀ {g:List Bool} {i:Nat},wd u v w <+: (wd u v g).drop i→∃ j,j≤g.length∧i=at_ u v g j∧w <+: g.drop j
 | g,0,h=>⟨0,Nat.zero_le _,rfl,zwq ⟨y.u0,y.v0⟩ ⟨y.p1,y.p2⟩ h⟩
 | [],i+1,h=>absurd (List.prefix_nil.mp h) (yiv y.toCode hw)
 | b::g,i+1,h=>by
  have hb:(if b then v else u)≠[]:=by cases b <;> first | exact y.u0 | exact y.v0
  rw [zcu] at h
  by_cases c:i+1<(if b then v else u).length
  ·exfalso
   rw [List.drop_append_of_le_length (Nat.le_of_lt c)] at h
   obtain ⟨x,hx⟩:∃ x,(if b then v else u).drop (i+1)=x::(if b then v else u).drop (i+2):=⟨_,List.drop_eq_getElem_cons c⟩
   obtain ⟨r,hr⟩:=h
   have e1:(wd u v w).head?=some x:=by
    have:=congrArg List.head? hr
    rwa [zvd (yiv y.toCode hw),hx] at this
   have hm:x∈u.tail++v.tail:=by
    have m:x∈(if b then v else u).tail:=by
     rw [← List.drop_one]
     have:x∈(if b then v else u).drop (i+1):=by rw [hx];exact .head _
     rw [Nat.add_comm,← List.drop_drop] at this
     exact List.mem_of_mem_drop this
    cases b
    ·exact List.mem_append_left _ m
    ·exact List.mem_append_right _ m
   cases w with
   | nil=>exact hw rfl
   | cons s w =>
    have hs:(if s then v else u)≠[]:=by cases s <;> first | exact y.u0 | exact y.v0
    rw [zcu,zvd hs] at e1
    cases s
    ·exact (y.hd x hm).1 e1
    ·exact (y.hd x hm).2 e1
  ·obtain ⟨j,h1,h2,h3⟩:=y.occ hw (g:=g) (i:=i+1-(if b then v else u).length) (by
    rw [List.drop_append,List.drop_eq_nil_of_le (Nat.le_of_not_lt c),List.nil_append] at h
    exact h)
   refine ⟨j+1,Nat.succ_le_succ h1, ?_,h3⟩
   show _=(wd u v (b::g.take j)).length
   rw [zcu,List.length_append]
   exact ((Nat.add_sub_cancel' (Nat.le_of_not_lt c)).symm).trans (congrArg (fun n=>(if b then v else u).length+n) h2)
theorem znz {α:Type} (i:Nat) (l:List α):(l.drop i).length≤l.length:=Nat.le_trans (Nat.le_of_eq List.length_drop) (Nat.sub_le _ _)
theorem zpp {α:Type} {l:List α} {i j:Nat} (h:i≤j):l.take j=l.take i++(l.take j).drop i:=by
 have:=(List.take_append_drop i (l.take j)).symm
 rwa [List.take_take,Nat.min_eq_left h] at this
theorem Code.at_le (c:Code u v) {g:List Bool} {i j:Nat} (hi:i≤g.length) (hj:j≤g.length):at_ u v g i≤at_ u v g j↔i≤j:=by
 have key:∀ {i j:Nat},i≤j→at_ u v g i≤at_ u v g j:=fun {i j} h=>by
  unfold at_
  rw [zpp h,zcf,List.length_append];exact Nat.le_add_right _ _
 refine ⟨fun h=>?_,key⟩
 rcases Nat.lt_or_ge j i with q | q
 ·exfalso
  have e:=zpp (l:=g) (Nat.le_of_lt q)
  have hn:(g.take i).drop j≠[]:=fun q'=>by
   have:=congrArg List.length q'
   rw [List.length_drop,List.length_take,List.length_nil] at this
   exact Nat.sub_ne_zero_of_lt (by rw [Nat.min_eq_left hi];exact q) this
  have:=List.length_pos_iff.mpr (yiv c hn)
  unfold at_ at h
  rw [e,zcf,List.length_append] at h
  omega
 ·exact q
theorem zze {g w:List Bool} {j:Nat} (h:w <+: g.drop j):at_ u v g (j+w.length)=at_ u v g j+(wd u v w).length:=by
 unfold at_
 rw [List.take_add,zcf,List.length_append,← List.prefix_iff_eq_take.mp h]
theorem ynz (g:List Bool) (j:Nat):(wd u v g).drop (at_ u v g j)=wd u v (g.drop j):=by
 have:wd u v g=wd u v (g.take j)++wd u v (g.drop j):=by rw [← zcf,List.take_append_drop]
 rw [this,List.drop_left]
theorem take_pre {α:Type} [BEq α] [LawfulBEq α] {a b:List α}:(a.take b.length==b)=true↔b <+: a:=by
 rw [beq_iff_eq]
 exact ⟨fun h=>h▸List.take_prefix _ _,fun h=>(List.prefix_iff_eq_take.mp h).symm⟩
theorem yav {p:Nat→Bool} {s e j:Nat} (h1:s≤j) (h2:j≤e) (hp:p j=true) (hn:∀ i,s≤i→i<j→p i=false):(List.range' s (e+1-s)).find? p=some j :=
 List.find?_range'_eq_some.mpr ⟨hp,List.mem_range'_1.mpr ⟨h1,by omega⟩,fun i a b=>by rw [hn i a b];rfl⟩
theorem ypg {p:Nat→Bool} {s e:Nat} (hn:∀ i,s≤i→p i=false):(List.range' s (e+1-s)).find? p=none :=
 List.find?_range'_eq_none.mpr fun i a _=>by rw [hn i a];rfl
theorem yaw {p:Nat→Bool} {s e j:Nat} (h:(List.range' s (e+1-s)).find? p=some j):s≤j∧p j=true∧∀ i,s≤i→i<j→p i=false:=by
 obtain ⟨p1,p2,p3⟩:=List.find?_range'_eq_some.mp h
 exact ⟨(List.mem_range'_1.mp p2).1,p1,fun i a b=>zjb (p3 i a b)⟩
theorem ygo {p:Nat→Bool} {s e i:Nat} (h:(List.range' s (e+1-s)).find? p=none) (h1:s≤i) (h2:i≤e):p i=false :=
 zjb (List.find?_range'_eq_none.mp h i h1 (by omega))
theorem zhn {k n e:Nat} {b:Bool} (h:(decide (k+n≤e)&&b)=true):k+n≤e:=of_decide_eq_true (bap h).1
theorem Sync.find (y:Sync u v) {g w:List Bool} {s e:Nat} (hs:s≤e) (he:e≤g.length):zhe (wd u v g) (wd u v w) (at_ u v g s) (at_ u v g e)=(zxg g w s e).map (at_ u v g):=by
 have hsg:=Nat.le_trans hs he
 by_cases hw:w=[]
 ·subst hw
  have h1:zxg g [] s e=some s:=yav (Nat.le_refl _) hs (Bool.and_eq_true_iff.mpr ⟨decide_eq_true hs,beq_self_eq_true []⟩) fun i a b=>absurd a (Nat.not_le.mpr b)
  rw [h1]
  exact yav (Nat.le_refl _) ((y.at_le hsg he).mpr hs) (Bool.and_eq_true_iff.mpr ⟨decide_eq_true ((y.at_le hsg he).mpr hs),beq_self_eq_true []⟩) fun i a b=>absurd a (Nat.not_le.mpr b)
 ·have up:∀ {j:Nat},(decide (j+w.length≤e)&&((g.drop j).take w.length==w))=true →
    (decide (at_ u v g j+(wd u v w).length≤at_ u v g e)&&(((wd u v g).drop (at_ u v g j)).take (wd u v w).length==wd u v w))=true:=fun {j} h=>by
   have h2:=take_pre.mp (bap h).2
   refine Bool.and_eq_true_iff.mpr ⟨decide_eq_true ?_,take_pre.mpr ?_⟩
   ·rw [← zze h2]
    exact (y.at_le (Nat.le_trans (zhn h) he) he).mpr (zhn h)
   ·rw [ynz];exact zto h2
  have dn:∀ {i:Nat},at_ u v g s≤i→(decide (i+(wd u v w).length≤at_ u v g e)&&(((wd u v g).drop i).take (wd u v w).length==wd u v w))=true →
    ∃ j,s≤j∧i=at_ u v g j∧(decide (j+w.length≤e)&&((g.drop j).take w.length==w))=true:=fun {i} hi h=>by
   have h1:=zhn h
   obtain ⟨j,a1,rfl,a3⟩:=y.occ hw (take_pre.mp (bap h).2)
   refine ⟨j,(y.at_le hsg a1).mp hi,rfl,Bool.and_eq_true_iff.mpr ⟨decide_eq_true ?_,take_pre.mpr a3⟩⟩
   have hl:=a3.length_le
   rw [List.length_drop] at hl
   rw [← zze a3] at h1
   exact (y.at_le (Nat.add_comm j _▸Nat.add_le_of_le_sub a1 hl) he).mp h1
  cases hr:zxg g w s e with
  | some j =>
   obtain ⟨p1,p2,p3⟩:=yaw hr
   have hje:=Nat.le_trans (Nat.le_add_right j _) (zhn p2)
   have q1:=up p2
   refine yav ((y.at_le hsg (Nat.le_trans hje he)).mpr p1) (Nat.le_trans (Nat.le_add_right _ _) (zhn q1)) q1 fun i a b=>?_
   cases q:(decide (i+(wd u v w).length≤at_ u v g e)&&(((wd u v g).drop i).take (wd u v w).length==wd u v w)) with
   | false=>rfl
   | true =>
    obtain ⟨j',a1,rfl,a3⟩:=dn a q
    have hle:=Nat.le_trans (Nat.le_add_right j' _) (zhn a3)
    rcases Nat.lt_or_ge j' j with z | z
    ·exact absurd (a3.symm.trans (p3 j' a1 z)) (fun e=>Bool.noConfusion e)
    ·exact absurd ((y.at_le (Nat.le_trans hje he) (Nat.le_trans hle he)).mpr z) (Nat.not_le.mpr b)
  | none =>
   refine ypg fun i a=>?_
   cases q:(decide (i+(wd u v w).length≤at_ u v g e)&&(((wd u v g).drop i).take (wd u v w).length==wd u v w)) with
   | false=>rfl
   | true =>
    obtain ⟨j',a1,rfl,a3⟩:=dn a q
    exact absurd (a3.symm.trans (ygo hr a1 (Nat.le_trans (Nat.le_add_right j' _) (zhn a3)))) (fun e=>Bool.noConfusion e)
theorem Sync.walk (y:Sync u v) {g:List Bool} {e:Nat} (he:e≤g.length):∀ {ms:List (List Bool)} {s:Nat},s≤e→zdu (wd u v g) (at_ u v g e) (at_ u v g s) (ms.map (wd u v))=yek g e s ms
 | [],_,_=>rfl
 | w::ms,s,hs=>by
  show (match zhe (wd u v g) (wd u v w) (at_ u v g s) (at_ u v g e) with | some k=>zdu (wd u v g) (at_ u v g e) (k+(wd u v w).length) (ms.map (wd u v)) | none=>false)=(match zxg g w s e with | some k=>yek g e (k+w.length) ms | none=>false)
  rw [y.find hs he]
  cases hr:zxg g w s e with
  | none=>rfl
  | some j =>
   obtain ⟨_,p1,_⟩:=yaw hr
   obtain ⟨h1,h2⟩:=bap p1
   show zdu _ _ (at_ u v g j+(wd u v w).length) _=yek g e (j+w.length) ms
   rw [← zze (take_pre.mp h2)]
   exact y.walk he (of_decide_eq_true h1)
theorem Sync.ell (y:Sync u v) (p:List Bool) (ms:List (List Bool)) (q g:List Bool):ellM (wd u v p::(ms.map (wd u v)++[wd u v q])) (wd u v g)=ellR p ms q g:=by
 rw [zxd,y.pre,y.suf]
 unfold ellR
 by_cases h1:p.isPrefixOf g=true
 ·by_cases h2:q.isSuffixOf g=true
  ·have e1:p=g.take p.length:=List.prefix_iff_eq_take.mp (List.isPrefixOf_iff_prefix.mp h1)
   have hp:=(List.isPrefixOf_iff_prefix.mp h1).length_le
   have hs:=List.isSuffixOf_iff_suffix.mp h2
   have hq:=hs.length_le
   have c1:(wd u v p).length=at_ u v g p.length:=by unfold at_;rw [← e1]
   have c2:(wd u v g).length-(wd u v q).length=at_ u v g (g.length-q.length):=by
    have:wd u v g=wd u v (g.take (g.length-q.length))++wd u v q:=by
     obtain ⟨r,hr⟩:=hs
     have e:g.take (g.length-q.length)=r:=by rw [← hr,List.length_append,Nat.add_sub_cancel,List.take_left]
     rw [e,← zcf,hr]
    rw [this,List.length_append,Nat.add_sub_cancel]
   have c3:(wd u v q).length≤(wd u v g).length:=by
    obtain ⟨r,rfl⟩:=hs
    rw [zcf,List.length_append];exact Nat.le_add_left _ _
   rw [h1,h2,c2]
   by_cases h3:p.length+q.length≤g.length
   ·rw [decide_eq_true h3,decide_eq_true (by
     have:=(y.at_le (g:=g) (i:=p.length) (j:=g.length-q.length) hp (Nat.sub_le _ _)).mpr (Nat.le_sub_of_add_le h3)
     rw [← c1,← c2] at this
     exact Nat.add_le_of_le_sub c3 this),c1,y.walk (Nat.sub_le _ _) (Nat.le_sub_of_add_le h3)]
   ·rw [decide_eq_false h3,decide_eq_false fun h=>h3 ?_]
    ·rfl
    ·have:(wd u v p).length≤(wd u v g).length-(wd u v q).length:=Nat.le_sub_of_add_le h
     rw [c1,c2] at this
     have:=(y.at_le (g:=g) hp (Nat.sub_le _ _)).mp this
     omega
  ·rw [Bool.not_eq_true] at h2
   rw [h2];simp
 ·rw [Bool.not_eq_true] at h1
  rw [h1];simp
end
end Internal
namespace Internal
variable {S:Sig} {cu cv:Nat}
noncomputable def zry (m n:Nat):List Bool:=(List.range n).map fun j=>m / 2^j % 2==1
theorem yhs (m:Nat):zkz (dtx [cu,cv]) (nint (m % 2))=some (dtx (tw cu cv [m % 2==1])):=by
 rcases Nat.mod_two_eq_zero_or_one m with e | e
 ·rw [e];rfl
 ·rw [e];rfl
theorem ynx (hu:cu<55296) (hv:cv<55296) {x:List Bool}:∀ c∈tw cu cv x,c<55296:=fun c hc=>(yen hc).elim (fun q=>msp q▸hu) fun q=>msp q▸hv
theorem yae (hu:cu<55296) (hv:cv<55296) {ρ:Rho} {X Y:E} {m n:Nat} (g62:ρ.get 62=some (dtx [cu,cv])) (hX:∀ j:Nat,ev S ((ρ.del ([63]++[])).set 63 (nint j)) X=some (nint m)) (hY:ev S ρ Y=some (nint n)) (hn:n≤50) :
  ev S ρ (.mt .join (.lit (.str "")) (.cons (.comp (.sub (.var 62) (.bin .Mod (.bin .FloorDiv X (.bin .Pow (.lit (.int 2)) (.var 63))) (.lit (.int 2)))) (.cons [63] (.range (.cons Y .nil)) .nil .nil)) .nil))=some (dtx (tw cu cv (zry m n))):=by
 have key:=zbt (S:=S) (ρ:=ρ) (elt:=.sub (.var 62) (.bin .Mod (.bin .FloorDiv X (.bin .Pow (.lit (.int 2)) (.var 63))) (.lit (.int 2)))) (tg:=[63]) (src:=.range (.cons Y .nil)) (l:=List.range n) (i:=nint) (g:=fun j=>dtx (tw cu cv [m / 2^j % 2==1]))
  (zic hY (Nat.le_trans hn (by decide))) fun j mj=>⟨(ρ.del ([63]++[])).set 63 (nint j),rfl,by
   have hj:=List.mem_range.mp mj
   have h2:(2:Nat)^j<2^60:=Nat.pow_lt_pow_right (by decide) (by omega)
   exact zbf (zaa (zac (by decide) (zau (by decide) g62))) (zaf (zaf (hX j) (zaf (zai (d:=.int 2)) (zaa zag) (pow2 j (by omega))) (zfk (Nat.two_pow_pos j) h2)) (zai (d:=nint 2)) (zdc (by decide))) (yhs _)⟩
 have e:((List.range n).map fun j=>dtx (tw cu cv [m / 2^j % 2==1]))=((zry m n).map fun s=>tw cu cv [s]).map dtx:=by
  unfold zry;rw [List.map_map,List.map_map];rfl
 rw [e] at key
 have hl:(zry m n).length=n:=by unfold zry;rw [List.length_map,List.length_range]
 have:=zuq key (by rw [List.length_map,hl];omega) fun p mp=>by
  obtain ⟨s,_,rfl⟩:=mmp mp
  exact ⟨by rw [zjv];show 1≤1000;decide,ynx hu hv⟩
 rw [ynw] at this
 exact this
theorem ymt (h:cu≠cv) (x w:List Bool):evMt .endswith (dtx (tw cu cv x)) [dtx (tw cu cv w)]=some (.bool (w.isSuffixOf x)):=by
 show some (PyData.bool (Txt.endswith (tx _) (tx _)))=_
 rw [zpt]
 show some (PyData.bool ((tw cu cv w).isSuffixOf (tw cu cv x)))=_
 rw [(zop h).suf]
theorem ybz (h:cu≠cv) (x w:List Bool):evMt .startswith (dtx (tw cu cv x)) [dtx (tw cu cv w)]=some (.bool (w.isPrefixOf x)):=by
 show some (PyData.bool (Txt.startswith (tx _) (tx _)))=_
 rw [zlx]
 show some (PyData.bool ((tw cu cv w).isPrefixOf (tw cu cv x)))=_
 rw [(zop h).pre]
theorem zuy:∀ {l acc:List (List Bool)},(l.foldl addC acc).length≤acc.length+l.length∧((l.foldl addC acc).length=acc.length+l.length↔zhu l=true∧∀ x∈l,x∉acc)
 | [],acc=>⟨Nat.le_refl _,fun _=>⟨rfl,fun _ m=>nomatch m⟩,fun _=>rfl⟩
 | x::l,acc=>by
  obtain ⟨h1,h2⟩:=zuy (l:=l) (acc:=addC acc x)
  rw [List.foldl_cons,List.length_cons]
  by_cases c:acc.contains x=true
  ·have e:addC acc x=acc:=if_pos c
   rw [e] at h1 h2 ⊢
   exact ⟨by omega,fun q=>by omega,fun q=>absurd (List.contains_iff_mem.mp c) (q.2 x (.head _))⟩
  ·have e:addC acc x=acc++[x]:=if_neg c
   have hl:(addC acc x).length=acc.length+1:=by rw [e,List.length_append];rfl
   rw [hl] at h1 h2
   have hx:x∉acc:=fun m=>c (List.contains_iff_mem.mpr m)
   refine ⟨by omega,fun q=>?_,fun q=>?_⟩
   ·obtain ⟨a1,a2⟩:=h2.mp (by omega)
    refine ⟨Bool.and_eq_true_iff.mpr ⟨?_,a1⟩,fun y m=>?_⟩
    ·rw [Bool.not_eq_true']
     cases d:l.contains x with
     | false=>rfl
     | true=>exact absurd (e▸List.mem_append_right _ (.head _)) (a2 x (List.contains_iff_mem.mp d))
    ·rcases mcp m with rfl | m
     ·exact hx
     ·exact fun m'=>a2 y m (e▸List.mem_append_left _ m')
   ·obtain ⟨a1,a2⟩:=bap (show (!l.contains x&&zhu l)=true from q.1)
    have:=h2.mpr ⟨a2,fun y m m'=>?_⟩
    ·omega
    ·rw [e] at m'
     rcases map2 m' with m' | m'
     ·exact q.2 y (.tail _ m) m'
     ·rw [msp m'] at m
      rw [List.contains_iff_mem.mpr m] at a1;exact ff a1
theorem ydf (h:cu≠cv):∀ (l acc:List (List Bool)),(l.map fun x=>dtx (tw cu cv x)).foldl zyq (acc.map fun x=>tx (tw cu cv x))=(l.foldl addC acc).map fun x=>tx (tw cu cv x)
 | [],acc=>rfl
 | x::l,acc=>by
  rw [List.map_cons,List.foldl_cons,List.foldl_cons,← ydf h l]
  refine congrArg (fun a=>List.foldl zyq a _) ?_
  show (if (acc.map fun x=>tx (tw cu cv x)).any (· == tx (tw cu cv x)) then _ else _)=_
  have e:((acc.map fun x=>tx (tw cu cv x)).any (· == tx (tw cu cv x)))=acc.contains x:=by
   rw [List.any_map,Bool.eq_iff_iff,List.any_eq_true,List.contains_iff_mem]
   refine ⟨fun ⟨y,m,q⟩=>?_,fun m=>⟨x,m, ?_⟩⟩
   ·have q:(tx (tw cu cv y)==tx (tw cu cv x))=true:=q
    rw [yeg,zwn h,beq_iff_eq] at q
    exact q▸m
   ·show (tx (tw cu cv x)==tx (tw cu cv x))=true
    rw [beq_self_eq_true]
  rw [e]
  unfold addC
  by_cases c:acc.contains x=true
  ·rw [if_pos c,if_pos c]
  ·rw [if_neg c,if_neg c,List.map_append];rfl
theorem ygr (hu:cu<55296) (hv:cv<55296) {x:List Bool} (hx:x.length≤1000):zmr (dtx (tw cu cv x))=true:=zjs (by rw [zjv];omega) (ynx hu hv)
theorem yap (h:cu≠cv) (hu:cu<55296) (hv:cv<55296) {ρ:Rho} {e:E} {l:List (List Bool)} (he:ev S ρ e=some (txs cu cv l)) (hl:l.length≤1000) (hx:∀ x∈l,x.length≤1000):ev S ρ (.setlen e)=some (nint (l.foldl addC []).length):=by
 refine li he ?_
 rw [if_pos]
 ·refine congrArg (fun n:Nat=>some (PyData.int (n:Int))) ?_
  have:=congrArg List.length (ydf h l [])
  rw [List.length_map] at this
  exact this
 ·refine Bool.and_eq_true_iff.mpr ⟨List.all_eq_true.mpr fun d m=>?_,decide_eq_true (by rw [List.length_map];exact hl)⟩
  obtain ⟨x,mx,rfl⟩:=mmp m
  exact ygr hu hv (hx x mx)
end Internal
namespace Internal
variable {S:Sig} {cu cv:Nat}
noncomputable def Bd (M:Nat) (c:List (List Bool)):Prop:=∀ x∈c,x.length≤M
theorem zjy {M:Nat} {c:List (List Bool)} {w:List Bool} (h:Bd M c):(zda c w).length≤c.length∧Bd M (zda c w):=by
 unfold zda
 refine ⟨by rw [List.length_map];exact List.length_filter_le _ _,fun y m=>?_⟩
 obtain ⟨x,mx,rfl⟩:=mmp m
 exact Nat.le_trans (List.length_take_le _ _) (Nat.le_trans (Nat.sub_le _ _) (h x (List.mem_filter.mp mx).1))
theorem zhw {M:Nat} {c:List (List Bool)} {w:List Bool} (h:Bd M c):(zbz c w).length≤c.length∧Bd M (zbz c w):=by
 unfold zbz
 refine ⟨by rw [List.length_map];exact List.length_filter_le _ _,fun y m=>?_⟩
 obtain ⟨x,mx,rfl⟩:=mmp m
 exact Nat.le_trans (by rw [List.length_drop];exact Nat.sub_le _ _) (h x (List.mem_filter.mp mx).1)
theorem zeb {α β:Type} {f:α→List β} {n:Nat}:∀ {l:List α},(∀ a∈l,(f a).length≤n)→(l.flatMap f).length≤l.length*n
 | [],_=>Nat.zero_le _
 | a::l,h=>by
  have h1:=h a (.head _)
  have h2:=zeb (l:=l) fun b m=>h b (.tail _ m)
  rw [List.flatMap_cons,List.length_append,List.length_cons,Nat.succ_mul]
  omega
theorem zva {M:Nat} {c:List (List Bool)} {w:List Bool} (h:Bd M c) (hw:w.length≤10):(zel c w).length≤1+c.length*c.length∧Bd (2*M+10) (zel c w):=by
 obtain ⟨a1,a2⟩:=zjy (w:=w) h
 obtain ⟨b1,b2⟩:=zhw (w:=w) h
 unfold zel
 refine ⟨?_,fun y m=>?_⟩
 ·rw [List.length_append]
  have:=zeb (l:=zda c w) (f:=fun a=>(zbz c w).map fun b=>a++w++b) (n:=c.length) fun a _=>by rw [List.length_map];exact b1
  have:=Nat.mul_le_mul_right c.length a1
  show 1+_≤_
  omega
 ·rcases map2 m with m | m
  ·rw [msp m];omega
  ·obtain ⟨a,ma,m⟩:=List.mem_flatMap.mp m
   obtain ⟨b,mb,rfl⟩:=mmp m
   have:=a2 a ma
   have:=b2 b mb
   rw [List.length_append,List.length_append];omega
theorem yay {M:Nat} {c:List (List Bool)} {w:List Bool} (h:Bd M c) (hw:w.length≤10):(zdj c w).length≤2*c.length∧Bd (M+10) (zdj c w):=by
 obtain ⟨a1,a2⟩:=zjy (w:=w) h
 obtain ⟨b1,b2⟩:=zhw (w:=w) h
 unfold zdj
 refine ⟨by rw [List.length_append,List.length_map,List.length_map];omega,fun y m=>?_⟩
 rcases map2 m with m | m
 ·obtain ⟨a,ma,rfl⟩:=mmp m
  have:=a2 a ma
  rw [List.length_append];omega
 ·obtain ⟨a,ma,rfl⟩:=mmp m
  have:=b2 a ma
  rw [List.length_append];omega
theorem ybq (a b c:Nat):(a:Int)-b+c≤20↔a+c≤20+b:=by omega
theorem yis {c f g r:Nat} (h:c+f≤20+g) (hg:g≤2*c) (hr:r≤c):r+f+20≤2*(c+20):=by omega
theorem ynv {M:Nat} {c:List (List Bool)} {w:List Bool} (h:Bd M c) (hw:w.length≤10):(ztm c w).length+20≤2*(c.length+20)∧Bd (2*M+10) (ztm c w):=by
 obtain ⟨f1,f2⟩:=zva (w:=w) h hw
 obtain ⟨g1,g2⟩:=yay (w:=w) h hw
 unfold ztm
 by_cases q:(zhu (zdj c w)&&decide (c.length+(zel c w).length≤20+(zdj c w).length))=true
 ·rw [if_pos q]
  have:=of_decide_eq_true (bap q).2
  have hf:(c.filter fun x=>!(zdj c w).contains x).length≤c.length:=List.length_filter_le _ _
  refine ⟨by rw [List.length_append];exact yis this g1 hf,fun y m=>?_⟩
  rcases map2 m with m | m
  ·have:=h y (List.mem_filter.mp m).1;omega
  ·exact f2 y m
 ·rw [if_neg q]
  exact ⟨by omega,fun y m=>by have:=h y m;omega⟩
theorem znl {ρ:Rho} {e1 e2:E} {x y:List Bool} (h1:ev S ρ e1=some (dtx (tw cu cv x))) (h2:ev S ρ e2=some (dtx (tw cu cv y))) (hx:x.length≤5000) (hy:y.length≤5000):ev S ρ (.bin .Add e1 e2)=some (dtx (tw cu cv (x++y))):=by
 have:=zco h1 h2 (by rw [zjv,zjv];omega)
 rw [← zcf] at this
 exact this
theorem zhs {ρ:Rho} {e1 e2:E} {l m:List (List Bool)} (h1:ev S ρ e1=some (txs cu cv l)) (h2:ev S ρ e2=some (txs cu cv m)) (hl:l.length+m.length≤100000):ev S ρ (.bin .Add e1 e2)=some (txs cu cv (l++m)):=by
 have:=yah h1 h2 (by rw [List.length_map,List.length_map];exact hl)
 rw [← List.map_append] at this
 exact this
theorem zca {ρ:Rho} {e:E} {x:List Bool} (h:ev S ρ e=some (dtx (tw cu cv x))):ev S ρ (.bf .len (.cons e .nil))=some (nint x.length):=by
 have:=yaj h
 rwa [zjv] at this
theorem zof {ρ:Rho} {e:E} {l:List (List Bool)} (h:ev S ρ e=some (txs cu cv l)):ev S ρ (.bf .len (.cons e .nil))=some (nint l.length):=by
 have:=yai h
 rwa [List.length_map] at this
section
variable (h:cu≠cv) (hu:cu<55296) (hv:cv<55296) {ρ:Rho} {c:List (List Bool)} {w:List Bool} {M:Nat}
include h hu hv
theorem cB0s {d n:Nat} (g62:ρ.get 62=some (dtx [cu,cv])) (g64:ρ.get 64=some (nint d)) (g53:ρ.get 53=some (nint n)) (h1:1≤d) (hd:d≤10):ex S ρ cB0=some (.next (ρ.set 57 (dtx (tw cu cv (zyw d n))))) :=
 zao (yae hu hv (X:=.var 53) (m:=n) (n:=d-1) g62 (fun j=>zaa (zac (by decide) (zau (by decide) g53))) (zaf (zaa g64) (zai (d:=nint 1)) (zde h1)) (by omega))
theorem cB1s (g52:ρ.get 52=some (txs cu cv c)) (g57:ρ.get 57=some (dtx (tw cu cv w))):ex S ρ cB1=some (.next (ρ.set 61 (txs cu cv (zda c w)))):=by
 refine zao ?_
 have key:=zdl (S:=S) (ρ:=ρ) (elt:=.slc (.var 3) .no (.yes (.bin .Sub (.bf .len (.cons (.var 3) .nil)) (.bf .len (.cons (.var 57) .nil)))) .no) (c:=.mt .endswith (.var 3) (.cons (.var 57) .nil)) (tg:=[3]) (src:=.e (.var 52)) (l:=c) (i:=fun x=>dtx (tw cu cv x)) (g:=fun x=>dtx (tw cu cv (x.take (x.length-w.length)))) (p:=fun x=>w.isSuffixOf x)
  (bi (zaa g52) rfl) fun x _=>by
   have r57:=zaa (S:=S) (zac (ρ:=ρ.del ([3]++[])) (n:=57) (k:=3) (e:=dtx (tw cu cv x)) (by decide) (zau (by decide) g57))
   have r3:=zaa (S:=S) (zag (ρ:=ρ.del ([3]++[])) (n:=3) (d:=dtx (tw cu cv x)))
   refine ⟨_,rfl,bi (zup r3 (zab r57 zah) (ymt h x w)) rfl,fun hs=>?_⟩
   have hle:=(List.isSuffixOf_iff_suffix.mp hs).length_le
   have:=zej r3 zds (zct (zaf (zca r3) (zca r57) (zde hle))) zds zwe
   rwa [ztn] at this
 rw [key];unfold zda;rw [txs,List.map_map];rfl
theorem cB2s (g52:ρ.get 52=some (txs cu cv c)) (g57:ρ.get 57=some (dtx (tw cu cv w))):ex S ρ cB2=some (.next (ρ.set 60 (txs cu cv (zbz c w)))):=by
 refine zao ?_
 have key:=zdl (S:=S) (ρ:=ρ) (elt:=.slc (.var 3) (.yes (.bf .len (.cons (.var 57) .nil))) .no .no) (c:=.mt .startswith (.var 3) (.cons (.var 57) .nil)) (tg:=[3]) (src:=.e (.var 52)) (l:=c) (i:=fun x=>dtx (tw cu cv x)) (g:=fun x=>dtx (tw cu cv (x.drop w.length))) (p:=fun x=>w.isPrefixOf x)
  (bi (zaa g52) rfl) fun x _=>by
   have r57:=zaa (S:=S) (zac (ρ:=ρ.del ([3]++[])) (n:=57) (k:=3) (e:=dtx (tw cu cv x)) (by decide) (zau (by decide) g57))
   have r3:=zaa (S:=S) (zag (ρ:=ρ.del ([3]++[])) (n:=3) (d:=dtx (tw cu cv x)))
   refine ⟨_,rfl,bi (zup r3 (zab r57 zah) (ybz h x w)) rfl,fun hs=>?_⟩
   have:=zej r3 (zct (zca r57)) zds zds zot
   rwa [zpb] at this
 rw [key];unfold zbz;rw [txs,List.map_map];rfl
theorem cB3s (g57:ρ.get 57=some (dtx (tw cu cv w))) (g61:ρ.get 61=some (txs cu cv (zda c w))) (g60:ρ.get 60=some (txs cu cv (zbz c w))) (hb:Bd M c) (hM:M≤1000) (hl:c.length≤1000) (hw:w.length≤10):ex S ρ cB3=some (.next (ρ.set 55 (txs cu cv (zdj c w)))):=by
 obtain ⟨a1,a2⟩:=zjy (w:=w) hb
 obtain ⟨b1,b2⟩:=zhw (w:=w) hb
 have r57:∀ x:List Bool,ev S ((ρ.del ([58]++[])).set 58 (dtx (tw cu cv x))) (.var 57)=some (dtx (tw cu cv w)):=fun x=>zaa (zac (by decide) (zau (by decide) g57))
 have r58:∀ x:List Bool,ev S ((ρ.del ([58]++[])).set 58 (dtx (tw cu cv x))) (.var 58)=some (dtx (tw cu cv x)):=fun x=>zaa zag
 have k1:=zbt (S:=S) (ρ:=ρ) (elt:=.bin .Add (.var 58) (.var 57)) (tg:=[58]) (src:=.e (.var 61)) (l:=zda c w) (i:=fun x=>dtx (tw cu cv x)) (g:=fun x=>dtx (tw cu cv (x++w))) (bi (zaa g61) rfl) fun x m=>⟨_,rfl,znl (r58 x) (r57 x) (Nat.le_trans (a2 x m) (Nat.le_trans hM (by decide))) (Nat.le_trans hw (by decide))⟩
 have k2:=zbt (S:=S) (ρ:=ρ) (elt:=.bin .Add (.var 57) (.var 58)) (tg:=[58]) (src:=.e (.var 60)) (l:=zbz c w) (i:=fun x=>dtx (tw cu cv x)) (g:=fun x=>dtx (tw cu cv (w++x))) (bi (zaa g60) rfl) fun x m=>⟨_,rfl,znl (r57 x) (r58 x) (Nat.le_trans hw (by decide)) (Nat.le_trans (b2 x m) (Nat.le_trans hM (by decide)))⟩
 refine zao (zhs (l:=(zda c w).map fun x=>x++w) (m:=(zbz c w).map fun x=>w++x) (by rw [k1,txs,List.map_map];rfl) (by rw [k2,txs,List.map_map];rfl) (by rw [List.length_map,List.length_map];exact Nat.le_trans (Nat.add_le_add (Nat.le_trans a1 hl) (Nat.le_trans b1 hl)) (by decide)))
theorem cB4s (g57:ρ.get 57=some (dtx (tw cu cv w))) (g61:ρ.get 61=some (txs cu cv (zda c w))) (g60:ρ.get 60=some (txs cu cv (zbz c w))) (hb:Bd M c) (hM:M≤1000) (hl:c.length≤150) (hw:w.length≤10):ex S ρ cB4=some (.next (ρ.set 56 (txs cu cv (zel c w)))):=by
 obtain ⟨a1,a2⟩:=zjy (w:=w) hb
 obtain ⟨b1,b2⟩:=zhw (w:=w) hb
 have hfl:=zeb (l:=zda c w) (f:=fun a=>(zbz c w).map fun b=>dtx (tw cu cv (a++w++b))) (n:=c.length) fun a _=>by rw [List.length_map];exact b1
 have hsq:(zda c w).length*c.length≤150*150:=Nat.mul_le_mul (Nat.le_trans a1 hl) hl
 have k1:=yam (S:=S) (ρ:=ρ) (elt:=.bin .Add (.bin .Add (.var 58) (.var 57)) (.var 59)) (tg:=[58]) (tg2:=[59]) (src:=.e (.var 61)) (src2:=.e (.var 60)) (l:=zda c w) (i:=fun x=>dtx (tw cu cv x)) (l2:=fun _=>zbz c w) (i2:=fun _ x=>dtx (tw cu cv x)) (g:=fun a b=>dtx (tw cu cv (a++w++b))) (bi (zaa g61) rfl)
  (fun a m=>by
   refine ⟨(ρ.del ([58]++([59]++[]))).set 58 (dtx (tw cu cv a)),rfl,bi (x:=txs cu cv (zbz c w)) (zaa (zac (by decide) ?_)) rfl,fun b mb=>⟨_,rfl, ?_⟩⟩
   ·rw [Rho.get_del,if_neg (by decide)];exact g60
   ·refine znl (znl (zaa (zac (by decide) zag)) (zaa (zac (by decide) (zac (by decide) ?_))) (Nat.le_trans (a2 a m) (Nat.le_trans hM (by decide))) (Nat.le_trans hw (by decide))) (zaa zag) (by rw [List.length_append];exact Nat.le_trans (Nat.add_le_add (Nat.le_trans (a2 a m) hM) hw) (by decide)) (Nat.le_trans (b2 b mb) (Nat.le_trans hM (by decide)))
    rw [Rho.get_del,if_neg (by decide)];exact g57) (Nat.le_trans hfl (Nat.le_trans hsq (by decide)))
 refine zao (zhs (l:=[w]) (m:=(zda c w).flatMap fun a=>(zbz c w).map fun b=>a++w++b) (zdz (zab (zaa g57) zah) (nle rfl)) (by
  rw [k1,txs,List.map_flatMap]
  refine congrArg (fun f=>some (PyData.list ((zda c w).flatMap f))) (funext fun a=>?_)
  rw [List.map_map];rfl) ?_)
 have:=zeb (l:=zda c w) (f:=fun a=>(zbz c w).map fun b=>a++w++b) (n:=c.length) fun a _=>by rw [List.length_map];exact b1
 exact Nat.le_trans (Nat.add_le_add_left (Nat.le_trans this hsq) 1) (by decide)
theorem cB5s (g52:ρ.get 52=some (txs cu cv c)) (g55:ρ.get 55=some (txs cu cv (zdj c w))) (g56:ρ.get 56=some (txs cu cv (zel c w))) (hb:Bd M c) (hM:M≤900) (hl:c.length≤150) (hw:w.length≤10) :
  ∃ ρ',ex S ρ cB5=some (.next ρ')∧ρ'.get 52=some (txs cu cv (ztm c w))∧∀ n d,n≠52→ρ.get n=some d→ρ'.get n=some d:=by
 obtain ⟨g1,g2⟩:=yay (w:=w) hb hw
 obtain ⟨f1,f2⟩:=zva (w:=w) hb hw
 have hsq:c.length*c.length≤150*150:=Nat.mul_le_mul hl hl
 have e1:=yap h hu hv (S:=S) (zaa g55) (Nat.le_trans g1 (Nat.le_trans (Nat.mul_le_mul_left 2 hl) (by decide))) fun x m=>Nat.le_trans (g2 x m) (Nat.le_trans (Nat.add_le_add_right hM 10) (by decide))
 obtain ⟨-,hlen⟩:=zuy (l:=zdj c w) (acc:=[])
 have t1:evT S ρ (.cmp .Eq (.setlen (.var 55)) (.bf .len (.cons (.var 55) .nil)))=some (zhu (zdj c w)):=by
  refine zam e1 (zof (zaa g55)) ?_
  show some (PyData.bool (decide ((((zdj c w).foldl addC []).length:Int)=((zdj c w).length:Int))))=_
  refine congrArg (fun x=>some (PyData.bool x)) ?_
  rw [Bool.eq_iff_iff,decide_eq_true_iff]
  rw [show ([]:List (List Bool)).length=0 from rfl,Nat.zero_add] at hlen
  exact ⟨fun q=>(hlen.mp (Int.ofNat.inj q)).1,fun q=>congrArg Int.ofNat (hlen.mpr ⟨q,fun _ _ m=>nomatch m⟩)⟩
 have t2:evT S ρ (.cmp .LtE (.bin .Add (.bin .Sub (.bf .len (.cons (.var 52) .nil)) (.bf .len (.cons (.var 55) .nil))) (.bf .len (.cons (.var 56) .nil))) (.lit (.int 20)))=some (decide (c.length+(zel c w).length≤20+(zdj c w).length)):=by
  refine zam (x:=.int ((c.length:Int)-(zdj c w).length+(zel c w).length)) (zaf (zaf (zof (zaa g52)) (zof (zaa g55)) rfl) (zof (zaa g56)) rfl) rfl ?_
  show some (PyData.bool (decide ((c.length:Int)-(zdj c w).length+(zel c w).length≤20)))=_
  exact congrArg (fun x=>some (PyData.bool x)) (decide_eq_decide.mpr (ybq _ _ _))
 have tt:evT S ρ (.bop .And (.cons (.cmp .Eq (.setlen (.var 55)) (.bf .len (.cons (.var 55) .nil))) (.cons (.cmp .LtE (.bin .Add (.bin .Sub (.bf .len (.cons (.var 52) .nil)) (.bf .len (.cons (.var 55) .nil))) (.bf .len (.cons (.var 56) .nil))) (.lit (.int 20))) .nil)))=some (zhu (zdj c w)&&decide (c.length+(zel c w).length≤20+(zdj c w).length)):=by
  refine bi t1 ?_
  cases zhu (zdj c w) with
  | false=>rfl
  | true=>exact bi t2 (by cases decide (c.length+(zel c w).length≤20+(zdj c w).length) <;> rfl)
 unfold ztm
 cases q:(zhu (zdj c w)&&decide (c.length+(zel c w).length≤20+(zdj c w).length)) with
 | false =>
  rw [q] at tt
  refine ⟨ρ,zfa tt rfl, ?_,fun _ _ _ g=>g⟩
  rw [if_neg Bool.false_ne_true];exact g52
 | true =>
  rw [q] at tt
  have key:=zdl (S:=S) (ρ:=ρ) (elt:=.var 3) (c:=.cmp .NotIn (.var 3) (.var 55)) (tg:=[3]) (src:=.e (.var 52)) (l:=c) (i:=fun x=>dtx (tw cu cv x)) (g:=fun x=>dtx (tw cu cv x)) (p:=fun x=>!(zdj c w).contains x)
   (bi (zaa g52) rfl) fun x _=>⟨_,rfl,zam (zaa zag) (zaa (zac (by decide) (zau (by decide) g55))) (by
    rw [zpl h]
    refine congrArg (fun b=>some (PyData.bool (!b))) ?_
    rw [Bool.eq_iff_iff,decide_eq_true_iff,List.contains_iff_mem]),fun _=>zaa zag⟩
  have hf:(c.filter fun x=>!(zdj c w).contains x).length≤c.length:=List.length_filter_le _ _
  refine ⟨_,yjn tt (zad (zao (zhs key (zaa g56) (Nat.le_trans (Nat.add_le_add (Nat.le_trans hf hl) (Nat.le_trans f1 (Nat.add_le_add_left hsq 1))) (by decide)))) rfl), ?_,fun n d hn g=>zac hn g⟩
  rw [if_pos rfl];exact zag
end
end Internal
namespace Internal
variable {S:Sig} {cu cv:Nat}
theorem zjd {ρ:Rho} (g:ρ.get 62=some (dtx [cu,cv])):zdk S ρ (.e (.var 62))=some ([false,true].map fun s=>dtx (tw cu cv [s])):=bi (zaa g) rfl
theorem yak {ρ:Rho} {a b:Nat} {c:List (List Bool)} {M:Nat} (g62:ρ.get 62=some (dtx [cu,cv])) (ga:ρ.get a=some (txs cu cv c)) (hb:b≠50) (hb2:b≠62) (hM:Bd M c) (h1:M≤1000) (hl:c.length≤1000) :
  ev S ρ (.comp (.bin .Add (.var b) (.var 50)) (.cons [b] (.e (.var a)) .nil (.cons [50] (.e (.var 62)) .nil .nil)))=some (txs cu cv (zdg c)):=by
 have hfl:=zeb (l:=c) (f:=fun x=>[false,true].map fun s=>dtx (tw cu cv (x++[s]))) (n:=2) fun a _=>Nat.le_refl _
 have key:=yam (S:=S) (ρ:=ρ) (elt:=.bin .Add (.var b) (.var 50)) (tg:=[b]) (tg2:=[50]) (src:=.e (.var a)) (src2:=.e (.var 62)) (l:=c) (i:=fun x=>dtx (tw cu cv x)) (l2:=fun _=>[false,true]) (i2:=fun _ s=>dtx (tw cu cv [s])) (g:=fun x s=>dtx (tw cu cv (x++[s]))) (bi (zaa ga) rfl)
  (fun x m=>by
   refine ⟨(ρ.del ([b]++([50]++[]))).set b (dtx (tw cu cv x)),rfl,zjd (zac (Ne.symm hb2) ?_),fun s _=>⟨((ρ.del ([b]++([50]++[]))).set b (dtx (tw cu cv x))).set 50 (dtx (tw cu cv [s])),rfl,znl (zaa (zac hb zag)) (zaa zag) (by have:=hM x m;omega) (by show 1≤5000;decide)⟩⟩
   rw [Rho.get_del,if_neg]
   ·exact g62
   ·simp only [List.cons_append,List.nil_append,List.contains_cons,List.contains_nil,Bool.or_false,Bool.or_eq_true,beq_iff_eq]
    rintro (q | q)
    ·exact hb2 q.symm
    ·cases q) (by omega)
 rw [key]
 unfold zdg
 rw [txs,List.map_flatMap]
 refine congrArg (fun f=>some (PyData.list (c.flatMap f))) (funext fun x=>?_)
 rw [List.map_map];rfl
theorem yby {M:Nat} {c:List (List Bool)} (h:Bd M c):(zdg c).length≤c.length*2∧Bd (M+1) (zdg c):=by
 unfold zdg
 refine ⟨zeb fun a _=>Nat.le_refl _,fun y m=>?_⟩
 obtain ⟨a,ma,m⟩:=List.mem_flatMap.mp m
 obtain ⟨s,_,rfl⟩:=mmp m
 have:=h a ma
 rw [List.length_append]
 show _+1≤_
 omega
theorem zow:∀ d:Nat,(zdt d).length≤2^d∧Bd d (zdt d)
 | 0=>⟨Nat.le_refl _,fun y m=>by rw [msp m];exact Nat.le_refl _⟩
 | d+1=>by
  obtain ⟨a,b⟩:=zow d
  obtain ⟨c,e⟩:=yby b
  refine ⟨Nat.le_trans c ?_,e⟩
  rw [Nat.pow_succ];omega
theorem znf {d:Nat}:∀ {is:List Nat} {i:Nat} {ρ:Rho},i+is.length≤6→ρ.get 62=some (dtx [cu,cv])→ρ.get 52=some (txs cu cv (zdt i)) →
  ∃ ρ',goL (fun d ρ'=>(zcn ρ' [65] d).bind fun ρ''=>exs S ρ'' (.cons (.set 52 (.comp (.bin .Add (.var 3) (.var 50)) (.cons [3] (.e (.var 52)) .nil (.cons [50] (.e (.var 62)) .nil .nil)))) .nil)) (is.map nint) ρ=some (.next ρ')∧ρ'.get 52=some (txs cu cv (zdt (i+is.length)))∧∀ n d,n≠52→n≠65→ρ.get n=some d→ρ'.get n=some d
 | [],i,ρ,_,_,g52=>⟨ρ,rfl,g52,fun _ _ _ _ g=>g⟩
 | j::is,i,ρ,hi,g62,g52=>by
  have hi:i+(is.length+1)≤6:=hi
  obtain ⟨b1,b2⟩:=zow i
  have hp:(2:Nat)^i≤2^6:=Nat.pow_le_pow_right (by decide) (by omega)
  have e26:(2:Nat)^6=64:=by decide
  have q62:(ρ.set 65 (nint j)).get 62=some (dtx [cu,cv]):=zac (by decide) g62
  have s1:=yak (S:=S) (b:=3) (a:=52) (M:=i) q62 (zac (by decide) g52) (by decide) (by decide) b2 (by omega) (by omega)
  obtain ⟨ρ',a1,a2,a3⟩:=znf (d:=d) (is:=is) (i:=i+1) (ρ:=(ρ.set 65 (nint j)).set 52 (txs cu cv (zdg (zdt i)))) (by omega) (zac (by decide) q62) zag
  refine ⟨ρ', ?_, ?_,fun n d h1 h2 g=>a3 n d h1 h2 (zac h1 (zac h2 g))⟩
  ·rw [List.map_cons]
   exact zfc (zad (zao s1) rfl) a1
  ·rw [a2,List.length_cons,Nat.add_assoc,Nat.add_comm 1]
section
variable (h:cu≠cv) (hu:cu<55296) (hv:cv<55296)
include h hu hv
theorem zpn {d:Nat} (h1:1≤d) (hd:d≤10):∀ {ns:List Nat} {c:List (List Bool)} {M:Nat} {ρ:Rho},Bd M c→(c.length+20)*2^ns.length≤300→(M+10)*2^ns.length≤900→ρ.get 62=some (dtx [cu,cv])→ρ.get 64=some (nint d)→ρ.get 52=some (txs cu cv c) →
  ∃ ρ',goL (fun d ρ'=>(zcn ρ' [53] d).bind fun ρ''=>exs S ρ'' yot) (ns.map nint) ρ=some (.next ρ')∧ρ'.get 52=some (txs cu cv (ns.foldl (zyp d) c))
 | [],c,M,ρ,_,_,_,_,_,g52=>⟨ρ,rfl,g52⟩
 | n::ns,c,M,ρ,hb,hN,hM,g62,g64,g52=>by
  rw [List.length_cons,Nat.pow_succ] at hN hM
  have hp:=Nat.two_pow_pos ns.length
  have hw:(zyw d n).length≤10:=by unfold zyw;rw [List.length_map,List.length_range];exact Nat.le_trans (Nat.sub_le _ _) hd
  have hN':(c.length+20)*2*2^ns.length≤300:=by rw [Nat.mul_assoc,Nat.mul_comm 2];exact hN
  have hM':(M+10)*2*2^ns.length≤900:=by rw [Nat.mul_assoc,Nat.mul_comm 2];exact hM
  have n1:(c.length+20)*2≤300:=Nat.le_trans (Nat.le_mul_of_pos_right _ hp) hN'
  have m1:(M+10)*2≤900:=Nat.le_trans (Nat.le_mul_of_pos_right _ hp) hM'
  have c130:c.length≤130:=Nat.le_of_add_le_add_right (Nat.le_of_mul_le_mul_right (show (c.length+20)*2≤(130+20)*2 from n1) (by decide))
  have m440:M≤440:=Nat.le_of_add_le_add_right (Nat.le_of_mul_le_mul_right (show (M+10)*2≤(440+10)*2 from m1) (by decide))
  have c150:c.length≤150:=Nat.le_trans c130 (by decide)
  have c1000:c.length≤1000:=Nat.le_trans c130 (by decide)
  have m1000:M≤1000:=Nat.le_trans m440 (by decide)
  obtain ⟨t1,t2⟩:=ynv (w:=zyw d n) hb hw
  have s0:=cB0s (S:=S) h hu hv (ρ:=ρ.set 53 (nint n)) (d:=d) (n:=n) (zac (by decide) g62) (zac (by decide) g64) zag h1 hd
  generalize hw':zyw d n=w at s0 t1 t2 hw
  have s1:=cB1s (S:=S) h hu hv (ρ:=(ρ.set 53 (nint n)).set 57 (dtx (tw cu cv w))) (c:=c) (w:=w) (zac (by decide) (zac (by decide) g52)) zag
  generalize hρ1:((ρ.set 53 (nint n)).set 57 (dtx (tw cu cv w))).set 61 (txs cu cv (zda c w))=ρ1 at s1
  have k1:∀ n d,n≠53→n≠57→n≠61→ρ.get n=some d→ρ1.get n=some d:=fun n d a b e g=>by rw [← hρ1];exact zac e (zac b (zac a g))
  have q57:ρ1.get 57=some (dtx (tw cu cv w)):=by rw [← hρ1];exact zac (by decide) zag
  have q61:ρ1.get 61=some (txs cu cv (zda c w)):=by rw [← hρ1];exact zag
  have q52:=k1 52 _ (by decide) (by decide) (by decide) g52
  have s2:=cB2s (S:=S) h hu hv (ρ:=ρ1) q52 q57
  have s3:=cB3s (S:=S) h hu hv (ρ:=ρ1.set 60 (txs cu cv (zbz c w))) (zac (by decide) q57) (zac (by decide) q61) zag hb m1000 c1000 hw
  have s4:=cB4s (S:=S) h hu hv (ρ:=(ρ1.set 60 (txs cu cv (zbz c w))).set 55 (txs cu cv (zdj c w))) (zac (by decide) (zac (by decide) q57)) (zac (by decide) (zac (by decide) q61)) (zac (by decide) zag) hb m1000 c150 hw
  obtain ⟨ρ2,s5,r52,k2⟩:=cB5s (S:=S) h hu hv (ρ:=((ρ1.set 60 (txs cu cv (zbz c w))).set 55 (txs cu cv (zdj c w))).set 56 (txs cu cv (zel c w))) (zac (by decide) (zac (by decide) (zac (by decide) q52))) (zac (by decide) zag) zag hb (Nat.le_trans m440 (by decide)) c150 hw
  have k3:∀ n d,n≠52→n≠53→n≠57→n≠61→n≠60→n≠55→n≠56→ρ.get n=some d→ρ2.get n=some d:=fun n d a1 a2 a3 a4 a5 a6 a7 g=>k2 n d a1 (zac a7 (zac a6 (zac a5 (k1 n d a2 a3 a4 g))))
  obtain ⟨ρ',e1,e2⟩:=zpn h1 hd (ns:=ns) (c:=ztm c w) (M:=2*M+10) (ρ:=ρ2) t2
   (Nat.le_trans (Nat.mul_le_mul_right _ (by rw [Nat.mul_comm];exact t1)) hN') (Nat.le_trans (Nat.mul_le_mul_right _ (Nat.le_of_eq (by rw [Nat.add_mul,Nat.mul_comm M 2]))) hM')
   (k3 62 _ (by decide) (by decide) (by decide) (by decide) (by decide) (by decide) (by decide) g62) (k3 64 _ (by decide) (by decide) (by decide) (by decide) (by decide) (by decide) (by decide) g64) r52
  refine ⟨ρ', ?_,by rw [e2,List.foldl_cons];unfold zyp;rw [hw']⟩
  rw [List.map_cons]
  exact zfc (zad s0 (zad s1 (zad s2 (zad s3 (zad s4 (zad s5 rfl)))))) e1
theorem yhx {d:Nat} {ns:List Nat} (h1:1≤d) (hd:d≤4) (hn:ns.length≤3):zbb S zgk [dtx [cu,cv],nint d, .list (ns.map nint)]=some (txs cu cv (znv d ns)):=by
 refine zcv rfl ?_
 show exs S [(62,dtx [cu,cv]),(64,nint d),(54, .list (ns.map nint))] _=_
 refine zad (ρ':=[(62,dtx [cu,cv]),(64,nint d),(54, .list (ns.map nint)),(52,txs cu cv (zdt 0))]) rfl ?_
 obtain ⟨ρ1,a1,a2,a3⟩:=znf (S:=S) (d:=d) (cu:=cu) (cv:=cv) (is:=List.range d) (i:=0) (ρ:=[(62,dtx [cu,cv]),(64,nint d),(54, .list (ns.map nint)),(52,txs cu cv (zdt 0))]) (by rw [List.length_range];omega) rfl rfl
 rw [List.length_range,Nat.zero_add] at a2
 refine zad (zfm (zic (zaa rfl) (by omega)) a1) ?_
 obtain ⟨b1,b2⟩:=zow d
 have hp:(2:Nat)^d≤2^4:=Nat.pow_le_pow_right (by decide) hd
 have hq:(2:Nat)^ns.length≤2^3:=Nat.pow_le_pow_right (by decide) hn
 obtain ⟨ρ2,c1,c2⟩:=zpn (S:=S) h hu hv h1 (by omega) (ns:=ns) (c:=zdt d) (M:=d) (ρ:=ρ1) b2 (Nat.le_trans (Nat.mul_le_mul (Nat.add_le_add_right (Nat.le_trans b1 hp) 20) hq) (by decide)) (Nat.le_trans (Nat.mul_le_mul (Nat.add_le_add_right hd 10) hq) (by decide)) (a3 62 _ (by decide) (by decide) rfl) (a3 64 _ (by decide) (by decide) rfl) a2
 refine zad (zfm (bi (x:=.list (ns.map nint)) (zaa (a3 54 _ (by decide) (by decide) rfl)) rfl) c1) ?_
 exact zal (zbu (zaa c2))
end
end Internal
namespace Internal
noncomputable def zdf:List Str:=topNames++[("_law_code" : Str),("code" : Str),("pick" : Str),("picks" : Str),("gone" : Str),("fresh" : Str),("word" : Str),("one" : Str),("other" : Str),("behind" : Str),("ahead" : Str),("pair" : Str),("k" : Str),("degree" : Str),("turn" : Str),("_law_inner" : Str),("row" : Str),("told" : Str),("short" : Str),("dress" : Str),("inside" : Str),("reach" : Str),("_law_lack" : Str),("taken" : Str),("_law_grown" : Str),("words" : Str),("fronts" : Str),("longer" : Str),("_law_weight" : Str),("sizes" : Str),("_law_found" : Str),("found" : Str),("sought" : Str),("twice" : Str),("places" : Str),("side" : Str),("ends" : Str),("others" : Str),("own" : Str),("nexts" : Str),("law" : Str),("draw" : Str),("draws" : Str),("whole" : Str),("weight" : Str),("lack" : Str),("cells" : Str),("mean" : Str),("plain" : Str),("signs" : Str),("first" : Str),("base" : Str),("script" : Str)]
noncomputable abbrev zi0:St:=.set 71 (.comp (.call 46 (.cons (.var 47) (.cons (.slc (.var 3) (.yes (.lit (.int 1))) (.yes (.bin .Sub (.bf .len (.cons (.var 3) .nil)) (.lit (.int 1)))) .no) .nil))) (.cons [3] (.e (.var 52)) .nil .nil))
noncomputable abbrev zi1:St:=.set 69 (.comp (.var 3) (.cons [3] (.e (.var 52)) (.cons (.cmp .Lt (.bf .len (.cons (.var 3) .nil)) (.bin .Sub (.var 72) (.lit (.int 1)))) .nil) .nil))
noncomputable abbrev zi2:St:=.set 68 (.comp (.comp (.call 32 (.cons (.bin .Add (.bin .Add (.lit (.str "...")) (.sub (.var 70) (.var 3))) (.lit (.str "..."))) (.cons (.var 36) .nil))) (.cons [36,58] (.zip (.cons (.var 71) (.cons (.var 52) .nil))) (.cons (.cmp .Gt (.bf .len (.cons (.var 58) .nil)) (.bin .Add (.bf .len (.cons (.var 3) .nil)) (.lit (.int 1)))) .nil) .nil)) (.cons [3] (.e (.var 69)) .nil .nil))
noncomputable abbrev zi3:St:=.ifs (.cmp .NotEq (.comp (.var 58) (.cons [67] (.e (.var 68)) .nil (.cons [58] (.e (.var 67)) (.cons (.bop .And (.cons (.cmp .IsNot (.var 58) (.lit (.bool true))) (.cons (.cmp .IsNot (.var 58) (.lit (.bool false))) .nil))) .nil) .nil))) (.list .nil)) (.cons (.ret (.lit .none)) .nil) .nil
noncomputable abbrev zi4:St:=.ret (.comp (.var 3) (.cons [3,67] (.zip (.cons (.var 69) (.cons (.var 68) .nil))) (.cons (.cmp .In (.lit (.bool true)) (.var 67)) .nil) .nil))
noncomputable abbrev yul:Sts:=.cons zi0 (.cons zi1 (.cons zi2 (.cons zi3 (.cons zi4 .nil))))
noncomputable def zfr:Fn:=⟨[47,70,52,72],[],yul⟩
noncomputable abbrev zl0:St:=.set 74 (.comp (.var 58) (.cons [58] (.e (.var 1)) .nil (.cons [63] (.range (.cons (.bin .Add (.bin .Sub (.bf .len (.cons (.var 41) .nil)) (.bf .len (.cons (.var 58) .nil))) (.lit (.int 1))) .nil)) (.cons (.cmp .Eq (.slc (.var 41) (.yes (.var 63)) (.yes (.bin .Add (.var 63) (.bf .len (.cons (.var 58) .nil)))) .no) (.var 58)) .nil) .nil)))
noncomputable abbrev zl1:St:=.ret (.bf .max (.cons (.lit (.int 0)) (.cons (.bin .Sub (.bin .Sub (.bin .Add (.var 64) (.bf .len (.cons (.var 74) .nil))) (.bf .len (.cons (.var 41) .nil))) (.lit (.int 1))) .nil)))
noncomputable abbrev yum:Sts:=.cons zl0 (.cons zl1 .nil)
noncomputable def zgj:Fn:=⟨[64,1,41],[],yum⟩
noncomputable abbrev gB0:St:=.set 78 (.comp (.bin .Add (.var 58) (.var 50)) (.cons [58] (.e (.var 77)) .nil (.cons [50] (.e (.var 62)) .nil .nil)))
noncomputable abbrev gB1:St:=.set 77 (.comp (.var 58) (.cons [58] (.e (.var 78)) (.cons (.cmp .Eq (.bin .Sub (.call 73 (.cons (.var 64) (.cons (.var 1) (.cons (.slc (.var 58) (.yes (.lit (.int 1))) .no .no) .nil)))) (.call 73 (.cons (.var 64) (.cons (.var 1) (.cons (.var 58) .nil))))) (.lit (.int 1))) .nil) .nil))
noncomputable abbrev gB2:St:=.set 76 (.bin .Add (.var 76) (.comp (.var 58) (.cons [58] (.e (.var 78)) (.cons (.cmp .NotIn (.var 58) (.var 77)) .nil) .nil)))
noncomputable abbrev yjp:Sts:=.cons gB0 (.cons gB1 (.cons gB2 .nil))
noncomputable abbrev zg0:St:=.set 76 (.list .nil)
noncomputable abbrev zg1:St:=.set 77 (.list (.cons (.lit (.str "")) .nil))
noncomputable abbrev zg2:St:=.loop [65] (.range (.cons (.var 72) .nil)) yjp
noncomputable abbrev zg3:St:=.ret (.bf .sorted (.cons (.bin .Add (.var 76) (.var 77)) .nil))
noncomputable abbrev yuk:Sts:=.cons zg0 (.cons zg1 (.cons zg2 (.cons zg3 .nil)))
noncomputable def zfq:Fn:=⟨[62,64,1,72],[],yuk⟩
noncomputable abbrev zw0:St:=.ret (.bin .Mult (.bin .Mult (.bin .Pow (.sub (.var 80) (.lit (.int 0))) (.mt .count (.var 41) (.cons (.sub (.var 62) (.lit (.int 0))) .nil))) (.bin .Pow (.sub (.var 80) (.lit (.int 1))) (.mt .count (.var 41) (.cons (.sub (.var 62) (.lit (.int 1))) .nil)))) (.bin .Pow (.bf .sum (.cons (.var 80) .nil)) (.bin .Sub (.var 72) (.bf .len (.cons (.var 41) .nil)))))
noncomputable abbrev yun:Sts:=.cons zw0 .nil
noncomputable def zev:Fn:=⟨[62,80,41,72],[],yun⟩
noncomputable abbrev zf0:St:=.set 83 (.call 46 (.cons (.var 47) (.cons (.var 41) .nil)))
noncomputable abbrev zf1:St:=.set 87 (.comp (.list (.cons (.sub (.var 70) (.sub (.var 3) (.lit (.int 0)))) (.cons (.sub (.var 70) (.sub (.var 3) (.bin .Sub (.bf .len (.cons (.var 3) .nil)) (.lit (.int 1))))) .nil))) (.cons [3] (.e (.var 52)) .nil .nil))
noncomputable abbrev zf2:St:=.set 85 (.comp (.comp (.var 63) (.cons [63] (.range (.cons (.lit (.int 1)) (.cons (.bin .Sub (.bf .len (.cons (.var 3) .nil)) (.bf .len (.cons (.var 41) .nil))) .nil))) (.cons (.cmp .Eq (.slc (.var 3) (.yes (.var 63)) (.yes (.bin .Add (.var 63) (.bf .len (.cons (.var 41) .nil)))) .no) (.var 41)) .nil) .nil)) (.cons [3] (.e (.var 52)) .nil .nil))
noncomputable abbrev zf3:St:=.set 68 (.comp (.call 32 (.cons (.bin .Add (.bin .Add (.bin .Add (.bin .Add (.sub (.var 86) (.lit (.int 0))) (.lit (.str "..."))) (.var 83)) (.lit (.str "..."))) (.sub (.var 86) (.lit (.int 1)))) (.cons (.sub (.var 70) (.var 3)) .nil))) (.cons [3,86] (.zip (.cons (.var 52) (.cons (.var 87) .nil))) .nil .nil))
noncomputable abbrev zf4:St:=.ifs (.cmp .NotEq (.comp (.var 58) (.cons [58,67] (.zip (.cons (.var 68) (.cons (.var 85) .nil))) (.cons (.bop .Or (.cons (.bop .And (.cons (.cmp .IsNot (.var 58) (.lit (.bool true))) (.cons (.cmp .IsNot (.var 58) (.lit (.bool false))) .nil))) (.cons (.bop .And (.cons (.var 58) (.cons (.cmp .Eq (.var 67) (.list .nil)) .nil))) .nil))) .nil) .nil)) (.list .nil)) (.cons (.ret (.lit .none)) .nil) .nil
noncomputable abbrev zf5:St:=.set 82 (.comp (.bin .Add (.slc (.var 3) .no (.yes (.var 63)) .no) (.slc (.var 3) (.yes (.bin .Add (.var 63) (.bf .len (.cons (.var 41) .nil)))) .no .no)) (.cons [3,67,58] (.zip (.cons (.var 52) (.cons (.var 85) (.cons (.var 68) .nil)))) (.cons (.var 58) .nil) (.cons [63] (.e (.var 67)) .nil .nil)))
noncomputable abbrev zf6:St:=.ifs (.cmp .Eq (.var 41) (.lit (.str ""))) (.cons (.ret (.var 82)) .nil) .nil
noncomputable abbrev zf7:St:=.set 90 (.bin .Add (.slc (.var 87) (.yes (.lit (.int 1))) .no .no) (.slc (.var 87) .no (.yes (.lit (.int 1))) .no))
noncomputable abbrev zf8:St:=.set 88 (.comp (.call 32 (.cons (.bin .Add (.bin .Add (.bin .Add (.bin .Add (.sub (.var 86) (.lit (.int 0))) (.lit (.str "..."))) (.var 83)) (.lit (.str "..."))) (.sub (.var 86) (.lit (.int 1)))) (.cons (.sub (.var 70) (.var 3)) .nil))) (.cons [3,86] (.zip (.cons (.var 52) (.cons (.var 90) .nil))) .nil .nil))
noncomputable abbrev zf9:St:=.ifs (.cmp .NotEq (.var 88) (.comp (.bop .And (.cons (.var 58) (.cons (.cmp .Eq (.var 89) (.var 86)) .nil))) (.cons [58,89,86] (.zip (.cons (.var 68) (.cons (.var 87) (.cons (.var 90) .nil)))) .nil .nil))) (.cons (.ret (.lit .none)) .nil) .nil
noncomputable abbrev zf10:St:=.set 84 (.comp (.call 32 (.cons (.bin .Add (.bin .Add (.bin .Add (.bin .Add (.bin .Add (.bin .Add (.sub (.var 86) (.lit (.int 0))) (.lit (.str "..."))) (.var 83)) (.lit (.str "..."))) (.var 83)) (.lit (.str "..."))) (.sub (.var 86) (.lit (.int 1)))) (.cons (.sub (.var 70) (.var 3)) .nil))) (.cons [3,86,58] (.zip (.cons (.var 52) (.cons (.var 87) (.cons (.var 68) .nil)))) (.cons (.var 58) .nil) .nil))
noncomputable abbrev zf11:St:=.ifs (.cmp .NotEq (.var 84) (.comp (.cmp .GtE (.bin .Sub (.sub (.var 67) (.bin .Sub (.bf .len (.cons (.var 67) .nil)) (.lit (.int 1)))) (.sub (.var 67) (.lit (.int 0)))) (.bf .len (.cons (.var 41) .nil))) (.cons [67,58] (.zip (.cons (.var 85) (.cons (.var 68) .nil))) (.cons (.var 58) .nil) .nil))) (.cons (.ret (.lit .none)) .nil) .nil
noncomputable abbrev zf12:St:=.ifs (.cmp .NotEq (.comp (.call 32 (.cons (.var 83) (.cons (.sub (.var 70) (.var 3)) .nil))) (.cons [3] (.e (.var 52)) .nil .nil)) (.comp (.cmp .Eq (.var 3) (.var 41)) (.cons [3] (.e (.var 52)) .nil .nil))) (.cons (.ret (.lit .none)) .nil) .nil
noncomputable abbrev zf13:St:=.ifs (.cmp .NotEq (.comp (.call 32 (.cons (.bin .Add (.bin .Add (.var 83) (.lit (.str "..."))) (.var 83)) (.cons (.var 36) .nil))) (.cons [36] (.e (.list (.cons (.var 83) (.cons (.bin .Add (.var 83) (.var 83)) .nil)))) .nil .nil)) (.list (.cons (.lit (.bool false)) (.cons (.lit (.bool true)) .nil)))) (.cons (.ret (.lit .none)) .nil) .nil
noncomputable abbrev zf14:St:=.ret (.var 82)
noncomputable abbrev yuj:Sts:=.cons zf0 (.cons zf1 (.cons zf2 (.cons zf3 (.cons zf4 (.cons zf5 (.cons zf6 (.cons zf7 (.cons zf8 (.cons zf9 (.cons zf10 (.cons zf11 (.cons zf12 (.cons zf13 (.cons zf14 .nil))))))))))))))
noncomputable def zfp:Fn:=⟨[47,70,52,41],[],yuj⟩
noncomputable abbrev lB0:St:=.set 82 (.call 81 (.cons (.var 47) (.cons (.var 70) (.cons (.var 52) (.cons (.var 41) .nil)))))
noncomputable abbrev lB1:St:=.ifs (.cmp .Is (.var 82) (.lit .none)) (.cons (.ret (.lit (.bool false))) .nil) .nil
noncomputable abbrev lB2:St:=.set 96 (.call 73 (.cons (.var 64) (.cons (.var 1) (.cons (.var 41) .nil))))
noncomputable abbrev lB3:St:=.set 95 (.bf .sum (.cons (.comp (.call 79 (.cons (.var 62) (.cons (.var 80) (.cons (.var 58) (.cons (.var 72) .nil))))) (.cons [58] (.e (.var 82)) .nil .nil)) .nil))
noncomputable abbrev lB4:St:=.ifs (.cmp .NotEq (.list (.cons (.call 31 (.cons (.bin .Add (.var 95) (.lit (.int 1))) (.cons (.var 94) .nil))) (.cons (.call 31 (.cons (.bin .Sub (.neg (.var 95)) (.lit (.int 1))) (.cons (.var 94) .nil))) .nil))) (.list (.cons (.tup (.cons (.var 96) (.cons (.lit (.int 1)) .nil))) (.cons (.tup (.cons (.bin .Sub (.neg (.var 96)) (.lit (.int 1))) (.cons (.bin .Sub (.var 94) (.lit (.int 1))) .nil))) .nil)))) (.cons (.ret (.lit (.bool false))) .nil) .nil
noncomputable abbrev ybn:Sts:=.cons lB0 (.cons lB1 (.cons lB2 (.cons lB3 (.cons lB4 .nil))))
noncomputable abbrev z2_0:St:=.set 97 (.comp (.bin .Mod (.bin .Add (.var 102) (.bf .sum (.cons (.slc (.var 103) (.yes (.var 63)) (.yes (.lit (.int 60))) (.yes (.lit (.int 4)))) .nil))) (.bin .Pow (.lit (.int 10)) (.lit (.int 9)))) (.cons [63,102] (.enum (.list (.cons (.lit (.int 125)) (.cons (.lit (.int 2)) (.cons (.lit (.int 1)) (.cons (.lit (.int 581)) .nil)))))) .nil .nil))
noncomputable abbrev z2_1:St:=.set 47 (.bin .Mod (.sub (.var 97) (.lit (.int 0))) (.lit (.int 5)))
noncomputable abbrev z2_2 : St := .set 100 (.list (.cons (.lit (.str "&")) (.cons (.lit (.str "<")) (.cons (.lit (.str ">")) (.cons (.lit (.str "\"")) (.cons (.lit (.str "\r")) (.cons (.lit (.str "\n")) (.cons (.lit (.str "\t")) (.cons (.bf .chr (.cons (.bin .Add (.lit (.int 192)) (.bin .Mod (.bin .FloorDiv (.sub (.var 97) (.lit (.int 0))) (.lit (.int 280))) (.lit (.int 55000)))) .nil)) .nil)))))))))
noncomputable abbrev z2_3:St:=.set 101 (.bin .Mod (.bin .FloorDiv (.sub (.var 97) (.lit (.int 0))) (.lit (.int 5))) (.lit (.int 8)))
noncomputable abbrev z2_4:St:=.set 62 (.bin .Add (.sub (.var 100) (.var 101)) (.sub (.var 100) (.bin .Mod (.bin .Add (.bin .Add (.var 101) (.lit (.int 1))) (.bin .Mod (.bin .FloorDiv (.sub (.var 97) (.lit (.int 0))) (.lit (.int 40))) (.lit (.int 7)))) (.lit (.int 8)))))
noncomputable abbrev z2_5:St:=.set 64 (.bin .Add (.lit (.int 1)) (.bin .Mod (.sub (.var 97) (.lit (.int 1))) (.lit (.int 4))))
noncomputable abbrev z2_6:St:=.set 52 (.call 51 (.cons (.var 62) (.cons (.var 64) (.cons (.comp (.bin .Mod (.bin .FloorDiv (.sub (.var 97) (.lit (.int 2))) (.bin .Pow (.lit (.int 8)) (.var 63))) (.lit (.int 8))) (.cons [63] (.range (.cons (.lit (.int 3)) .nil)) .nil .nil)) .nil))))
noncomputable abbrev z2_7:St:=.set 70 (.dcomp (.var 3) (.call 46 (.cons (.var 47) (.cons (.var 3) .nil))) (.cons [3] (.e (.bin .Add (.var 52) (.list (.cons (.sub (.var 62) (.lit (.int 0))) (.cons (.sub (.var 62) (.lit (.int 1))) .nil))))) .nil .nil))
noncomputable abbrev z2_8:St:=.set 99 (.dcomp (.var 50) (.call 48 (.cons (.var 47) (.cons (.var 50) .nil))) (.cons [50] (.e (.var 62)) .nil .nil))
noncomputable abbrev z2_9:St:=.ifs (.cmp .NotEq (.comp (.var 3) (.cons [3] (.e (.var 70)) (.cons (.cmp .NotEq (.sub (.var 70) (.var 3)) (.mt .join (.lit (.str "")) (.cons (.comp (.sub (.var 99) (.var 50)) (.cons [50] (.e (.var 3)) .nil .nil)) .nil))) .nil) .nil)) (.list .nil)) (.cons (.ret (.lit (.bool false))) .nil) .nil
noncomputable abbrev yod:St:=.set 80 (.comp (.bf .len (.cons (.sub (.var 70) (.var 50)) .nil)) (.cons [50] (.e (.var 62)) .nil .nil))
noncomputable abbrev yoe:St:=.set 72 (.bf .max (.cons (.comp (.bf .len (.cons (.var 3) .nil)) (.cons [3] (.e (.var 52)) .nil .nil)) .nil))
noncomputable abbrev yof:St:=.set 94 (.bin .Pow (.bf .sum (.cons (.var 80) .nil)) (.var 72))
noncomputable abbrev yog:St:=.set 98 (.bf .sum (.cons (.comp (.bin .Mult (.bf .len (.cons (.var 3) .nil)) (.call 79 (.cons (.var 62) (.cons (.var 80) (.cons (.var 3) (.cons (.var 72) .nil)))))) (.cons [3] (.e (.var 52)) .nil .nil)) .nil))
noncomputable abbrev yoh:St:=.ifs (.cmp .NotEq (.list (.cons (.call 31 (.cons (.var 98) (.cons (.neg (.var 94)) .nil))) (.cons (.call 31 (.cons (.bin .Add (.var 98) (.lit (.int 1))) (.cons (.neg (.var 94)) .nil))) .nil))) (.list (.cons (.tup (.cons (.neg (.var 64)) (.cons (.lit (.int 0)) .nil))) (.cons (.tup (.cons (.bin .Sub (.neg (.var 64)) (.lit (.int 1))) (.cons (.bin .Sub (.lit (.int 1)) (.var 94)) .nil))) .nil)))) (.cons (.ret (.lit (.bool false))) .nil) .nil
noncomputable abbrev yrx:St:=.set 1 (.call 66 (.cons (.var 47) (.cons (.var 70) (.cons (.var 52) (.cons (.var 72) .nil)))))
noncomputable abbrev yoi:St:=.ifs (.bop .Or (.cons (.cmp .Is (.var 1) (.lit .none)) (.cons (.cmp .NotEq (.call 75 (.cons (.var 62) (.cons (.var 64) (.cons (.var 1) (.cons (.var 72) .nil))))) (.bf .sorted (.cons (.var 52) .nil))) .nil))) (.cons (.ret (.lit (.bool false))) .nil) .nil
noncomputable abbrev yoj:St:=.set 93 (.list (.cons (.bin .Mod (.sub (.var 97) (.lit (.int 3))) (.lit (.int 64))) (.cons (.bin .Mod (.bin .FloorDiv (.sub (.var 97) (.lit (.int 3))) (.lit (.int 64))) (.lit (.int 64))) .nil)))
noncomputable abbrev ysa:St:=.loop [41] (.e (.bin .Add (.list (.cons (.lit (.str "")) .nil)) (.comp (.mt .join (.lit (.str "")) (.cons (.comp (.sub (.var 62) (.bin .Mod (.bin .FloorDiv (.bin .FloorDiv (.var 92) (.lit (.int 4))) (.bin .Pow (.lit (.int 2)) (.var 63))) (.lit (.int 2)))) (.cons [63] (.range (.cons (.bin .Add (.lit (.int 1)) (.bin .Mod (.var 92) (.lit (.int 4)))) .nil)) .nil .nil)) .nil)) (.cons [92] (.e (.var 93)) .nil .nil)))) ybn
noncomputable abbrev ysb:St:=.ret (.lit (.bool true))
noncomputable abbrev ysc:Sts:=.cons z2_0 (.cons z2_1 (.cons z2_2 (.cons z2_3 (.cons z2_4 (.cons z2_5 (.cons z2_6 (.cons z2_7 (.cons z2_8 (.cons z2_9 (.cons yod (.cons yoe (.cons yof (.cons yog (.cons yoh (.cons yrx (.cons yoi (.cons yoj (.cons ysa (.cons ysb .nil)))))))))))))))))))
noncomputable def yjv:Fn:=⟨[103],[],ysc⟩
variable {S:Sig} {k cu cv:Nat}
theorem yoy {α:Type} (xs:List α) (a b:Nat):cut xs (some (a:Int)) (some (b:Int)) none=(xs.drop a).take (b-a):=by
 have:=zsg xs (some a) (some b)
 simp only [Option.map_some,zis] at this
 rw [this]
 rcases Nat.le_total a xs.length with h | h
 ·rw [Nat.min_eq_left h]
  rcases Nat.le_total b xs.length with h' | h'
  ·rw [Nat.min_eq_left h']
  ·rw [Nat.min_eq_right h',List.take_of_length_le (by rw [List.length_drop];exact Nat.le_refl _),List.take_of_length_le (by rw [List.length_drop];exact Nat.sub_le_sub_right h' a)]
 ·rw [Nat.min_eq_right h,List.drop_of_length_le (Nat.le_refl _),List.drop_of_length_le h,List.take_nil,List.take_nil]
theorem ydm {x:List Bool} {a b:Nat}:zei (dtx (tw cu cv x)) (some (nint a)) (some (nint b)) none=some (dtx (tw cu cv ((x.drop a).take (b-a)))):=by
 show some (PyData.str ⟨(cut (tw cu cv x) (some (a:Int)) (some (b:Int)) none).toArray⟩)=_
 rw [yoy,zpb,ztn]
theorem znc {a:Nat} {b:Int} (h:b≤1000000) (h2 : -1000000≤b) (ha:a≤1000):zdi (a:Int) b 1=some ((List.range (b-a).toNat).map fun k=>nint (k+a)):=by
 unfold zdi
 rw [if_pos]
 ·have:(b-(a:Int)+1-1) / 1=b-a:=by omega
  rw [this]
  refine congrArg some (List.map_congr_left fun k _=>?_)
  show PyData.int ((a:Int)+(k:Int)*1)=PyData.int ((k+a:Nat):Int)
  rw [Int.mul_one,Int.natCast_add,Int.add_comm]
 ·simp only [Bool.and_eq_true,decide_eq_true_eq]
  omega
theorem yao {ρ:Rho} {e:E} {b:Int} (h:ev S ρ e=some (.int b)) (h1:b≤1000000) (h2 : -1000000≤b):zdk S ρ (.range (.cons e .nil))=some ((List.range b.toNat).map nint):=by
 refine bi (zab h zah) ?_
 have:=znc (a:=0) h1 h2 (by decide)
 rw [Int.natCast_zero,Int.sub_zero] at this
 exact this
theorem yan {ρ:Rho} {e e1:E} {a:Nat} {b:Int} (ha:ev S ρ e1=some (nint a)) (h:ev S ρ e=some (.int b)) (h1:b≤1000000) (h2 : -1000000≤b) (h3:a≤1000):zdk S ρ (.range (.cons e1 (.cons e .nil)))=some (((List.range (b-a).toNat).map fun k=>k+a).map nint):=by
 refine bi (zab ha (zab h zah)) ?_
 rw [List.map_map]
 exact znc h1 h2 h3
theorem ygc (h:cu≠cv) (x y:List Bool):zdq .Eq (dtx (tw cu cv x)) (dtx (tw cu cv y))=some (.bool (x==y)):=by rw [yox,zwn h]
theorem yml (ms:List Bool):zdq .In (.bool true) (.list (ms.map PyData.bool))=some (.bool (ms.contains true)):=by
 show (if dep 8 (.bool true)&&dep 8 (.list (ms.map PyData.bool)) then some (PyData.bool ((ms.map PyData.bool).any fun y=>PyData.eqv y (.bool true))) else none)=_
 rw [zpr,ztt];rfl
structure Dr (k cu cv:Nat) (l:List (List Bool)) (dr:D):Prop where
 at_:∀ x∈l,zkz dr (dtx (tw cu cv x))=some (dtx (ww k cu cv x))
 nt:zbm dr=true
theorem Two.dots (F:Facts S) (Q:Two k cu cv) (y:Sync (wr k cu) (wr k cv)) {p q g:List Bool} {ms:List (List Bool)} (hp:p.length≤150) (hq:q.length≤150) (hm:∀ x∈ms,x.length≤150) (hl:ms.length≤100) :
  S.cal 32 [dtx (dotJ (ww k cu cv p::(ms.map (ww k cu cv)++[ww k cu cv q]))),dtx (ww k cu cv g)]=some (.bool (ellR p ms q g)):=by
 have hh:∀ z∈ww k cu cv p::(ms.map (ww k cu cv)++[ww k cu cv q]),∃ x:List Bool,x.length≤150∧z=ww k cu cv x:=fun z m=>by
  rcases mcp m with rfl | m
  ·exact ⟨p,hp,rfl⟩
  ·rcases map2 m with m | m
   ·obtain ⟨x,mx,rfl⟩:=mmp m
    exact ⟨x,hm x mx,rfl⟩
   ·exact ⟨q,hq,msp m⟩
 rw [F.c32 _ _ (by simp) (fun z m=>by obtain ⟨x,_,rfl⟩:=hh z m;exact Q.dot x) (fun z m=>by obtain ⟨x,hx,rfl⟩:=hh z m;exact Q.okw hx) (by simp;omega),y.ell]
theorem Two.plain (F:Facts S) (Q:Two k cu cv) {x g:List Bool}:S.cal 32 [dtx (ww k cu cv x),dtx (ww k cu cv g)]=some (.bool (x==g)):=by
 rw [F.c320 _ _ (Q.dot x)]
 refine congrArg (fun b=>some (PyData.bool b)) ?_
 rw [Bool.eq_iff_iff,beq_iff_eq,beq_iff_eq]
 exact Q.code.inj
theorem yqa (a b:Nat):((a:Int)-b+1).toNat=a+1-b:=by
 have e:(a:Int)-b+1=((a+1:Nat):Int)-(b:Nat):=by rw [Int.natCast_add,Int.sub_eq_add_neg,Int.sub_eq_add_neg,Int.add_right_comm];rfl
 rw [e,Int.toNat_sub]
theorem zqf {a b:Nat} (h:a≤100) (h2:b≤100:=by assumption):(a:Int)-b+1≤1000000 ∧ -1000000≤(a:Int)-b+1:=by omega
theorem ygx (d k t:Nat):(if (d:Int)+k-t-1 > 0 then (d:Int)+k-t-1 else 0)=((d+k-(t+1):Nat):Int):=by
 by_cases h:d+k≤t+1
 ·rw [Nat.sub_eq_zero_of_le h,if_neg (by omega)];rfl
 ·rw [if_pos (by omega),Int.natCast_sub (Nat.le_of_not_le h),Int.natCast_add,Int.natCast_add,Int.sub_sub];rfl
theorem zwa (h:cu≠cv) {d:Nat} {inner:List (List Bool)} {t:List Bool} (ht:t.length≤100) (hi:inner.length≤100) (hb:Bd 100 inner):zbb S zgj [nint d,txs cu cv inner,dtx (tw cu cv t)]=some (nint (zfs d inner t)):=by
 refine zcv rfl ?_
 show exs S [(64,nint d),(1,txs cu cv inner),(41,dtx (tw cu cv t))] _=_
 have hlen:(inner.flatMap fun one=>if true=true then ((List.range (t.length+1-one.length)).filter fun k=>(t.drop k).take one.length==one).map fun _=>dtx (tw cu cv one) else []).length=zhi inner t:=by
  unfold zhi
  rw [List.length_flatMap,List.length_flatMap]
  refine congrArg (fun f=>(inner.map f).sum) (funext fun one=>?_)
  rw [if_pos rfl,List.length_map]
 have hle:zhi inner t≤inner.length*(t.length+1):=zeb fun one _=>Nat.le_trans (List.length_filter_le _ _) (by rw [List.length_range];exact Nat.sub_le _ _)
 have hle2:inner.length*(t.length+1)≤100*101:=Nat.mul_le_mul hi (Nat.succ_le_succ ht)
 have s0:=zus (S:=S) (ρ:=[(64,nint d),(1,txs cu cv inner),(41,dtx (tw cu cv t))]) (elt:=.var 58) (tg:=[58]) (tg2:=[63]) (src:=.e (.var 1)) (src2:=.range (.cons (.bin .Add (.bin .Sub (.bf .len (.cons (.var 41) .nil)) (.bf .len (.cons (.var 58) .nil))) (.lit (.int 1))) .nil)) (ifs:=.nil) (ifs2:=.cons (.cmp .Eq (.slc (.var 41) (.yes (.var 63)) (.yes (.bin .Add (.var 63) (.bf .len (.cons (.var 58) .nil)))) .no) (.var 58)) .nil)
  (l:=inner) (i:=fun x=>dtx (tw cu cv x)) (q:=fun _=>true) (l2:=fun one=>List.range (t.length+1-one.length)) (i2:=fun _ k=>nint k) (p:=fun one k=>(t.drop k).take one.length==one) (g:=fun one _=>dtx (tw cu cv one)) rfl
  (fun one m=>by
   have hone:=hb one m
   refine ⟨[(64,nint d),(1,txs cu cv inner),(41,dtx (tw cu cv t)),(58,dtx (tw cu cv one))],rfl,rfl,fun _=>⟨?_,fun k _=>⟨[(64,nint d),(1,txs cu cv inner),(41,dtx (tw cu cv t)),(58,dtx (tw cu cv one)),(63,nint k)],rfl,yab ?_,fun _=>rfl⟩⟩⟩
   ·have e:=yqa t.length one.length
    have:=yao (S:=S) (ρ:=[(64,nint d),(1,txs cu cv inner),(41,dtx (tw cu cv t)),(58,dtx (tw cu cv one))]) (e:=.bin .Add (.bin .Sub (.bf .len (.cons (.var 41) .nil)) (.bf .len (.cons (.var 58) .nil))) (.lit (.int 1))) (b:=(t.length:Int)-one.length+1) (zaf (x:=.int ((t.length:Int)-one.length)) (zaf (zca (cu:=cu) (cv:=cv) (x:=t) (zaa rfl)) (zca (cu:=cu) (cv:=cv) (x:=one) (zaa rfl)) rfl) (zai (d:=nint 1)) rfl) (zqf ht).1 (zqf ht).2
    rw [e] at this
    exact this
   ·have:=zej (S:=S) (ρ:=[(64,nint d),(1,txs cu cv inner),(41,dtx (tw cu cv t)),(58,dtx (tw cu cv one)),(63,nint k)]) (a:=.var 41) (x:=dtx (tw cu cv t)) (zaa rfl) (zct (zaa (n:=63) (d:=nint k) rfl)) (zct (zaf (zaa (n:=63) (d:=nint k) rfl) (zca (cu:=cu) (cv:=cv) (x:=one) (zaa (n:=58) rfl)) (zea _ _))) zds ydm
    rw [Nat.add_sub_cancel_left] at this
    exact zam this (zaa (n:=58) rfl) (ygc h _ _)) (by rw [hlen];exact Nat.le_trans (Nat.le_trans hle hle2) (by decide))
 refine zad (ρ':=[(64,nint d),(1,txs cu cv inner),(41,dtx (tw cu cv t)),(74,_)]) (zao s0) (zal (zbu ?_))
 have l1:=yai (S:=S) (ρ:=[(64,nint d),(1,txs cu cv inner),(41,dtx (tw cu cv t)),(74, .list (inner.flatMap fun one=>if true=true then ((List.range (t.length+1-one.length)).filter fun k=>(t.drop k).take one.length==one).map fun _=>dtx (tw cu cv one) else []))]) (zaa (n:=74) rfl)
 rw [hlen] at l1
 refine zib (zab (zai (d:=nint 0)) (zab (zaf (x:=.int ((d:Int)+(zhi inner t:Nat)-(t.length:Nat))) (zaf (x:=.int ((d:Int)+(zhi inner t:Nat))) (zaf (zaa (n:=64) rfl) l1 rfl) (zca (cu:=cu) (cv:=cv) (x:=t) (zaa (n:=41) rfl)) rfl) (zai (d:=nint 1)) rfl) zah)) ?_
 show some (PyData.int (if (d:Int)+(zhi inner t:Nat)-(t.length:Nat)-1 > 0 then (d:Int)+(zhi inner t:Nat)-(t.length:Nat)-1 else 0))=some (PyData.int ((zfs d inner t:Nat):Int))
 refine congrArg (fun x=>some (PyData.int x)) ?_
 exact ygx d (zhi inner t) t.length
end Internal
namespace Internal
variable {S:Sig} {k cu cv:Nat}
theorem zvt (l:List (List Bool)):zbm (txs cu cv l)=true:=zbi fun _ _=>rfl
theorem yhl (l:List Bool):zbm (.list (l.map PyData.bool))=true:=zbi fun _ _=>rfl
theorem zvs {ρ:Rho} {n:Nat} {b:Bool} (g:ρ.get n=some (.bool b)):evT S ρ (.bop .And (.cons (.cmp .IsNot (.var n) (.lit (.bool true))) (.cons (.cmp .IsNot (.var n) (.lit (.bool false))) .nil)))=some false:=by
 cases b
 ·exact bi (zam (zaa g) zai (t:=true) rfl) (bi (zam (zaa g) zai (t:=false) rfl) rfl)
 ·exact bi (zam (zaa g) zai (t:=false) rfl) rfl
theorem ysk (x:List Nat):dotJ [[],x,[]]=D3++x++D3:=by simp [dotJ]
theorem yaq {ρ:Rho} {e:E} {x:List Nat} (h:ev S ρ e=some (dtx x)) (hl:x.length≤1000):ev S ρ (.bin .Add (.bin .Add (.lit (.str "...")) e) (.lit (.str "...")))=some (dtx (dotJ [[],x,[]])):=by
 rw [ysk]
 exact zco (zco lit3 h (by show 3+_≤_;omega)) lit3 (by rw [List.length_append];show 3+_+3≤_;omega)
theorem Two.len6 (Q:Two k cu cv) {x:List Bool} (h:x.length≤100):(ww k cu cv x).length≤600:=Nat.le_trans (Q.len (by omega)) (by omega)
theorem zvy {α:Type} {β:Type} {l:List α} {l2:α→List β} {g:α→β→D}:(l.flatMap fun a=>if true=true then ((l2 a).filter fun _=>false).map (g a) else [])=[]:=by
 rw [List.flatMap_eq_nil_iff]
 intro a _
 rw [if_pos rfl,List.filter_eq_nil_iff.mpr fun _ _=>Bool.false_ne_true];rfl
section
variable (F:Facts S) (Q:Two k cu cv) (y:Sync (wr k cu) (wr k cv)) {c:List (List Bool)} {dr:D} {R:Nat}
include F Q y
theorem zi2s (Dd:Dr k cu cv c dr) (hb:Bd 100 c) {ρ:Rho} (g70:ρ.get 70=some dr) (g71:ρ.get 71=some (.list (c.map fun x=>dtx (ww k cu cv (midR x))))) (g52:ρ.get 52=some (txs cu cv c)) (g69:ρ.get 69=some (txs cu cv (zff c R))) (nt:NT ρ) :
  ex S ρ zi2=some (.next (ρ.set 68 (.list ((zff c R).map fun x=>.list ((rowI c x).map PyData.bool))))):=by
 refine zao (zbt (l:=zff c R) (i:=fun x=>dtx (tw cu cv x)) (bi (zaa g69) rfl) fun x m=>⟨(ρ.del ([3]++[])).set 3 (dtx (tw cu cv x)),rfl, ?_⟩)
 have mx:x∈c:=(List.mem_filter.mp m).1
 have hx:=hb x mx
 generalize hρ':(ρ.del ([3]++[])).set 3 (dtx (tw cu cv x))=ρ'
 have K:∀ {n:Nat} {d:D},n≠3→ρ.get n=some d→ρ'.get n=some d:=fun h g=>by rw [← hρ'];exact zac h (zau h g)
 have r3:ρ'.get 3=some (dtx (tw cu cv x)):=by rw [← hρ'];exact zag
 have nt':NT ρ':=by rw [← hρ'];exact NT.set (NT.del nt) rfl
 have src:=zhb (S:=S) (ρ:=ρ') (e1:=.var 71) (e2:=.var 52) (l:=c) (f:=fun x=>dtx (ww k cu cv (midR x))) (g:=fun x=>dtx (tw cu cv x)) nt' (zaa (K (by decide) g71)) (zaa (K (by decide) g52)) (zbi fun _ _=>rfl) (zbi fun _ _=>rfl)
 have key:=zdl (S:=S) (ρ:=ρ') (elt:=.call 32 (.cons (.bin .Add (.bin .Add (.lit (.str "...")) (.sub (.var 70) (.var 3))) (.lit (.str "..."))) (.cons (.var 36) .nil))) (c:=.cmp .Gt (.bf .len (.cons (.var 58) .nil)) (.bin .Add (.bf .len (.cons (.var 3) .nil)) (.lit (.int 1)))) (tg:=[36,58]) (src:=.zip (.cons (.var 71) (.cons (.var 52) .nil)))
  (l:=c) (i:=fun one=>.tuple [dtx (ww k cu cv (midR one)),dtx (tw cu cv one)]) (p:=fun one=>decide (x.length+1<one.length)) (g:=fun one=>.bool (ellR [] [x] [] (midR one))) src (fun one _=>by
   refine ⟨((ρ'.del ([36,58]++[])).set 36 (dtx (ww k cu cv (midR one)))).set 58 (dtx (tw cu cv one)),rfl, ?_,fun _=>?_⟩
   ·have q3:(((ρ'.del ([36,58]++[])).set 36 (dtx (ww k cu cv (midR one)))).set 58 (dtx (tw cu cv one))).get 3=some (dtx (tw cu cv x)):=zac (by decide) (zac (by decide) (by rw [Rho.get_del,if_neg (by decide)];exact r3))
    refine zam (zca (zaa zag)) (zaf (zca (zaa q3)) (zai (d:=nint 1)) (zea _ _)) ?_
    rw [zsd]
    exact congrArg (fun b=>some (PyData.bool b)) (decide_eq_decide.mpr Int.ofNat_lt)
   ·have q3:(((ρ'.del ([36,58]++[])).set 36 (dtx (ww k cu cv (midR one)))).set 58 (dtx (tw cu cv one))).get 3=some (dtx (tw cu cv x)):=zac (by decide) (zac (by decide) (by rw [Rho.get_del,if_neg (by decide)];exact r3))
    have q70:(((ρ'.del ([36,58]++[])).set 36 (dtx (ww k cu cv (midR one)))).set 58 (dtx (tw cu cv one))).get 70=some dr:=zac (by decide) (zac (by decide) (by rw [Rho.get_del,if_neg (by decide)];exact K (by decide) g70))
    exact zav (zab (yaq (zbf (zaa q70) (zaa q3) (Dd.at_ x mx)) (Nat.le_trans (Q.len6 hx) (by decide))) (zab (zaa (zac (by decide) zag)) zah)) (Q.dots F y (p:=[]) (ms:=[x]) (q:=[]) (Nat.zero_le _) (Nat.zero_le _) (fun z m=>by rw [msp m];omega) (nle rfl))) (by
   rw [Bool.or_eq_true];exact .inr (zbi fun _ _=>rfl))
 rw [key];unfold rowI;rw [List.map_map];rfl
theorem ydd (Dd:Dr k cu cv c dr) (hb:Bd 100 c) (hne:∀ x∈c,x≠[]) (hl:c.length≤100) (hR:R≤1000):zbb S zfr [nint k,dr,txs cu cv c,nint R]=some (txs cu cv (zem c R)):=by
 refine zcv rfl ?_
 show exs S [(47,nint k),(70,dr),(52,txs cu cv c),(72,nint R)] _=_
 have s0:ex S [(47,nint k),(70,dr),(52,txs cu cv c),(72,nint R)] zi0=some (.next [(47,nint k),(70,dr),(52,txs cu cv c),(72,nint R),(71, .list (c.map fun x=>dtx (ww k cu cv (midR x))))]):=by
  refine zao (zbt (l:=c) (i:=fun x=>dtx (tw cu cv x)) rfl fun x m=>⟨[(47,nint k),(70,dr),(52,txs cu cv c),(72,nint R),(3,dtx (tw cu cv x))],rfl, ?_⟩)
  have hx:=hb x m
  have hp:1≤x.length:=List.length_pos_iff.mpr (hne x m)
  have:=zej (S:=S) (ρ:=[(47,nint k),(70,dr),(52,txs cu cv c),(72,nint R),(3,dtx (tw cu cv x))]) (a:=.var 3) (x:=dtx (tw cu cv x)) (zaa rfl) (zct (zai (d:=nint 1))) (zct (zaf (zca (cu:=cu) (cv:=cv) (x:=x) (zaa (n:=3) rfl)) (zai (d:=nint 1)) (zde hp))) zds ydm
  rw [Nat.sub_sub] at this
  exact zav (zab (zaa (n:=47) (d:=nint k) rfl) (zab this zah)) (Q.written F (Nat.le_trans (List.length_take_le' _ _) (Nat.le_trans (znz _ _) (Nat.le_trans hx (by decide)))))
 refine zad s0 ?_
 have s1:ex S [(47,nint k),(70,dr),(52,txs cu cv c),(72,nint R),(71, .list (c.map fun x=>dtx (ww k cu cv (midR x))))] zi1=some (.next [(47,nint k),(70,dr),(52,txs cu cv c),(72,nint R),(71, .list (c.map fun x=>dtx (ww k cu cv (midR x)))),(69,txs cu cv (zff c R))]):=by
  refine zao (zdl (l:=c) (i:=fun x=>dtx (tw cu cv x)) (g:=fun x=>dtx (tw cu cv x)) (p:=fun x=>decide (x.length+1<R)) rfl fun x _=>⟨[(47,nint k),(70,dr),(52,txs cu cv c),(72,nint R),(71, .list (c.map fun x=>dtx (ww k cu cv (midR x)))),(3,dtx (tw cu cv x))],rfl, ?_,fun _=>rfl⟩)
  refine zam (zca (cu:=cu) (cv:=cv) (x:=x) (zaa (n:=3) rfl)) (zaf (o:=.Sub) (y:=nint 1) (z:=.int ((R:Int)-1)) (zaa (n:=72) (d:=nint R) rfl) zai rfl) ?_
  rw [zhk]
  exact congrArg (fun b=>some (PyData.bool b)) (decide_eq_decide.mpr ⟨fun h=>by omega,fun h=>by omega⟩)
 refine zad s1 ?_
 have nt:NT [(47,nint k),(70,dr),(52,txs cu cv c),(72,nint R),(71, .list (c.map fun x=>dtx (ww k cu cv (midR x)))),(69,txs cu cv (zff c R))] :=
  NT.cons rfl (NT.cons Dd.nt (NT.cons (zvt c) (NT.cons rfl (NT.cons (zbi fun _ _=>rfl) (NT.cons (zvt _) rfl)))))
 refine zad (zi2s F Q y Dd hb rfl rfl rfl rfl nt) ?_
 generalize hρ:Rho.set [(47,nint k),(70,dr),(52,txs cu cv c),(72,nint R),(71, .list (c.map fun x=>dtx (ww k cu cv (midR x)))),(69,txs cu cv (zff c R))] 68 (.list ((zff c R).map fun x=>.list ((rowI c x).map PyData.bool)))=ρ
 have g69:ρ.get 69=some (txs cu cv (zff c R)):=by rw [← hρ];exact zac (by decide) rfl
 have g68:ρ.get 68=some (.list ((zff c R).map fun x=>.list ((rowI c x).map PyData.bool))):=by rw [← hρ];exact zag
 have ntr:∀ x∈zff c R,zbm (.list ((rowI c x).map PyData.bool))=true:=fun x _=>yhl _
 have nt2:NT ρ:=by rw [← hρ];exact NT.set nt (zbi ntr)
 have s3:=zus (S:=S) (ρ:=ρ) (elt:=.var 58) (tg:=[67]) (tg2:=[58]) (src:=.e (.var 68)) (src2:=.e (.var 67)) (ifs:=.nil) (ifs2:=.cons (.bop .And (.cons (.cmp .IsNot (.var 58) (.lit (.bool true))) (.cons (.cmp .IsNot (.var 58) (.lit (.bool false))) .nil))) .nil)
  (l:=zff c R) (i:=fun x=>.list ((rowI c x).map PyData.bool)) (q:=fun _=>true) (l2:=rowI c) (i2:=fun _ b=>.bool b) (p:=fun _ _=>false) (g:=fun _ b=>.bool b) (bi (zaa g68) rfl)
  (fun x _=>⟨(ρ.del ([67]++([58]++[]))).set 67 (.list ((rowI c x).map PyData.bool)),rfl,rfl,fun _=>⟨bi (x:=.list ((rowI c x).map PyData.bool)) (zaa zag) rfl,fun b _=>⟨_,rfl,yab (zvs zag),fun h=>nomatch h⟩⟩⟩) (by rw [zvy];exact Nat.zero_le _)
 rw [zvy] at s3
 refine zad (zfa (zam s3 rfl rfl) rfl) (zal (zbu ?_))
 exact zdl (S:=S) (ρ:=ρ) (elt:=.var 3) (c:=.cmp .In (.lit (.bool true)) (.var 67)) (tg:=[3,67]) (src:=.zip (.cons (.var 69) (.cons (.var 68) .nil))) (l:=zff c R) (i:=fun x=>.tuple [dtx (tw cu cv x), .list ((rowI c x).map PyData.bool)]) (g:=fun x=>dtx (tw cu cv x)) (p:=fun x=>(rowI c x).contains true)
  (zhb nt2 (zaa g69) (zaa g68) (zbi fun _ _=>rfl) (zbi ntr)) (fun x _=>⟨((ρ.del ([3,67]++[])).set 3 (dtx (tw cu cv x))).set 67 (.list ((rowI c x).map PyData.bool)),rfl,zam zai (zaa zag) (yml _),fun _=>zaa (zac (by decide) zag)⟩) (by rw [Bool.or_eq_true];exact .inr (zbi fun _ _=>rfl))
end
end Internal
namespace Internal
variable {S:Sig} {k cu cv:Nat}
noncomputable def Lk (S:Sig) (cu cv d:Nat) (inner:List (List Bool)):Prop:=∀ t:List Bool,t.length≤100→S.cal 73 [nint d,txs cu cv inner,dtx (tw cu cv t)]=some (nint (zfs d inner t))
theorem ymn (a b:Nat):zdq .Eq (.int ((a:Int)-b)) (.int 1)=some (.bool (a==b+1)):=by
 rw [znt]
 refine congrArg (fun x=>some (PyData.bool x)) ?_
 rw [Bool.eq_iff_iff,decide_eq_true_iff,beq_iff_eq]
 omega
section
variable (h:cu≠cv) {d:Nat} {inner:List (List Bool)} (L:Lk S cu cv d inner)
include h L
theorem gB1s {ρ:Rho} {l:List (List Bool)} (g64:ρ.get 64=some (nint d)) (g1:ρ.get 1=some (txs cu cv inner)) (g78:ρ.get 78=some (txs cu cv l)) (hb:Bd 100 l):ex S ρ gB1=some (.next (ρ.set 77 (txs cu cv (zgf d inner l)))):=by
 refine zao (zdl (l:=l) (i:=fun x=>dtx (tw cu cv x)) (g:=fun x=>dtx (tw cu cv x)) (p:=fun x=>zfs d inner (x.drop 1)==zfs d inner x+1) (bi (zaa g78) rfl) fun x m=>⟨(ρ.del ([58]++[])).set 58 (dtx (tw cu cv x)),rfl, ?_,fun _=>zaa zag⟩)
 have hx:=hb x m
 have q64:((ρ.del ([58]++[])).set 58 (dtx (tw cu cv x))).get 64=some (nint d):=zac (by decide) (zau (by decide) g64)
 have q1:((ρ.del ([58]++[])).set 58 (dtx (tw cu cv x))).get 1=some (txs cu cv inner):=zac (by decide) (zau (by decide) g1)
 have q58:((ρ.del ([58]++[])).set 58 (dtx (tw cu cv x))).get 58=some (dtx (tw cu cv x)):=zag
 have sl:=zej (S:=S) (zaa q58) (zct (zai (d:=nint 1))) zds zds zot
 rw [zpb] at sl
 exact zam (zaf (o:=.Sub) (zav (zab (zaa q64) (zab (zaa q1) (zab sl zah))) (L (x.drop 1) (Nat.le_trans (znz _ _) hx))) (zav (zab (zaa q64) (zab (zaa q1) (zab (zaa q58) zah))) (L x hx)) rfl) zai (ymn _ _)
theorem gB2s {ρ:Rho} {ws fs l:List (List Bool)} (g76:ρ.get 76=some (txs cu cv ws)) (g77:ρ.get 77=some (txs cu cv fs)) (g78:ρ.get 78=some (txs cu cv l)) (hl:ws.length+l.length≤1000):ex S ρ gB2=some (.next (ρ.set 76 (txs cu cv (ws++l.filter fun x=>!fs.contains x)))):=by
 have key:=zdl (S:=S) (ρ:=ρ) (elt:=.var 58) (c:=.cmp .NotIn (.var 58) (.var 77)) (tg:=[58]) (src:=.e (.var 78)) (l:=l) (i:=fun x=>dtx (tw cu cv x)) (g:=fun x=>dtx (tw cu cv x)) (p:=fun x=>!fs.contains x)
  (bi (zaa g78) rfl) fun x _=>⟨_,rfl,zam (zaa zag) (zaa (zac (by decide) (zau (by decide) g77))) (by
   rw [zpl h]
   refine congrArg (fun b=>some (PyData.bool (!b))) ?_
   rw [Bool.eq_iff_iff,decide_eq_true_iff,List.contains_iff_mem]),fun _=>zaa zag⟩
 have hf:(l.filter fun x=>!fs.contains x).length≤l.length:=List.length_filter_le _ _
 exact zao (zhs (zaa g76) key (by omega))
theorem zqb:∀ {is:List Nat} {i:Nat} {ws fs:List (List Bool)} {ρ:Rho},i+is.length≤8→fs.length≤2^i→ws.length≤2^(i+1)→Bd i fs→ρ.get 62=some (dtx [cu,cv])→ρ.get 64=some (nint d)→ρ.get 1=some (txs cu cv inner)→ρ.get 76=some (txs cu cv ws)→ρ.get 77=some (txs cu cv fs) →
  ∃ ρ',goL (fun d ρ'=>(zcn ρ' [65] d).bind fun ρ''=>exs S ρ'' yjp) (is.map nint) ρ=some (.next ρ')∧ρ'.get 76=some (txs cu cv (zgh d inner is.length ws fs).1)∧ρ'.get 77=some (txs cu cv (zgh d inner is.length ws fs).2)
 | [],i,ws,fs,ρ,_,_,_,_,_,_,_,g76,g77=>⟨ρ,rfl,g76,g77⟩
 | j::is,i,ws,fs,ρ,hi,hf,hw,hb,g62,g64,g1,g76,g77=>by
  have hi:i+(is.length+1)≤8:=hi
  have p1:(2:Nat)^(i+1)=2^i*2:=Nat.pow_succ ..
  have i7:i≤7:=Nat.le_of_succ_le_succ (Nat.le_trans (Nat.add_le_add_left (Nat.succ_le_succ (Nat.zero_le _)) i) hi)
  have p3:(2:Nat)^i≤2^7:=Nat.pow_le_pow_right (by decide) i7
  have p4:(2:Nat)^(i+1)≤2^8:=Nat.pow_le_pow_right (by decide) (Nat.succ_le_succ i7)
  obtain ⟨m1,m2⟩:=yby hb
  have m3:(zdg fs).length≤2^(i+1):=Nat.le_trans m1 (p1▸Nat.mul_le_mul_right 2 hf)
  have s0:=yak (S:=S) (ρ:=ρ.set 65 (nint j)) (b:=58) (a:=77) (zac (by decide) g62) (zac (by decide) g77) (by decide) (by decide) hb (Nat.le_trans i7 (by decide)) (Nat.le_trans hf (Nat.le_trans p3 (by decide)))
  have s1:=gB1s (S:=S) h L (ρ:=(ρ.set 65 (nint j)).set 78 (txs cu cv (zdg fs))) (l:=zdg fs) (zac (by decide) (zac (by decide) g64)) (zac (by decide) (zac (by decide) g1)) zag (fun x m=>Nat.le_trans (m2 x m) (Nat.le_trans (Nat.succ_le_succ i7) (by decide)))
  have s2:=gB2s (S:=S) h L (ρ:=((ρ.set 65 (nint j)).set 78 (txs cu cv (zdg fs))).set 77 (txs cu cv (zgf d inner (zdg fs)))) (ws:=ws) (fs:=zgf d inner (zdg fs)) (l:=zdg fs) (zac (by decide) (zac (by decide) (zac (by decide) g76))) zag (zac (by decide) zag) (Nat.le_trans (Nat.add_le_add (Nat.le_trans hw p4) (Nat.le_trans m3 p4)) (by decide))
  have K:∀ {n:Nat} {e:D},n≠65→n≠78→n≠77→n≠76→ρ.get n=some e→((((ρ.set 65 (nint j)).set 78 (txs cu cv (zdg fs))).set 77 (txs cu cv (zgf d inner (zdg fs)))).set 76 (txs cu cv (ws++(zdg fs).filter fun x=>!(zgf d inner (zdg fs)).contains x))).get n=some e :=
   fun a b e f g=>zac f (zac e (zac b (zac a g)))
  have hfl:(zgf d inner (zdg fs)).length≤(zdg fs).length:=List.length_filter_le _ _
  have hwl:((zdg fs).filter fun x=>!(zgf d inner (zdg fs)).contains x).length≤(zdg fs).length:=List.length_filter_le _ _
  obtain ⟨ρ',e1,e2,e3⟩:=zqb (is:=is) (i:=i+1) (ws:=ws++(zdg fs).filter fun x=>!(zgf d inner (zdg fs)).contains x) (fs:=zgf d inner (zdg fs)) (Nat.le_trans (Nat.le_of_eq (Nat.add_right_comm i 1 _)) hi) (Nat.le_trans hfl m3) (by rw [List.length_append,Nat.pow_succ 2 (i+1),Nat.mul_two];exact Nat.add_le_add hw (Nat.le_trans hwl m3)) (fun x m=>m2 x (List.mem_filter.mp m).1)
   (K (by decide) (by decide) (by decide) (by decide) g62) (K (by decide) (by decide) (by decide) (by decide) g64) (K (by decide) (by decide) (by decide) (by decide) g1) zag (zac (by decide) zag)
  refine ⟨ρ', ?_,e2,e3⟩
  rw [List.map_cons]
  exact zfc (zad (zao s0) (zad s1 (zad s2 rfl))) e1
noncomputable abbrev srt (cu cv:Nat) (l:List (List Bool)):D:=.list ((zrk (l.map fun x=>tx (tw cu cv x))).map PyData.str)
omit h L in
theorem zpw {ρ:Rho} {e:E} {l:List (List Bool)} (he:ev S ρ e=some (txs cu cv l)) (hl:l.length<64):ev S ρ (.bf .sorted (.cons e .nil))=some (srt cu cv l):=by
 refine zib (zab he zah) ?_
 have e1:(l.map fun x=>dtx (tw cu cv x))=(l.map fun x=>tx (tw cu cv x)).map PyData.str:=by rw [List.map_map];rfl
 show ((zjh (l.map fun x=>dtx (tw cu cv x))).bind fun ts=>if decide (ts.length<64) then some (PyData.list ((zrk ts).map .str)) else none)=_
 rw [e1,zkg]
 exact if_pos (decide_eq_true (by rw [List.length_map];exact hl))
theorem ydc {R:Nat} (hR:R≤8) (hl:(zgh d inner R [] [[]]).1.length+(zgh d inner R [] [[]]).2.length<64):zbb S zfq [dtx [cu,cv],nint d,txs cu cv inner,nint R]=some (srt cu cv ((zgh d inner R [] [[]]).1++(zgh d inner R [] [[]]).2)):=by
 refine zcv rfl ?_
 show exs S [(62,dtx [cu,cv]),(64,nint d),(1,txs cu cv inner),(72,nint R)] _=_
 refine zad (ρ':=[(62,dtx [cu,cv]),(64,nint d),(1,txs cu cv inner),(72,nint R),(76,txs cu cv [])]) rfl ?_
 refine zad (ρ':=[(62,dtx [cu,cv]),(64,nint d),(1,txs cu cv inner),(72,nint R),(76,txs cu cv []),(77,txs cu cv [[]])]) rfl ?_
 obtain ⟨ρ',e1,e2,e3⟩:=zqb (S:=S) h L (is:=List.range R) (i:=0) (ws:=[]) (fs:=[[]]) (ρ:=[(62,dtx [cu,cv]),(64,nint d),(1,txs cu cv inner),(72,nint R),(76,txs cu cv []),(77,txs cu cv [[]])]) (by rw [List.length_range];omega) (Nat.le_refl _) (Nat.zero_le _) (fun x m=>by rw [msp m];exact Nat.le_refl _) rfl rfl rfl rfl rfl
 rw [List.length_range] at e2 e3
 refine zad (zfm (zic (zaa rfl) (by omega)) e1) (zal (zbu ?_))
 exact zpw (zhs (zaa e2) (zaa e3) (by omega)) (by rw [List.length_append];exact hl)
end
theorem zje {a b i:Nat} (ha:a≤12) (hi:i≤8) (hb:b=12^8):a^i≤b:=by
 rw [hb]
 exact Nat.le_trans (Nat.pow_le_pow_left ha i) (Nat.pow_le_pow_right (by decide) hi)
theorem powd {a i:Nat} (ha:a≤12) (hi:i≤8):zez .Pow (nint a) (nint i)=some (nint (a^i)):=ycw (by
 have:ib (a:Int)≤4:=zxj (by omega)
 have:=Nat.mul_le_mul this hi
 omega)
noncomputable def wtN (p q R:Nat) (t:List Bool):Nat:=p^t.count false*q^t.count true*(p+q)^(R-t.length)
theorem zyc (h:cu≠cv) {p q R:Nat} {t:List Bool} (hp:p≤6) (hq:q≤6) (hR:R≤8) (ht:t.length≤R):zbb S zev [dtx [cu,cv], .list ([p,q].map nint),dtx (tw cu cv t),nint R]=some (nint (wtN p q R t)):=by
 refine zcv rfl (zal (zbu ?_))
 show ev S [(62,dtx [cu,cv]),(80, .list ([p,q].map nint)),(41,dtx (tw cu cv t)),(72,nint R)] _=_
 obtain ⟨c1,c2⟩:=yit h t
 have k1:t.count false≤t.length:=List.count_le_length
 have k2:t.count true≤t.length:=List.count_le_length
 have m1:=zvp (tw cu cv t) cu
 have m2:=zvp (tw cu cv t) cv
 rw [c1] at m1
 rw [c2] at m2
 have v80:ev S [(62,dtx [cu,cv]),(80, .list ([p,q].map nint)),(41,dtx (tw cu cv t)),(72,nint R)] (.var 80)=some (.list ([p,q].map nint)):=rfl
 have l1:=zje (a:=p) (i:=t.count false) (by omega) (by omega) rfl
 have l2:=zje (a:=q) (i:=t.count true) (by omega) (by omega) rfl
 have l3:=zje (a:=p+q) (i:=R-t.length) (by omega) (by omega) rfl
 have e8:(12:Nat)^8=429981696:=by decide
 have l4:=Nat.mul_le_mul l1 l2
 have hs:ev S [(62,dtx [cu,cv]),(80, .list ([p,q].map nint)),(41,dtx (tw cu cv t)),(72,nint R)] (.bf .sum (.cons (.var 80) .nil))=some (nint (p+q)):=by
  have:=zib (S:=S) (zab v80 zah) (zog [p,q])
  rw [show [p,q].sum=p+q from rfl] at this
  exact this
 refine zaf (zaf (zaf (zbf v80 (zai (d:=nint 0)) (zgr (d:=nint p) rfl)) (zup (x:=dtx (tw cu cv t)) (ds:=[dtx [cu]]) rfl rfl m1) (powd (by omega) (by omega))) (zaf (zbf v80 (zai (d:=nint 1)) (zgr (d:=nint q) rfl)) (zup (x:=dtx (tw cu cv t)) (ds:=[dtx [cv]]) rfl rfl m2) (powd (by omega) (by omega))) (zge (by omega) (by omega))) (zaf hs (zaf (x:=nint R) rfl (zca (cu:=cu) (cv:=cv) (x:=t) (zaa (n:=41) rfl)) (zde ht)) (powd (by omega) (by omega))) (zge (by omega) (by omega))
end Internal
namespace Internal
variable {S:Sig} {k cu cv:Nat}
theorem ykr (x:List Bool):tw cu cv x=x.map fun s=>if s then cv else cu:=by
 induction x with
 | nil=>rfl
 | cons s x ih=>rw [yee,ih,List.map_cons];cases s <;> rfl
theorem zwk {x:List Bool} {i:Nat} (hi:i<x.length):zkz (dtx (tw cu cv x)) (nint i)=some (dtx (tw cu cv ((x.drop i).take 1))):=by
 have e1:(x.drop i).take 1=[x[i]]:=by rw [List.drop_eq_getElem_cons hi];rfl
 have hl:(tx (tw cu cv x)).length=x.length:=by show (tw cu cv x).toArray.size=_;rw [List.size_toArray,zjv]
 have e2:(tx (tw cu cv x)).cps[i]?=some (if x[i] then cv else cu):=by
  show (tw cu cv x).toArray[i]?=_
  rw [List.getElem?_toArray,ykr,List.getElem?_map,List.getElem?_eq_getElem hi];rfl
 show (((seqIndex? (i:Int) (tx (tw cu cv x)).length).bind ((tx (tw cu cv x)).cps[·]?)).map fun c=>PyData.str ⟨#[c]⟩)=_
 have e3:seqIndex? (i:Int) (tx (tw cu cv x)).length=some i:=by
  rw [hl]
  unfold seqIndex?
  simp only [show ¬ ((i:Int)<0) by omega,if_false]
  rw [if_pos (by simp only [Bool.and_eq_true,decide_eq_true_eq];omega),Int.toNat_natCast]
 rw [e3,e1]
 show ((tx (tw cu cv x)).cps[i]?).map _=_
 rw [e2]
 cases x[i] <;> rfl
noncomputable abbrev eD (k cu cv:Nat) (e:List Bool × List Bool):D:=.list [dtx (ww k cu cv e.1),dtx (ww k cu cv e.2)]
theorem zvx {x:List Bool} {i:Nat} (hi:i<x.length):(x.drop i).take 1∈[[false],[true]]:=by
 rw [List.drop_eq_getElem_cons hi]
 show [x[i]]∈_
 cases x[i]
 ·exact .head _
 ·exact .tail _ (.head _)
theorem yhg (a b:Nat):((a:Int)-b-(1:Nat)).toNat=a-b-1:=by
 rw [Int.sub_sub,← Int.natCast_add,Int.toNat_sub,Nat.sub_sub]
theorem zvk {a b:Nat} (h:a≤100) (h2:b≤100:=by assumption):(a:Int)-b≤1000000 ∧ -1000000≤(a:Int)-b:=by omega
theorem ybo {x:List Bool} (h:x≠[]):(x.drop (x.length-1)).take 1=x.drop (x.length-1) :=
 List.take_of_length_le (by rw [List.length_drop,Nat.sub_sub_self (List.length_pos_iff.mpr h)];exact Nat.le_refl 1)
theorem ysl (a s b:List Nat):dotJ [a,s,b]=a++D3++s++D3++b:=by simp [dotJ]
theorem ysm (a s b:List Nat):dotJ [a,s,s,b]=a++D3++s++D3++s++D3++b:=by simp [dotJ]
theorem ygh {ρ:Rho} {e1 e2 e3:E} {a s b:List Nat} (h1:ev S ρ e1=some (dtx a)) (h2:ev S ρ e2=some (dtx s)) (h3:ev S ρ e3=some (dtx b)) (l1:a.length≤1000) (l2:s.length≤1000) (l3:b.length≤1000) :
  ev S ρ (.bin .Add (.bin .Add (.bin .Add (.bin .Add e1 (.lit (.str "..."))) e2) (.lit (.str "..."))) e3)=some (dtx (dotJ [a,s,b])):=by
 have hD:D3.length=3:=rfl
 rw [ysl]
 exact zco (zco (zco (zco h1 lit3 (by omega)) h2 (by simp only [List.length_append];omega)) lit3 (by simp only [List.length_append];omega)) h3 (by simp only [List.length_append];omega)
theorem ygi {ρ:Rho} {e1 e2 e3:E} {a s b:List Nat} (h1:ev S ρ e1=some (dtx a)) (h2:ev S ρ e2=some (dtx s)) (h3:ev S ρ e3=some (dtx b)) (l1:a.length≤1000) (l2:s.length≤1000) (l3:b.length≤1000) :
  ev S ρ (.bin .Add (.bin .Add (.bin .Add (.bin .Add (.bin .Add (.bin .Add e1 (.lit (.str "..."))) e2) (.lit (.str "..."))) e2) (.lit (.str "..."))) e3)=some (dtx (dotJ [a,s,s,b])):=by
 have hD:D3.length=3:=rfl
 rw [ysm]
 exact zco (zco (zco (zco (zco (zco h1 lit3 (by omega)) h2 (by simp only [List.length_append];omega)) lit3 (by simp only [List.length_append];omega)) h2 (by simp only [List.length_append];omega)) lit3 (by simp only [List.length_append];omega)) h3 (by simp only [List.length_append];omega)
theorem ypc (ms:List Nat):zdq .Eq (.list (ms.map nint)) (.list [])=some (.bool ms.isEmpty):=by
 show (if dep 8 (.list (ms.map nint))&&dep 8 (.list []) then some (PyData.bool (PyData.eqvAll (ms.map nint) [])) else none)=_
 rw [if_pos (show (dep 8 (.list (ms.map nint))&&dep 8 (.list []))=true from Bool.and_eq_true_iff.mpr ⟨yfy 6 ms,rfl⟩)]
 cases ms <;> rfl
section
variable (F:Facts S) (Q:Two k cu cv) (y:Sync (wr k cu) (wr k cv)) {c:List (List Bool)} {dr:D} (Dd:Dr k cu cv (c++[[false],[true]]) dr) (hb:Bd 100 c) (hne:∀ x∈c,x≠[]) {t:List Bool} (ht:t.length≤100) {ρ:Rho}
include F Q y Dd hb hne ht
theorem zf1s (g70:ρ.get 70=some dr) (g52:ρ.get 52=some (txs cu cv c)):ex S ρ zf1=some (.next (ρ.set 87 (.list (c.map fun x=>eD k cu cv (zan x))))):=by
 refine zao (zbt (l:=c) (i:=fun x=>dtx (tw cu cv x)) (bi (zaa g52) rfl) fun x m=>⟨(ρ.del ([3]++[])).set 3 (dtx (tw cu cv x)),rfl, ?_⟩)
 have hp:=List.length_pos_iff.mpr (hne x m)
 have q3:ev S ((ρ.del ([3]++[])).set 3 (dtx (tw cu cv x))) (.var 3)=some (dtx (tw cu cv x)):=zaa zag
 have q70:ev S ((ρ.del ([3]++[])).set 3 (dtx (tw cu cv x))) (.var 70)=some dr:=zaa (zac (by decide) (zau (by decide) g70))
 have s1:=zbf q70 (zbf q3 (zai (d:=nint 0)) (zwk hp)) (Dd.at_ _ (List.mem_append_right _ (zvx hp)))
 have s2:=zbf q70 (zbf q3 (zaf (zca q3) (zai (d:=nint 1)) (zde hp)) (zwk (show x.length-1<x.length by omega))) (Dd.at_ _ (List.mem_append_right _ (zvx (by omega))))
 rw [ybo (hne x m)] at s2
 exact zdz (zab s1 (zab s2 zah)) (nle rfl)
theorem zf2s (g52:ρ.get 52=some (txs cu cv c)) (g41:ρ.get 41=some (dtx (tw cu cv t))):ex S ρ zf2=some (.next (ρ.set 85 (.list (c.map fun x=>.list ((zar x t).map nint))))):=by
 refine zao (zbt (l:=c) (i:=fun x=>dtx (tw cu cv x)) (bi (zaa g52) rfl) fun x m=>⟨(ρ.del ([3]++[])).set 3 (dtx (tw cu cv x)),rfl, ?_⟩)
 have hx:=hb x m
 generalize hρ':(ρ.del ([3]++[])).set 3 (dtx (tw cu cv x))=ρ'
 have q3:ρ'.get 3=some (dtx (tw cu cv x)):=by rw [← hρ'];exact zag
 have q41:ρ'.get 41=some (dtx (tw cu cv t)):=by rw [← hρ'];exact zac (by decide) (zau (by decide) g41)
 have src:=yan (S:=S) (ρ:=ρ') (e1:=.lit (.int 1)) (e:=.bin .Sub (.bf .len (.cons (.var 3) .nil)) (.bf .len (.cons (.var 41) .nil))) (a:=1) (b:=(x.length:Int)-t.length) zai (zaf (zca (zaa q3)) (zca (zaa q41)) rfl) (zvk hx).1 (zvk hx).2 (by decide)
 rw [yhg] at src
 exact zdl (S:=S) (ρ:=ρ') (elt:=.var 63) (c:=.cmp .Eq (.slc (.var 3) (.yes (.var 63)) (.yes (.bin .Add (.var 63) (.bf .len (.cons (.var 41) .nil)))) .no) (.var 41)) (tg:=[63]) (i:=nint) (g:=nint) (p:=fun k=>(x.drop k).take t.length==t) src fun j _=>by
  have r3:=zaa (S:=S) (zac (ρ:=ρ'.del ([63]++[])) (n:=3) (k:=63) (e:=nint j) (by decide) (zau (by decide) q3))
  have r41:=zaa (S:=S) (zac (ρ:=ρ'.del ([63]++[])) (n:=41) (k:=63) (e:=nint j) (by decide) (zau (by decide) q41))
  have r63:=zaa (S:=S) (zag (ρ:=ρ'.del ([63]++[])) (n:=63) (d:=nint j))
  have:=zej r3 (zct r63) (zct (zaf r63 (zca r41) (zea _ _))) zds ydm
  rw [Nat.add_sub_cancel_left] at this
  exact ⟨_,rfl,zam this r41 (ygc (Two.code_ne Q) _ _),fun _=>r63⟩
theorem yeb {ρ':Rho} {x:List Bool} {e:List Bool × List Bool} (m:x∈c) (h1:e.1.length≤100) (h2:e.2.length≤100) (q70:ρ'.get 70=some dr) (q83:ρ'.get 83=some (dtx (ww k cu cv t))) (q3:ρ'.get 3=some (dtx (tw cu cv x))) (q86:ρ'.get 86=some (eD k cu cv e)) :
  ev S ρ' (.call 32 (.cons (.bin .Add (.bin .Add (.bin .Add (.bin .Add (.sub (.var 86) (.lit (.int 0))) (.lit (.str "..."))) (.var 83)) (.lit (.str "..."))) (.sub (.var 86) (.lit (.int 1)))) (.cons (.sub (.var 70) (.var 3)) .nil)))=some (.bool (zba e x t)) :=
 zav (zab (ygh (zbf (zaa q86) (zai (d:=nint 0)) (zgr rfl)) (zaa q83) (zbf (zaa q86) (zai (d:=nint 1)) (zgr rfl)) (Nat.le_trans (Q.len6 h1) (by decide)) (Nat.le_trans (Q.len6 ht) (by decide)) (Nat.le_trans (Q.len6 h2) (by decide)))
  (zab (zbf (zaa q70) (zaa q3) (Dd.at_ x (List.mem_append_left _ m))) zah)) (Q.dots F y (p:=e.1) (ms:=[t]) (q:=e.2) (Nat.le_trans h1 (by decide)) (Nat.le_trans h2 (by decide)) (fun z m=>by rw [msp m];exact Nat.le_trans ht (by decide)) (nle rfl))
theorem zoa {x:List Bool} (m:x∈c):(zan x).1.length≤100∧(zan x).2.length≤100:=by
 have:=hb x m
 unfold zan
 exact ⟨Nat.le_trans (List.length_take_le' _ _) this,Nat.le_trans (znz _ _) this⟩
theorem zf3s (g70:ρ.get 70=some dr) (g52:ρ.get 52=some (txs cu cv c)) (g83:ρ.get 83=some (dtx (ww k cu cv t))) (g87:ρ.get 87=some (.list (c.map fun x=>eD k cu cv (zan x)))) (nt:NT ρ):ex S ρ zf3=some (.next (ρ.set 68 (.list (c.map fun x=>.bool (zba (zan x) x t))))):=by
 refine zao (zbt (l:=c) (i:=fun x=>.tuple [dtx (tw cu cv x),eD k cu cv (zan x)]) (zhb nt (zaa g52) (zaa g87) (zbi fun _ _=>rfl) (zbi fun _ _=>rfl)) (fun x m=>⟨((ρ.del ([3,86]++[])).set 3 (dtx (tw cu cv x))).set 86 (eD k cu cv (zan x)),rfl, ?_⟩) (by rw [Bool.or_eq_true];exact .inr (zbi fun _ _=>rfl)))
 obtain ⟨h1,h2⟩:=zoa F Q y Dd hb hne ht m
 exact yeb F Q y Dd hb hne ht m h1 h2 (zac (by decide) (zac (by decide) (by rw [Rho.get_del,if_neg (by decide)];exact g70))) (zac (by decide) (zac (by decide) (by rw [Rho.get_del,if_neg (by decide)];exact g83))) (zac (by decide) zag) zag
theorem zf4s (hw:∀ x∈c,zmh t x=true) (g68:ρ.get 68=some (.list (c.map fun x=>.bool (zba (zan x) x t)))) (g85:ρ.get 85=some (.list (c.map fun x=>.list ((zar x t).map nint)))) (nt:NT ρ):ex S ρ zf4=some (.next ρ):=by
 have key:=zdl (S:=S) (ρ:=ρ) (elt:=.var 58) (c:=.bop .Or (.cons (.bop .And (.cons (.cmp .IsNot (.var 58) (.lit (.bool true))) (.cons (.cmp .IsNot (.var 58) (.lit (.bool false))) .nil))) (.cons (.bop .And (.cons (.var 58) (.cons (.cmp .Eq (.var 67) (.list .nil)) .nil))) .nil))) (tg:=[58,67]) (src:=.zip (.cons (.var 68) (.cons (.var 85) .nil)))
  (l:=c) (i:=fun x=>.tuple [.bool (zba (zan x) x t), .list ((zar x t).map nint)]) (g:=fun x=>.none) (p:=fun _=>false) (zhb nt (zaa g68) (zaa g85) (zbi fun _ _=>rfl) (zbi fun x _=>zbi fun _ _=>rfl)) (fun x m=>by
   have q58:(((ρ.del ([58,67]++[])).set 58 (.bool (zba (zan x) x t))).set 67 (.list ((zar x t).map nint))).get 58=some (.bool (zba (zan x) x t)):=zac (by decide) zag
   refine ⟨((ρ.del ([58,67]++[])).set 58 (.bool (zba (zan x) x t))).set 67 (.list ((zar x t).map nint)),rfl, ?_,fun h=>nomatch h⟩
   refine bi (zvs q58) (bi (x:=false) ?_ rfl)
   have e1:evT S (((ρ.del ([58,67]++[])).set 58 (.bool (zba (zan x) x t))).set 67 (.list ((zar x t).map nint))) (.var 58)=some (zba (zan x) x t):=bi q58 rfl
   have e2:evT S (((ρ.del ([58,67]++[])).set 58 (.bool (zba (zan x) x t))).set 67 (.list ((zar x t).map nint))) (.cmp .Eq (.var 67) (.list .nil))=some (zar x t).isEmpty:=zam (zaa zag) rfl (ypc _)
   have hx:=hw x m
   unfold zmh at hx
   generalize (((ρ.del ([58,67]++[])).set 58 (.bool (zba (zan x) x t))).set 67 (.list ((zar x t).map nint)))=ρ' at e1 e2
   cases hq:zba (zan x) x t with
   | false=>rw [hq] at e1;exact bi e1 rfl
   | true =>
    rw [hq] at e1 hx
    have:(zar x t).isEmpty=false:=by
     rw [Bool.not_true,Bool.false_or,Bool.and_eq_true,Bool.not_eq_true'] at hx
     exact hx.1
    rw [this] at e2
    exact bi e1 (bi e2 rfl)) (by rw [List.filter_eq_nil_iff.mpr fun _ _=>Bool.false_ne_true];exact Bool.or_true _)
 rw [List.filter_eq_nil_iff.mpr fun _ _=>Bool.false_ne_true] at key
 exact zfa (zam key rfl rfl) rfl
theorem zxu (x:List Bool):(zar x t).length≤x.length:=Nat.le_trans (List.length_filter_le _ _) (by rw [List.length_map,List.length_range];exact Nat.le_trans (Nat.sub_le _ _) (Nat.sub_le _ _))
theorem yat:(c.flatMap fun x=>if zba (zan x) x t=true then ((zar x t).filter fun _=>true).map fun j=>dtx (tw cu cv (x.take j++x.drop (j+t.length))) else [])=(zcj c t).map fun f=>dtx (tw cu cv f):=by
 unfold zcj
 rw [List.map_flatMap]
 refine congrArg (fun f=>c.flatMap f) (funext fun x=>?_)
 by_cases q:zba (zan x) x t=true
 ·rw [if_pos q,if_pos q,List.filter_eq_self.mpr fun _ _=>rfl,List.map_map];rfl
 ·rw [if_neg q,if_neg q];rfl
theorem zf5s (hl:c.length≤100) (g52:ρ.get 52=some (txs cu cv c)) (g41:ρ.get 41=some (dtx (tw cu cv t))) (g68:ρ.get 68=some (.list (c.map fun x=>.bool (zba (zan x) x t)))) (g85:ρ.get 85=some (.list (c.map fun x=>.list ((zar x t).map nint)))) (nt:NT ρ) :
  ex S ρ zf5=some (.next (ρ.set 82 (txs cu cv (zcj c t)))):=by
 have hfm:=yat F Q y Dd hb hne ht
 have hfl:=zeb (l:=c) (f:=fun x=>if zba (zan x) x t=true then ((zar x t).filter fun _=>true).map fun j=>dtx (tw cu cv (x.take j++x.drop (j+t.length))) else []) (n:=100) fun x m=>by
  split
  ·rw [List.length_map]
   exact Nat.le_trans (List.length_filter_le _ _) (Nat.le_trans (zxu F Q y Dd hb hne ht x) (hb x m))
  ·exact Nat.zero_le _
 refine zao ?_
 have key:=zus (S:=S) (ρ:=ρ) (elt:=.bin .Add (.slc (.var 3) .no (.yes (.var 63)) .no) (.slc (.var 3) (.yes (.bin .Add (.var 63) (.bf .len (.cons (.var 41) .nil)))) .no .no)) (tg:=[3,67,58]) (tg2:=[63]) (src:=.zip (.cons (.var 52) (.cons (.var 85) (.cons (.var 68) .nil)))) (src2:=.e (.var 67)) (ifs:=.cons (.var 58) .nil) (ifs2:=.nil)
  (l:=c) (i:=fun x=>.tuple [dtx (tw cu cv x), .list ((zar x t).map nint), .bool (zba (zan x) x t)]) (q:=fun x=>zba (zan x) x t) (l2:=fun x=>zar x t) (i2:=fun _ j=>nint j) (p:=fun _ _=>true) (g:=fun x j=>dtx (tw cu cv (x.take j++x.drop (j+t.length))))
  (zou nt (zaa g52) (zaa g85) (zaa g68) (zbi fun _ _=>rfl) (zbi fun x _=>zbi fun _ _=>rfl) (zbi fun _ _=>rfl)) (fun x m=>by
   have hx:=hb x m
   refine ⟨(((ρ.del ([3,67,58]++([63]++[]))).set 3 (dtx (tw cu cv x))).set 67 (.list ((zar x t).map nint))).set 58 (.bool (zba (zan x) x t)),rfl,yab (bi zag rfl),fun _=>⟨bi (x:=.list ((zar x t).map nint)) (zaa (zac (by decide) zag)) rfl,fun j _=>⟨_,rfl,rfl,fun _=>?_⟩⟩⟩
   have r63:=zaa (S:=S) (zag (ρ:=(((ρ.del ([3,67,58]++([63]++[]))).set 3 (dtx (tw cu cv x))).set 67 (.list ((zar x t).map nint))).set 58 (.bool (zba (zan x) x t))) (n:=63) (d:=nint j))
   have r3:ev S (((((ρ.del ([3,67,58]++([63]++[]))).set 3 (dtx (tw cu cv x))).set 67 (.list ((zar x t).map nint))).set 58 (.bool (zba (zan x) x t))).set 63 (nint j)) (.var 3)=some (dtx (tw cu cv x)):=zaa (zac (by decide) (zac (by decide) (zac (by decide) zag)))
   have r41:ev S (((((ρ.del ([3,67,58]++([63]++[]))).set 3 (dtx (tw cu cv x))).set 67 (.list ((zar x t).map nint))).set 58 (.bool (zba (zan x) x t))).set 63 (nint j)) (.var 41)=some (dtx (tw cu cv t)):=zaa (zac (by decide) (zac (by decide) (zac (by decide) (zac (by decide) (by rw [Rho.get_del,if_neg (by decide)];exact g41)))))
   have a1:=zej r3 zds (zct r63) zds zwe
   have a2:=zej r3 (zct (zaf r63 (zca r41) (zea _ _))) zds zds zot
   rw [ztn] at a1
   rw [zpb] at a2
   exact znl a1 a2 (Nat.le_trans (List.length_take_le' _ _) (Nat.le_trans hx (by decide))) (Nat.le_trans (znz _ _) (Nat.le_trans hx (by decide)))) (Nat.le_trans hfl (Nat.le_trans (Nat.mul_le_mul_right 100 hl) (by decide))) (by rw [hfm,Bool.or_eq_true];exact .inr (zbi fun _ _=>rfl))
 rw [hfm] at key
 exact key
end
end Internal
namespace Internal
variable {S:Sig} {k cu cv:Nat}
theorem zpu:∀ l:List Bool,PyData.eqvAll (l.map PyData.bool) (l.map PyData.bool)=true
 | []=>rfl
 | b::l=>Bool.and_eq_true_iff.mpr ⟨by cases b <;> rfl,zpu l⟩
theorem zjf (l:List Bool):zdq .NotEq (.list (l.map PyData.bool)) (.list (l.map PyData.bool))=some (.bool false):=zkb (zpr l) (zpu l)
theorem yso (c:Code (wr k cu) (wr k cv)) (a b:List Bool × List Bool):zdq .Eq (eD k cu cv a) (eD k cu cv b)=some (.bool (a==b)):=by
 show (if dep 8 (eD k cu cv a)&&dep 8 (eD k cu cv b) then some (PyData.bool (PyData.eqv (eD k cu cv a) (eD k cu cv b))) else none)=_
 rw [if_pos (show (dep 8 (eD k cu cv a)&&dep 8 (eD k cu cv b))=true from rfl)]
 have e:PyData.eqv (eD k cu cv a) (eD k cu cv b)=(PyData.eqv (dtx (ww k cu cv a.1)) (dtx (ww k cu cv b.1))&&(PyData.eqv (dtx (ww k cu cv a.2)) (dtx (ww k cu cv b.2))&&true)):=by
  simp only [PyData.eqv,PyData.eqvAll]
 have q:∀ x z:List Bool,(ww k cu cv x==ww k cu cv z)=(x==z):=fun x z=>by
  rw [Bool.eq_iff_iff,beq_iff_eq,beq_iff_eq];exact c.inj
 rw [e,zui,zui,q,q,Bool.and_true];rfl
theorem yec {e:List Bool × List Bool} {x t:List Bool} (h1:e.1.length=1) (h2:e.2.length=1) (hx:x≠[]):zba e x t=(zba (zan x) x t&&zan x==e):=by
 have hp:=List.length_pos_iff.mpr hx
 by_cases q:zan x=e
 ·rw [q,beq_self_eq_true,Bool.and_true]
 ·rw [beq_eq_false_iff_ne.mpr q,Bool.and_false]
  cases z:zba e x t with
  | false=>rfl
  | true =>
   refine absurd ?_ q
   unfold zba ellR at z
   simp only [Bool.and_eq_true] at z
   obtain ⟨⟨⟨z1,z2⟩,_⟩,_⟩:=z
   have a1:=List.prefix_iff_eq_take.mp (List.isPrefixOf_iff_prefix.mp z1)
   have a2:=List.suffix_iff_eq_drop.mp (List.isSuffixOf_iff_suffix.mp z2)
   rw [h1] at a1
   rw [h2] at a2
   unfold zan
   rw [← a1,← a2]
theorem ygb {x:List Bool} (hx:x≠[]):(zan x).1.length=1∧(zan x).2.length=1:=by
 have hp:=List.length_pos_iff.mpr hx
 unfold zan
 exact ⟨by rw [List.length_take,Nat.min_eq_left hp],by rw [List.length_drop,Nat.sub_sub_self hp]⟩
noncomputable def zho (c:List (List Bool)):List (List Bool × List Bool):=c.zip (c.drop 1++c.take 1)
theorem ztg {α:Type} (c:List α):(c.drop 1++c.take 1).length=c.length:=by
 rw [List.length_append,Nat.add_comm,← List.length_append,List.take_append_drop]
theorem yhi (c:List (List Bool)):(zho c).map Prod.fst=c:=by
 unfold zho
 exact List.map_fst_zip (Nat.le_of_eq (ztg c).symm)
theorem yhk (c:List (List Bool)):(zho c).map Prod.snd=c.drop 1++c.take 1:=by
 unfold zho
 exact List.map_snd_zip (Nat.le_of_eq (ztg c))
theorem zvr {c:List (List Bool)} {z:List Bool × List Bool} (m:z∈zho c):z.1∈c∧z.2∈c:=by
 obtain ⟨a,b⟩:=List.of_mem_zip (show (z.1,z.2)∈c.zip (c.drop 1++c.take 1) from m)
 exact ⟨a,(map2 b).elim List.mem_of_mem_drop List.mem_of_mem_take⟩
theorem ybv {β:Type} (c:List (List Bool)) (f:List Bool→β):c.map f=(zho c).map fun z=>f z.1:=by
 conv=>lhs;rw [← yhi c]
 rw [List.map_map];rfl
theorem yms {β:Type} (c:List (List Bool)) (f:List Bool→β):(c.map f).drop 1++(c.map f).take 1=(zho c).map fun z=>f z.2:=by
 rw [← List.map_drop,← List.map_take,← List.map_append,← yhk,List.map_map];rfl
theorem yig {t:List Bool} (h:t≠[]):ellR t [] t t=false∧ellR t [] t (t++t)=true:=by
 have hp:=List.length_pos_iff.mpr h
 unfold ellR
 refine ⟨?_, ?_⟩
 ·rw [decide_eq_false (by omega),Bool.and_false,Bool.false_and]
 ·rw [List.isPrefixOf_iff_prefix.mpr (List.prefix_append t t),List.isSuffixOf_iff_suffix.mpr (List.suffix_append t t),List.length_append,decide_eq_true (Nat.le_refl _)];rfl
section
variable (F:Facts S) (Q:Two k cu cv) (y:Sync (wr k cu) (wr k cv)) {c:List (List Bool)} {dr:D} (Dd:Dr k cu cv (c++[[false],[true]]) dr) (hb:Bd 100 c) (hne:∀ x∈c,x≠[]) {t:List Bool} (ht:t.length≤100) {ρ:Rho}
include F Q y Dd hb hne ht
theorem zf7s (hl:c.length≤100) (g87:ρ.get 87=some (.list (c.map fun x=>eD k cu cv (zan x)))):ex S ρ zf7=some (.next (ρ.set 90 (.list ((zho c).map fun z=>eD k cu cv (zan z.2))))):=by
 refine zao ?_
 rw [← yms c (fun x=>eD k cu cv (zan x))]
 exact yah (zej (zaa g87) (zct (zai (d:=nint 1))) zds zds ydk) (zej (zaa g87) zds (zct (zai (d:=nint 1))) zds ydl) (by rw [← List.length_append,ztg,List.length_map];exact Nat.le_trans hl (by decide))
theorem zf8s (g70:ρ.get 70=some dr) (g52:ρ.get 52=some (txs cu cv c)) (g83:ρ.get 83=some (dtx (ww k cu cv t))) (g90:ρ.get 90=some (.list ((zho c).map fun z=>eD k cu cv (zan z.2)))) (nt:NT ρ):ex S ρ zf8=some (.next (ρ.set 88 (.list ((zho c).map fun z=>.bool (zba (zan z.2) z.1 t))))):=by
 rw [txs,ybv] at g52
 refine zao (zbt (l:=zho c) (i:=fun z=>.tuple [dtx (tw cu cv z.1),eD k cu cv (zan z.2)]) (zhb nt (zaa g52) (zaa g90) (zbi fun _ _=>rfl) (zbi fun _ _=>rfl)) (fun z m=>⟨((ρ.del ([3,86]++[])).set 3 (dtx (tw cu cv z.1))).set 86 (eD k cu cv (zan z.2)),rfl, ?_⟩) (by rw [Bool.or_eq_true];exact .inr (zbi fun _ _=>rfl)))
 obtain ⟨m1,m2⟩:=zvr m
 obtain ⟨h1,h2⟩:=zoa F Q y Dd hb hne ht m2
 exact yeb F Q y Dd hb hne ht m1 h1 h2 (zac (by decide) (zac (by decide) (by rw [Rho.get_del,if_neg (by decide)];exact g70))) (zac (by decide) (zac (by decide) (by rw [Rho.get_del,if_neg (by decide)];exact g83))) (zac (by decide) zag) zag
theorem zf9s (g68:ρ.get 68=some (.list (c.map fun x=>.bool (zba (zan x) x t)))) (g87:ρ.get 87=some (.list (c.map fun x=>eD k cu cv (zan x)))) (g90:ρ.get 90=some (.list ((zho c).map fun z=>eD k cu cv (zan z.2)))) (g88:ρ.get 88=some (.list ((zho c).map fun z=>.bool (zba (zan z.2) z.1 t)))) (nt:NT ρ):ex S ρ zf9=some (.next ρ):=by
 rw [ybv] at g68 g87
 have key:=zbt (S:=S) (ρ:=ρ) (elt:=.bop .And (.cons (.var 58) (.cons (.cmp .Eq (.var 89) (.var 86)) .nil))) (tg:=[58,89,86]) (src:=.zip (.cons (.var 68) (.cons (.var 87) (.cons (.var 90) .nil)))) (l:=zho c) (i:=fun z=>.tuple [.bool (zba (zan z.1) z.1 t),eD k cu cv (zan z.1),eD k cu cv (zan z.2)]) (g:=fun z=>.bool (zba (zan z.2) z.1 t))
  (zou nt (zaa g68) (zaa g87) (zaa g90) (zbi fun _ _=>rfl) (zbi fun _ _=>rfl) (zbi fun _ _=>rfl)) (fun z m=>by
   obtain ⟨m1,m2⟩:=zvr m
   obtain ⟨h1,h2⟩:=ygb (hne _ m2)
   refine ⟨(((ρ.del ([58,89,86]++[])).set 58 (.bool (zba (zan z.1) z.1 t))).set 89 (eD k cu cv (zan z.1))).set 86 (eD k cu cv (zan z.2)),rfl, ?_⟩
   have q58:((((ρ.del ([58,89,86]++[])).set 58 (.bool (zba (zan z.1) z.1 t))).set 89 (eD k cu cv (zan z.1))).set 86 (eD k cu cv (zan z.2))).get 58=some (.bool (zba (zan z.1) z.1 t)):=zac (by decide) (zac (by decide) zag)
   have e2:=zoe (S:=S) (o:=.Eq) (zaa (zac (ρ:=((ρ.del ([58,89,86]++[])).set 58 (.bool (zba (zan z.1) z.1 t))).set 89 (eD k cu cv (zan z.1))) (n:=89) (k:=86) (e:=eD k cu cv (zan z.2)) (by decide) zag)) (zaa zag) (yso Q.code (zan z.1) (zan z.2))
   rw [yec h1 h2 (hne _ m1)]
   generalize (((ρ.del ([58,89,86]++[])).set 58 (.bool (zba (zan z.1) z.1 t))).set 89 (eD k cu cv (zan z.1))).set 86 (eD k cu cv (zan z.2))=ρ' at q58 e2
   cases hq:zba (zan z.1) z.1 t with
   | false=>rw [hq] at q58;exact bi (zaa q58) rfl
   | true=>rw [hq] at q58;exact bi (zaa q58) e2) (by rw [Bool.or_eq_true];exact .inr (zbi fun _ _=>rfl))
 have sb:=zjf ((zho c).map fun z=>zba (zan z.2) z.1 t)
 rw [List.map_map] at sb
 exact zfa (zam (zaa g88) key sb) rfl
theorem yuf (g70:ρ.get 70=some dr) (g52:ρ.get 52=some (txs cu cv c)) (g83:ρ.get 83=some (dtx (ww k cu cv t))) (g87:ρ.get 87=some (.list (c.map fun x=>eD k cu cv (zan x)))) (g68:ρ.get 68=some (.list (c.map fun x=>.bool (zba (zan x) x t)))) (nt:NT ρ) :
  ex S ρ zf10=some (.next (ρ.set 84 (.list ((c.filter fun x=>zba (zan x) x t).map fun x=>.bool (znm x t))))):=by
 refine zao (zdl (l:=c) (i:=fun x=>.tuple [dtx (tw cu cv x),eD k cu cv (zan x), .bool (zba (zan x) x t)]) (p:=fun x=>zba (zan x) x t) (zou nt (zaa g52) (zaa g87) (zaa g68) (zbi fun _ _=>rfl) (zbi fun _ _=>rfl) (zbi fun _ _=>rfl)) (fun x m=>⟨(((ρ.del ([3,86,58]++[])).set 3 (dtx (tw cu cv x))).set 86 (eD k cu cv (zan x))).set 58 (.bool (zba (zan x) x t)),rfl,bi zag rfl,fun _=>?_⟩) (by rw [Bool.or_eq_true];exact .inr (zbi fun _ _=>rfl)))
 obtain ⟨h1,h2⟩:=zoa F Q y Dd hb hne ht m
 generalize hρ':(((ρ.del ([3,86,58]++[])).set 3 (dtx (tw cu cv x))).set 86 (eD k cu cv (zan x))).set 58 (.bool (zba (zan x) x t))=ρ'
 have K:∀ {n:Nat} {d:D},([3,86,58]++[]).contains n=false→ρ.get n=some d→ρ'.get n=some d:=fun {n d} h g=>by
  have h':n≠3∧n≠86∧n≠58:=by
   refine ⟨fun e=>?_,fun e=>?_,fun e=>?_⟩ <;> (subst e;cases h)
  rw [← hρ']
  exact zac h'.2.2 (zac h'.2.1 (zac h'.1 (by rw [Rho.get_del,if_neg (by rw [h];exact Bool.false_ne_true)];exact g)))
 have q86:ρ'.get 86=some (eD k cu cv (zan x)):=by rw [← hρ'];exact zac (by decide) zag
 have q3:ρ'.get 3=some (dtx (tw cu cv x)):=by rw [← hρ'];exact zac (by decide) (zac (by decide) zag)
 exact zav (zab (ygi (zbf (zaa q86) (zai (d:=nint 0)) (zgr rfl)) (zaa (K rfl g83)) (zbf (zaa q86) (zai (d:=nint 1)) (zgr rfl)) (Nat.le_trans (Q.len6 h1) (by decide)) (Nat.le_trans (Q.len6 ht) (by decide)) (Nat.le_trans (Q.len6 h2) (by decide)))
  (zab (zbf (zaa (K rfl g70)) (zaa q3) (Dd.at_ x (List.mem_append_left _ m))) zah)) (Q.dots F y (p:=(zan x).1) (ms:=[t,t]) (q:=(zan x).2) (Nat.le_trans h1 (by decide)) (Nat.le_trans h2 (by decide)) (fun z m=>by
   rcases mcp m with rfl | m
   ·exact Nat.le_trans ht (by decide)
   ·rw [msp m];exact Nat.le_trans ht (by decide)) (nle rfl))
omit F Q y Dd hb hne ht in
theorem ymo (a b c:Nat):(c:Int)≤(a:Int)-b↔b+c≤a:=by omega
theorem yeo {x:List Bool} (hx:zmh t x=true) (q:zba (zan x) x t=true):zar x t≠[]∧znm x t=decide ((zar x t).getD 0 0+t.length≤ypu (zar x t)):=by
 unfold zmh at hx
 rw [q,Bool.not_true,Bool.false_or,Bool.and_eq_true,Bool.not_eq_true'] at hx
 exact ⟨fun e=>(by rw [e] at hx;exact absurd hx.1 Bool.noConfusion),bqp hx.2⟩
theorem yug (hw:∀ x∈c,zmh t x=true) (g41:ρ.get 41=some (dtx (tw cu cv t))) (g68:ρ.get 68=some (.list (c.map fun x=>.bool (zba (zan x) x t)))) (g85:ρ.get 85=some (.list (c.map fun x=>.list ((zar x t).map nint)))) (g84:ρ.get 84=some (.list ((c.filter fun x=>zba (zan x) x t).map fun x=>.bool (znm x t)))) (nt:NT ρ):ex S ρ zf11=some (.next ρ):=by
 have key:=zdl (S:=S) (ρ:=ρ) (elt:=.cmp .GtE (.bin .Sub (.sub (.var 67) (.bin .Sub (.bf .len (.cons (.var 67) .nil)) (.lit (.int 1)))) (.sub (.var 67) (.lit (.int 0)))) (.bf .len (.cons (.var 41) .nil))) (c:=.var 58) (tg:=[67,58]) (src:=.zip (.cons (.var 85) (.cons (.var 68) .nil)))
  (l:=c) (i:=fun x=>.tuple [.list ((zar x t).map nint), .bool (zba (zan x) x t)]) (g:=fun x=>.bool (znm x t)) (p:=fun x=>zba (zan x) x t) (zhb nt (zaa g85) (zaa g68) (zbi fun x _=>zbi fun _ _=>rfl) (zbi fun _ _=>rfl)) (fun x m=>by
   refine ⟨((ρ.del ([67,58]++[])).set 67 (.list ((zar x t).map nint))).set 58 (.bool (zba (zan x) x t)),rfl,bi zag rfl,fun q=>?_⟩
   obtain ⟨n1,n2⟩:=yeo F Q y Dd hb hne ht (hw x m) q
   have q67:ev S (((ρ.del ([67,58]++[])).set 67 (.list ((zar x t).map nint))).set 58 (.bool (zba (zan x) x t))) (.var 67)=some (.list ((zar x t).map nint)):=zaa (zac (by decide) zag)
   have q41:ev S (((ρ.del ([67,58]++[])).set 67 (.list ((zar x t).map nint))).set 58 (.bool (zba (zan x) x t))) (.var 41)=some (dtx (tw cu cv t)):=zaa (zac (by decide) (zac (by decide) (by rw [Rho.get_del,if_neg (by decide)];exact g41)))
   have hp:=List.length_pos_iff.mpr n1
   have hle:=yai q67
   rw [List.length_map] at hle
   have at':∀ i,i<(zar x t).length→((zar x t).map nint)[i]?=some (nint ((zar x t).getD i 0)):=fun i hi=>by
    rw [List.getElem?_map,List.getD_eq_getElem?_getD,List.getElem?_eq_getElem hi];rfl
   refine zoe (zaf (o:=.Sub) (zbf q67 (zaf hle (zai (d:=nint 1)) (zde hp)) (zgr (at' _ (Nat.sub_lt hp Nat.one_pos)))) (zbf q67 (zai (d:=nint 0)) (zgr (at' 0 hp))) rfl) (zca q41) ?_
   rw [zzk,n2]
   exact congrArg (fun b=>some (PyData.bool b)) (decide_eq_decide.mpr (ymo _ _ _))) (by rw [Bool.or_eq_true];exact .inr (zbi fun _ _=>rfl))
 have sb:=zjf ((c.filter fun x=>zba (zan x) x t).map fun x=>znm x t)
 rw [List.map_map] at sb
 exact zfa (zam (zaa g84) key sb) rfl
theorem yuh (g70:ρ.get 70=some dr) (g52:ρ.get 52=some (txs cu cv c)) (g83:ρ.get 83=some (dtx (ww k cu cv t))) (g41:ρ.get 41=some (dtx (tw cu cv t))):ex S ρ zf12=some (.next ρ):=by
 have k1:=zbt (S:=S) (ρ:=ρ) (elt:=.call 32 (.cons (.var 83) (.cons (.sub (.var 70) (.var 3)) .nil))) (tg:=[3]) (src:=.e (.var 52)) (l:=c) (i:=fun x=>dtx (tw cu cv x)) (g:=fun x=>.bool (x==t)) (bi (zaa g52) rfl) fun x m=>⟨(ρ.del ([3]++[])).set 3 (dtx (tw cu cv x)),rfl,by
  have:=zav (S:=S) (zab (zaa (zac (by decide) (zau (by decide) g83))) (zab (zbf (zaa (zac (by decide) (zau (by decide) g70))) (zaa (zag (ρ:=ρ.del ([3]++[])) (n:=3) (d:=dtx (tw cu cv x)))) (Dd.at_ x (List.mem_append_left _ m))) zah)) (Q.plain F (x:=t) (g:=x))
  rw [this]
  refine congrArg (fun b=>some (PyData.bool b)) ?_
  rw [Bool.eq_iff_iff,beq_iff_eq,beq_iff_eq];exact eq_comm⟩
 have k2:=zbt (S:=S) (ρ:=ρ) (elt:=.cmp .Eq (.var 3) (.var 41)) (tg:=[3]) (src:=.e (.var 52)) (l:=c) (i:=fun x=>dtx (tw cu cv x)) (g:=fun x=>.bool (x==t)) (bi (zaa g52) rfl) fun x m=>⟨(ρ.del ([3]++[])).set 3 (dtx (tw cu cv x)),rfl,zoe (zaa zag) (zaa (zac (by decide) (zau (by decide) g41))) (ygc Q.code_ne x t)⟩
 have sb:=zjf (c.map fun x=>x==t)
 rw [List.map_map] at sb
 exact zfa (zam k1 k2 sb) rfl
theorem yui (h0:t≠[]) (g83:ρ.get 83=some (dtx (ww k cu cv t))):ex S ρ zf13=some (.next ρ):=by
 have l6:=Q.len6 ht
 have src:zdk S ρ (.e (.list (.cons (.var 83) (.cons (.bin .Add (.var 83) (.var 83)) .nil))))=some ([t,t++t].map fun x=>dtx (ww k cu cv x)):=by
  have v:=zco (zaa (S:=S) g83) (zaa g83) (by omega)
  rw [← zcf] at v
  exact bi (zdz (zab (zaa g83) (zab v zah)) (nle rfl)) rfl
 have key:=zbt (S:=S) (ρ:=ρ) (elt:=.call 32 (.cons (.bin .Add (.bin .Add (.var 83) (.lit (.str "..."))) (.var 83)) (.cons (.var 36) .nil))) (tg:=[36]) (l:=[t,t++t]) (i:=fun x=>dtx (ww k cu cv x)) (g:=fun x=>.bool (ellR t [] t x)) src fun x _=>⟨(ρ.del ([36]++[])).set 36 (dtx (ww k cu cv x)),rfl,by
  have q83:ev S ((ρ.del ([36]++[])).set 36 (dtx (ww k cu cv x))) (.var 83)=some (dtx (ww k cu cv t)):=zaa (zac (by decide) (zau (by decide) g83))
  have v:=zco (zco q83 lit3 (by show _+3≤_;omega)) q83 (by rw [List.length_append];show _+3+_≤_;omega)
  rw [← dot2] at v
  exact zav (zab v (zab (zaa zag) zah)) (Q.dots F y (p:=t) (ms:=[]) (q:=t) (by omega) (by omega) (fun _ m=>nomatch m) (nle rfl))⟩
 obtain ⟨s1,s2⟩:=yig h0
 have e:[t,t++t].map (fun x=>PyData.bool (ellR t [] t x))=[.bool false, .bool true]:=by
  show [PyData.bool (ellR t [] t t),PyData.bool (ellR t [] t (t++t))]=_
  rw [s1,s2]
 rw [e] at key
 exact zfa (zam key rfl rfl) rfl
end
theorem ydb (F:Facts S) (Q:Two k cu cv) (y:Sync (wr k cu) (wr k cv)) {c:List (List Bool)} {dr:D} (Dd:Dr k cu cv (c++[[false],[true]]) dr) (hb:Bd 100 c) (hne:∀ x∈c,x≠[]) {t:List Bool} (ht:t.length≤100) (hl:c.length≤100) (hw:∀ x∈c,zmh t x=true) :
  zbb S zfp [nint k,dr,txs cu cv c,dtx (tw cu cv t)]=some (txs cu cv (zcj c t)):=by
 refine zcv rfl ?_
 show exs S [(47,nint k),(70,dr),(52,txs cu cv c),(41,dtx (tw cu cv t))] _=_
 refine zad (ρ':=[(47,nint k),(70,dr),(52,txs cu cv c),(41,dtx (tw cu cv t)),(83,dtx (ww k cu cv t))]) (zao (zav (zab rfl (zab rfl zah)) (Q.written F (by omega)))) ?_
 refine zad (ρ':=[(47,nint k),(70,dr),(52,txs cu cv c),(41,dtx (tw cu cv t)),(83,dtx (ww k cu cv t)),(87, .list (c.map fun x=>eD k cu cv (zan x)))]) (zf1s F Q y Dd hb hne ht rfl rfl) ?_
 refine zad (ρ':=[(47,nint k),(70,dr),(52,txs cu cv c),(41,dtx (tw cu cv t)),(83,dtx (ww k cu cv t)),(87, .list (c.map fun x=>eD k cu cv (zan x))),(85, .list (c.map fun x=>.list ((zar x t).map nint)))]) (zf2s F Q y Dd hb hne ht rfl rfl) ?_
 have nt0:NT [(47,nint k),(70,dr),(52,txs cu cv c),(41,dtx (tw cu cv t)),(83,dtx (ww k cu cv t)),(87, .list (c.map fun x=>eD k cu cv (zan x))),(85, .list (c.map fun x=>.list ((zar x t).map nint)))] :=
  NT.cons rfl (NT.cons Dd.nt (NT.cons (zvt c) (NT.cons rfl (NT.cons rfl (NT.cons (zbi fun _ _=>rfl) (NT.cons (zbi fun x _=>zbi fun _ _=>rfl) rfl))))))
 refine zad (ρ':=[(47,nint k),(70,dr),(52,txs cu cv c),(41,dtx (tw cu cv t)),(83,dtx (ww k cu cv t)),(87, .list (c.map fun x=>eD k cu cv (zan x))),(85, .list (c.map fun x=>.list ((zar x t).map nint))),(68, .list (c.map fun x=>.bool (zba (zan x) x t)))]) (zf3s F Q y Dd hb hne ht rfl rfl rfl rfl nt0) ?_
 have nt1:NT [(47,nint k),(70,dr),(52,txs cu cv c),(41,dtx (tw cu cv t)),(83,dtx (ww k cu cv t)),(87, .list (c.map fun x=>eD k cu cv (zan x))),(85, .list (c.map fun x=>.list ((zar x t).map nint))),(68, .list (c.map fun x=>.bool (zba (zan x) x t)))] :=
  NT.set (n:=68) nt0 (zbi fun _ _=>rfl)
 refine zad (zf4s F Q y Dd hb hne ht hw rfl rfl nt1) ?_
 refine zad (ρ':=[(47,nint k),(70,dr),(52,txs cu cv c),(41,dtx (tw cu cv t)),(83,dtx (ww k cu cv t)),(87, .list (c.map fun x=>eD k cu cv (zan x))),(85, .list (c.map fun x=>.list ((zar x t).map nint))),(68, .list (c.map fun x=>.bool (zba (zan x) x t))),(82,txs cu cv (zcj c t))]) (zf5s F Q y Dd hb hne ht hl rfl rfl rfl rfl nt1) ?_
 have nt2:=NT.set (n:=82) nt1 (zvt (cu:=cu) (cv:=cv) (zcj c t))
 have c6:evT S [(47,nint k),(70,dr),(52,txs cu cv c),(41,dtx (tw cu cv t)),(83,dtx (ww k cu cv t)),(87, .list (c.map fun x=>eD k cu cv (zan x))),(85, .list (c.map fun x=>.list ((zar x t).map nint))),(68, .list (c.map fun x=>.bool (zba (zan x) x t))),(82,txs cu cv (zcj c t))] (.cmp .Eq (.var 41) (.lit (.str "")))=some (t==[]) :=
  zam (y:=dtx (tw cu cv [])) (zaa (n:=41) rfl) rfl (ygc Q.code_ne t [])
 by_cases h0:t=[]
 ·rw [beq_iff_eq.mpr h0] at c6
  exact zal (yjn c6 (zal (zbu rfl)))
 ·rw [beq_eq_false_iff_ne.mpr h0] at c6
  refine zad (zfa c6 rfl) ?_
  refine zad (zf7s F Q y Dd hb hne ht hl rfl) ?_
  refine zad (zf8s F Q y Dd hb hne ht rfl rfl rfl rfl (NT.set nt2 (zbi fun _ _=>rfl))) ?_
  refine zad (zf9s F Q y Dd hb hne ht rfl rfl rfl rfl (NT.set (NT.set nt2 (zbi fun _ _=>rfl)) (zbi fun _ _=>rfl))) ?_
  refine zad (yuf F Q y Dd hb hne ht rfl rfl rfl rfl rfl (NT.set (NT.set nt2 (zbi fun _ _=>rfl)) (zbi fun _ _=>rfl))) ?_
  refine zad (yug F Q y Dd hb hne ht hw rfl rfl rfl rfl (NT.set (NT.set (NT.set nt2 (zbi fun _ _=>rfl)) (zbi fun _ _=>rfl)) (zbi fun _ _=>rfl))) ?_
  refine zad (yuh F Q y Dd hb hne ht rfl rfl rfl rfl) ?_
  refine zad (yui F Q y Dd hb hne ht h0 rfl) ?_
  exact zal (zbu rfl)
end Internal
namespace Internal
variable {S:Sig} {k cu cv:Nat}
theorem yna {kv:List (Str × Str)} {k v:Str} {P:Str × Str→Prop} (h:∀ p∈kv,P p) (hk:P (k,v)):∀ p∈putS kv k v,P p:=fun p m=>by
 unfold putS at m
 by_cases c:kv.any (fun p=>decide (p.1=k))=true
 ·rw [if_pos c] at m
  obtain ⟨q,mq,rfl⟩:=mmp m
  by_cases e:q.1=k
  ·rw [if_pos e,e];exact hk
  ·rw [if_neg e];exact h q mq
 ·rw [if_neg c] at m
  rcases map2 m with m | m
  ·exact h p m
  ·rw [msp m];exact hk
theorem ycy {kv:List (Str × Str)} {k v x:Str} (h:x=k∨∃ p∈kv,p.1=x):∃ p∈putS kv k v,p.1=x:=by
 unfold putS
 by_cases c:kv.any (fun p=>decide (p.1=k))=true
 ·rw [if_pos c]
  have:∃ p∈kv,p.1=x:=by
   rcases h with rfl | h
   ·obtain ⟨p,m,e⟩:=List.any_eq_true.mp c
    exact ⟨p,m,of_decide_eq_true e⟩
   ·exact h
  obtain ⟨p,m,e⟩:=this
  refine ⟨_,List.mem_map.mpr ⟨p,m,rfl⟩, ?_⟩
  by_cases q:p.1=k
  ·rw [if_pos q];exact e
  ·rw [if_neg q];exact e
 ·rw [if_neg c]
  rcases h with rfl | ⟨p,m,e⟩
  ·exact ⟨(x,v),List.mem_append_right _ (.head _),rfl⟩
  ·exact ⟨p,List.mem_append_left _ m,e⟩
noncomputable abbrev prD {α:Type} (K V:α→Str) (a:α):D:=.tuple [.str (K a), .str (V a)]
theorem zoj {α:Type} {K V:α→Str} {P:Str × Str→Prop}:∀ {l:List α} {acc:List (Str × Str)},(∀ a∈l,P (K a,V a))→(∀ p∈acc,P p)→∀ p∈(l.map (prD K V)).foldl zox acc,P p
 | [],_,_,h=>h
 | a::l,acc,h,h'=>zoj (l:=l) (acc:=putS acc (K a) (V a)) (fun b m=>h b (.tail _ m)) (yna h' (h a (.head _)))
theorem zux {α:Type} {K V:α→Str} {x:Str}:∀ {l:List α} {acc:List (Str × Str)},((∃ a∈l,K a=x)∨∃ p∈acc,p.1=x)→∃ p∈(l.map (prD K V)).foldl zox acc,p.1=x
 | [],_,h=>h.elim (fun ⟨_,m,_⟩=>nomatch m) id
 | a::l,acc,h=>zux (l:=l) (acc:=putS acc (K a) (V a)) (by
  rcases h with ⟨b,m,e⟩ | h
  ·rcases mcp m with rfl | m
   ·exact .inr (ycy (.inl e.symm))
   ·exact .inl ⟨b,m,e⟩
  ·exact .inr (ycy (.inr h)))
theorem zvo {k v:Str}:∀ {kv:List (Str × Str)},(∀ p∈kv,p.1=k→p.2=v)→(∃ p∈kv,p.1=k)→PySem.Spec.lookup (.str k) (kv.map fun p=>(PyData.str p.1,PyData.str p.2))=some (.str v)
 | [],_,⟨_,m,_⟩=>nomatch m
 | (y,z)::r,h,h'=>by
  have e:PySem.Spec.lookup (.str k) (((y,z)::r).map fun p=>(PyData.str p.1,PyData.str p.2))=if PySem.Spec.same (.str y) (.str k) then some (.str z) else PySem.Spec.lookup (.str k) (r.map fun p=>(PyData.str p.1,PyData.str p.2)):=rfl
  rw [e]
  by_cases q:y=k
  ·rw [if_pos (by rw [q];show (_:Str)==_;simp)]
   exact congrArg (fun x=>some (PyData.str x)) (h _ (.head _) q)
  ·rw [if_neg (fun w:PySem.Spec.same (.str y) (.str k)=true=>q (bqp (show ((y:Str)==k)=true from w)))]
   refine zvo (fun p m=>h p (.tail _ m)) ?_
   obtain ⟨p,m,e⟩:=h'
   rcases mcp m with rfl | m
   ·exact absurd e q
   ·exact ⟨p,m,e⟩
theorem yqd:∀ kv:List (Str × Str),zbm (.dict (kv.map fun p=>(.str p.1, .str p.2)))=true
 | []=>rfl
 | p::kv=>yqd kv
theorem yag {α:Type} {ρ:Rho} {ke ve:E} {n:Nat} {src:Src} {l:List α} {i:α→D} {K V:α→Str} (hs:zdk S ρ src=some (l.map i)) (hl:l.length≤1000)
  (h:∀ a∈l,ev S ((ρ.del ([n]++[])).set n (i a)) ke=some (.str (K a))∧ev S ((ρ.del ([n]++[])).set n (i a)) ve=some (.str (V a))∧sok (.str (K a))=true∧sok (.str (V a))=true) (hz:zeu src=false:=by rfl) :
  ev S ρ (.dcomp ke ve (.cons [n] src .nil .nil))=some (.dict ((znx (l.map (prD K V))).map fun p=>(.str p.1, .str p.2))):=by
 refine bi (x:=l.map (prD K V)) (bi hs ?_) (if_pos ?_)
 ·have key:=zgg (f:=fun it=>(zcn (ρ.del ([n]++[])) [n] it).bind fun ρ'=>(ziw S ρ' .And .nil).bind fun b=>bif b then evGs S ρ' ρ' (fun ρ'=>strO (ev S ρ' ke) fun a=>strO (ev S ρ' ve) fun b=>if sok (.str a)&&sok (.str b) then some (.tuple [.str a, .str b]) else none) .nil else some []) (l:=l) (i:=i) (g:=prD K V) (p:=fun _=>true) fun a m=>by
   obtain ⟨h1,h2,h3,h4⟩:=h a m
   refine bi (x:=(ρ.del ([n]++[])).set n (i a)) rfl (bi (x:=true) rfl ?_)
   show ((strO (ev S ((ρ.del ([n]++[])).set n (i a)) ke) fun u=>strO (ev S ((ρ.del ([n]++[])).set n (i a)) ve) fun v=>if sok (.str u)&&sok (.str v) then some (PyData.tuple [.str u, .str v]) else none).map fun d=>[d])=_
   rw [si h1 (si h2 (if_pos (Bool.and_eq_true_iff.mpr ⟨h3,h4⟩)))];rfl
  rw [List.filter_eq_self.mpr fun _ _=>rfl] at key
  exact key
 ·refine Bool.and_eq_true_iff.mpr ⟨decide_eq_true (by rw [List.length_map];exact hl), ?_⟩
  show (!zeu src)=true
  rw [hz];rfl
noncomputable abbrev kvR (k cu cv:Nat) (l:List (List Bool)):List (Str × Str):=znx (l.map (prD (fun x=>tx (tw cu cv x)) fun x=>tx (ww k cu cv x)))
noncomputable abbrev drR (k cu cv:Nat) (l:List (List Bool)):D:=.dict ((kvR k cu cv l).map fun p=>(.str p.1, .str p.2))
theorem zta (Q:Two k cu cv) {x:List Bool} (h:x.length≤150):sok (.str (tx (ww k cu cv x)))=true:=zjs (Nat.le_trans (Q.okw h).1 (by decide)) (Q.okw h).2
theorem ycj (Q:Two k cu cv) {x:List Bool} (h:x.length≤150):sok (.str (tx (tw cu cv x)))=true:=zjs (by rw [zjv];omega) (ynx Q.hu Q.hv)
theorem dr_R (Q:Two k cu cv) {l:List (List Bool)} (hb:Bd 100 l):Dr k cu cv l (drR k cu cv l):=⟨fun x m=>by
 have h1:∀ p∈kvR k cu cv l,∃ z,p=(tx (tw cu cv z),tx (ww k cu cv z)):=zoj (fun a _=>⟨a,rfl⟩) fun _ m=>nomatch m
 have h2:∃ p∈kvR k cu cv l,p.1=tx (tw cu cv x):=zux (.inl ⟨x,m,rfl⟩)
 refine bi (zvo (v:=tx (ww k cu cv x)) (fun p mp e=>?_) h2) (if_pos (zta Q (by have:=hb x m;omega)))
 obtain ⟨z,rfl⟩:=h1 p mp
 have q:(tx (tw cu cv z)==tx (tw cu cv x))=true:=beq_iff_eq.mpr e
 rw [yeg,zwn Q.code_ne,beq_iff_eq] at q
 show tx (ww k cu cv z)=_
 rw [q],yqd _⟩
theorem ybm {l:List (List Bool)}:∀ {kv:List (Str × Str)},(∀ p∈kv,∃ x∈l,p.1=tx (tw cu cv x))→∃ l':List (List Bool),kv.map (fun p=>PyData.str p.1)=l'.map (fun x=>dtx (tw cu cv x))∧∀ x∈l',x∈l
 | [],_=>⟨[],rfl,fun _ m=>nomatch m⟩
 | p::kv,h=>by
  obtain ⟨x,mx,e⟩:=h p (.head _)
  obtain ⟨l',e1,e2⟩:=ybm (kv:=kv) fun q m=>h q (.tail _ m)
  refine ⟨x::l',by rw [List.map_cons,List.map_cons,e1,e],fun z m=>?_⟩
  rcases mcp m with rfl | m
  ·exact mx
  ·exact e2 z m
theorem ymm {l:List (List Bool)} (hl:l.length≤1000):∃ l':List (List Bool),ziz (drR k cu cv l)=some (l'.map fun x=>dtx (tw cu cv x))∧∀ x∈l',x∈l:=by
 obtain ⟨l',e1,e2⟩:=ybm (cu:=cu) (cv:=cv) (l:=l) (kv:=kvR k cu cv l) (zoj (P:=fun p=>∃ x∈l,p.1=tx (tw cu cv x)) (fun a m=>⟨a,m,rfl⟩) fun _ m=>nomatch m)
 refine ⟨l', ?_,e2⟩
 have hle:(kvR k cu cv l).length≤l.length:=Nat.le_trans (zld _ []) (by rw [List.length_map];exact Nat.le_of_eq (Nat.zero_add _))
 show (if decide (((kvR k cu cv l).map fun p=>(PyData.str p.1,PyData.str p.2)).length≤16777216) then some (((kvR k cu cv l).map fun p=>(PyData.str p.1,PyData.str p.2)).map (·.1)) else none)=_
 rw [if_pos (decide_eq_true (by rw [List.length_map];omega)),List.map_map,← e1];rfl
theorem yef {ρ:Rho} (g62:ρ.get 62=some (dtx [cu,cv])):ev S ρ (.list (.cons (.sub (.var 62) (.lit (.int 0))) (.cons (.sub (.var 62) (.lit (.int 1))) .nil)))=some (txs cu cv [[false],[true]]) :=
 zdz (zab (zbf (zaa g62) (zai (d:=nint 0)) rfl) (zab (zbf (zaa g62) (zai (d:=nint 1)) rfl) zah)) (nle rfl)
section
variable (F:Facts S) (Q:Two k cu cv) {c:List (List Bool)} (hb:Bd 100 c) (hl:c.length≤100) {ρ:Rho}
include F Q hb hl
theorem zgb:Bd 100 (c++[[false],[true]]):=fun x m=>by
 rcases map2 m with m | m
 ·exact hb x m
 ·rcases mcp m with rfl | m
  ·exact nle rfl
  ·rw [msp m];exact nle rfl
theorem yuc (g47:ρ.get 47=some (nint k)) (g62:ρ.get 62=some (dtx [cu,cv])) (g52:ρ.get 52=some (txs cu cv c)):ex S ρ z2_7=some (.next (ρ.set 70 (drR k cu cv (c++[[false],[true]])))):=by
 have hs:zdk S ρ (.e (.bin .Add (.var 52) (.list (.cons (.sub (.var 62) (.lit (.int 0))) (.cons (.sub (.var 62) (.lit (.int 1))) .nil)))))=some ((c++[[false],[true]]).map fun x=>dtx (tw cu cv x)):=bi (zhs (zaa g52) (yef g62) (by show _+2≤_;omega)) rfl
 refine zao (yag hs (by rw [List.length_append];show _+2≤_;omega) fun x m=>?_)
 have hx:=zgb F Q hb hl x m
 exact ⟨zaa zag,zav (zab (zaa (zac (by decide) (zau (by decide) g47))) (zab (zaa zag) zah)) (Q.written F (by omega)),ycj Q (by omega),zta Q (by omega)⟩
theorem yud (g47:ρ.get 47=some (nint k)) (g62:ρ.get 62=some (dtx [cu,cv])):ex S ρ z2_8=some (.next (ρ.set 99 (drR k cu cv [[false],[true]]))):=by
 have hs:zdk S ρ (.e (.var 62))=some ([[false],[true]].map fun x=>dtx (tw cu cv x)):=zjd g62
 refine zao (yag hs (nle rfl) fun x m=>?_)
 have hx:=zgb F Q hb hl x (List.mem_append_right _ m)
 exact ⟨zaa zag,zav (zab (zaa (zac (by decide) (zau (by decide) g47))) (zab (zaa zag) zah)) (Q.spelled F (by omega)),ycj Q (by omega),zta Q (by omega)⟩
omit F hb hl Q in
theorem yob (x:List Bool):(x.map fun s=>ww k cu cv [s]).flatten=ww k cu cv x:=by
 induction x with
 | nil=>rfl
 | cons s x ih =>
  rw [List.map_cons,List.flatten_cons,ih]
  exact (zcf _ _ [s] x).symm
omit F hb hl Q in
theorem yfu (x:List Bool):ziz (dtx (tw cu cv x))=some (x.map fun s=>dtx (tw cu cv [s])):=by
 show some ((tx (tw cu cv x)).cps.toList.map fun c=>PyData.str ⟨#[c]⟩)=_
 show some ((tw cu cv x).toArray.toList.map fun c=>PyData.str ⟨#[c]⟩)=_
 rw [List.toList_toArray,ykr,List.map_map]
 refine congrArg some (List.map_congr_left fun s _=>?_)
 cases s <;> rfl
theorem yue (g70:ρ.get 70=some (drR k cu cv (c++[[false],[true]]))) (g99:ρ.get 99=some (drR k cu cv [[false],[true]])):ex S ρ z2_9=some (.next ρ):=by
 obtain ⟨l',e1,e2⟩:=ymm (k:=k) (cu:=cu) (cv:=cv) (l:=c++[[false],[true]]) (by rw [List.length_append];show _+2≤_;omega)
 have D1:=dr_R Q (zgb F Q hb hl)
 have D2:Dr k cu cv [[false],[true]] (drR k cu cv [[false],[true]]):=dr_R Q fun x m=>zgb F Q hb hl x (List.mem_append_right _ m)
 have key:=zdl (S:=S) (ρ:=ρ) (elt:=.var 3) (c:=.cmp .NotEq (.sub (.var 70) (.var 3)) (.mt .join (.lit (.str "")) (.cons (.comp (.sub (.var 99) (.var 50)) (.cons [50] (.e (.var 3)) .nil .nil)) .nil))) (tg:=[3]) (src:=.e (.var 70)) (l:=l') (i:=fun x=>dtx (tw cu cv x)) (g:=fun x=>dtx (tw cu cv x)) (p:=fun _=>false)
  (bi (zaa g70) e1) fun x m=>by
   have mx:=e2 x m
   have hx:=zgb F Q hb hl x mx
   refine ⟨(ρ.del ([3]++[])).set 3 (dtx (tw cu cv x)),rfl, ?_,fun h=>nomatch h⟩
   generalize hρ':(ρ.del ([3]++[])).set 3 (dtx (tw cu cv x))=ρ'
   have q3:ρ'.get 3=some (dtx (tw cu cv x)):=by rw [← hρ'];exact zag
   have q70:ρ'.get 70=some (drR k cu cv (c++[[false],[true]])):=by rw [← hρ'];exact zac (by decide) (zau (by decide) g70)
   have q99:ρ'.get 99=some (drR k cu cv [[false],[true]]):=by rw [← hρ'];exact zac (by decide) (zau (by decide) g99)
   have k1:=zbt (S:=S) (ρ:=ρ') (elt:=.sub (.var 99) (.var 50)) (tg:=[50]) (src:=.e (.var 3)) (l:=x) (i:=fun s=>dtx (tw cu cv [s])) (g:=fun s=>dtx (ww k cu cv [s])) (bi (zaa q3) (yfu x)) fun s _=>⟨(ρ'.del ([50]++[])).set 50 (dtx (tw cu cv [s])),rfl,zbf (zaa (zac (by decide) (zau (by decide) q99))) (zaa zag) (D2.at_ [s] (by cases s;exact .head _;exact .tail _ (.head _)))⟩
   have e:(x.map fun s=>dtx (ww k cu cv [s]))=(x.map fun s=>ww k cu cv [s]).map dtx:=by rw [List.map_map];rfl
   rw [e] at k1
   have j:=zuq k1 (by rw [List.length_map];omega) fun p mp=>by
    obtain ⟨s,_,rfl⟩:=mmp mp
    exact ⟨Nat.le_trans (Q.len6 (x:=[s]) (nle rfl)) (nle rfl),(Q.okw (x:=[s]) (nle rfl)).2⟩
   rw [yob] at j
   exact zam (zbf (zaa q70) (zaa q3) (D1.at_ x mx)) j (yfv _)
 rw [List.filter_eq_nil_iff.mpr fun _ _=>Bool.false_ne_true] at key
 exact zfa (zam key rfl rfl) rfl
theorem yrs (g62:ρ.get 62=some (dtx [cu,cv])) (g70:ρ.get 70=some (drR k cu cv (c++[[false],[true]]))):ex S ρ yod=some (.next (ρ.set 80 (.list ((szL k cu cv).map nint)))):=by
 have D1:=dr_R Q (zgb F Q hb hl)
 refine zao ?_
 have key:=zbt (S:=S) (ρ:=ρ) (elt:=.bf .len (.cons (.sub (.var 70) (.var 50)) .nil)) (tg:=[50]) (src:=.e (.var 62)) (l:=[false,true]) (i:=fun s=>dtx (tw cu cv [s])) (g:=fun s=>nint (ww k cu cv [s]).length) (zjd g62) fun s _=>⟨(ρ.del ([50]++[])).set 50 (dtx (tw cu cv [s])),rfl,yaj (zbf (zaa (zac (by decide) (zau (by decide) g70))) (zaa zag) (D1.at_ [s] (List.mem_append_right _ (by cases s;exact .head _;exact .tail _ (.head _)))))⟩
 rw [key]
 show some (PyData.list [nint (ww k cu cv [false]).length,nint (ww k cu cv [true]).length])=_
 rw [yeq,yeq];rfl
end
end Internal
namespace Internal
variable {S:Sig} {k cu cv:Nat}
structure Facts2 (S:Sig):Prop extends Facts S where
 c51:∀ cu cv d ns,cu≠cv→cu<55296→cv<55296→1≤d→d≤4→ns.length≤3→S.cal 51 [dtx [cu,cv],nint d, .list (ns.map nint)]=some (txs cu cv (znv d ns))
 c66:∀ k cu cv c dr R,Two k cu cv→Sync (wr k cu) (wr k cv)→Dr k cu cv c dr→Bd 100 c→(∀ x∈c,x≠[])→c.length≤100→R≤1000→S.cal 66 [nint k,dr,txs cu cv c,nint R]=some (txs cu cv (zem c R))
 c73:∀ cu cv d inner t,cu≠cv→t.length≤100→inner.length≤100→Bd 100 inner→S.cal 73 [nint d,txs cu cv inner,dtx (tw cu cv t)]=some (nint (zfs d inner t))
 c75:∀ cu cv d inner R,cu≠cv→inner.length≤100→Bd 100 inner→R≤8→(zgh d inner R [] [[]]).1.length+(zgh d inner R [] [[]]).2.length<64→S.cal 75 [dtx [cu,cv],nint d,txs cu cv inner,nint R]=some (srt cu cv ((zgh d inner R [] [[]]).1++(zgh d inner R [] [[]]).2))
 c79:∀ cu cv p q R t,cu≠cv→p≤6→q≤6→R≤8→t.length≤R→S.cal 79 [dtx [cu,cv], .list ([p,q].map nint),dtx (tw cu cv t),nint R]=some (nint (wtN p q R t))
 c81:∀ k cu cv c dr t,Two k cu cv→Sync (wr k cu) (wr k cv)→Dr k cu cv (c++[[false],[true]]) dr→Bd 100 c→(∀ x∈c,x≠[])→t.length≤100→c.length≤100→(∀ x∈c,zmh t x=true)→S.cal 81 [nint k,dr,txs cu cv c,dtx (tw cu cv t)]=some (txs cu cv (zcj c t))
theorem zqq:∀ (r:List Nat) (n:Nat),nmax n r=r.foldl max n
 | [],_=>rfl
 | m::r,n=>zqq r (max n m)
theorem yrm {p q R:Nat} {t:List Bool} (h:t.length≤R):wtN p q R t≤(p+q)^R:=by
 have e:R=t.count false+t.count true+(R-t.length):=by rw [zhy];omega
 unfold wtN
 conv=>rhs;rw [e,Nat.pow_add,Nat.pow_add]
 exact Nat.mul_le_mul_right _ (Nat.mul_le_mul (Nat.pow_le_pow_left (Nat.le_add_right _ _) _) (Nat.pow_le_pow_left (Nat.le_add_left _ _) _))
theorem ylj (p q R:Nat) (t:List Bool):((wtN p q R t:Nat):Int)=(p:Int)^t.count false*(q:Int)^t.count true*((p:Int)+q)^(R-t.length):=by
 unfold wtN
 rw [Int.natCast_mul,Int.natCast_mul,Int.natCast_pow,Int.natCast_pow,Int.natCast_pow,Int.natCast_add]
theorem ykm {n:List Bool→Nat} {p q R m:Nat} {l:List (List Bool)} (h:∀ f∈l,f.length≤R) (e:totP n R l=(wtP R []).map fun k=>m*k):(l.map fun f=>n f*wtN p q R f).sum=m*(p+q)^R:=by
 have:=yng (p:=(p:Int)) (q:=(q:Int)) h e
 refine Int.ofNat.inj ?_
 show (((l.map fun f=>n f*wtN p q R f).sum:Nat):Int)=((m*(p+q)^R:Nat):Int)
 rw [Int.natCast_mul,Int.natCast_pow,Int.natCast_add,← this,← zoy,List.map_map]
 refine congrArg List.sum (List.map_congr_left fun f _=>?_)
 show ((n f*wtN p q R f:Nat):Int)=_
 rw [Int.natCast_mul,ylj]
theorem zvh {m w q r:Int} (hw:0<w) (h : -m=w*q+r) (h0:0≤r) (h1:r<w):idm m (-w)=.tuple [.int q, .int (-r)]:=by
 have:=ymk hw h h0 h1
 rwa [Int.neg_neg] at this
theorem zne (a b c d:Int):zdq .NotEq (.list [.tuple [.int a, .int b], .tuple [.int c, .int d]]) (.list [.tuple [.int a, .int b], .tuple [.int c, .int d]])=some (.bool false):=zkb rfl (by simp [PyData.eqv,PyData.eqvAll])
theorem zjm {ρ:Rho} {a b c d:E} {i j m n:Int} (h1:ev S ρ a=some (.int i)) (h2:ev S ρ b=some (.int j)) (h3:ev S ρ c=some (.int m)) (h4:ev S ρ d=some (.int n)) :
  ev S ρ (.list (.cons (.tup (.cons a (.cons b .nil))) (.cons (.tup (.cons c (.cons d .nil))) .nil)))=some (.list [.tuple [.int i, .int j], .tuple [.int m, .int n]]) :=
 zdz (zab (zur h1 h2) (zab (zur h3 h4) zah)) (nle rfl)
theorem zjl (F:Facts S) {ρ:Rho} {a b c:E} {i j w:Int} {x z:D} (h1:ev S ρ a=some (.int i)) (h2:ev S ρ b=some (.int j)) (h3:ev S ρ c=some (.int w)) (hw:w≠0) (si:Sm 64 i) (sj:Sm 64 j) (sw:Sm 64 w) (e1:idm i w=x) (e2:idm j w=z) :
  ev S ρ (.list (.cons (.call 31 (.cons a (.cons c .nil))) (.cons (.call 31 (.cons b (.cons c .nil))) .nil)))=some (.list [x,z]):=by
 subst e1 e2
 exact zdz (zab (zav (zab h1 (zab h3 zah)) (by rw [F.c31];exact zvg hw (si.mono (by decide)) (sw.mono (by decide)))) (zab (zav (zab h2 (zab h3 zah)) (by rw [F.c31];exact zvg hw (sj.mono (by decide)) (sw.mono (by decide)))) zah)) (nle rfl)
theorem yqt {i:Int} (h:i.natAbs<18446744073709551616):Sm 64 i:=h
theorem zha {n:Nat} (h:n≤429981696000000):Sm 64 (n:Int)∧Sm 64 ((n:Int)+1)∧Sm 64 (-(n:Int))∧Sm 64 (-(n:Int)-1):=by
 have h1:n+1<18446744073709551616:=Nat.lt_of_le_of_lt (Nat.succ_le_succ h) (by decide)
 have e:(-(n:Int)-1) = -((n+1:Nat):Int):=by rw [Int.natCast_add,Int.neg_add];rfl
 exact ⟨Nat.lt_of_succ_lt h1,h1,yqt (by rw [Int.natAbs_neg];exact Nat.lt_of_succ_lt h1),yqt (by rw [e,Int.natAbs_neg];exact h1)⟩
theorem zzy {d w:Nat} (hw:1<w):idm ((d*w:Nat):Int) (-(w:Int))=.tuple [.int (-(d:Int)), .int 0]∧idm (((d*w:Nat):Int)+1) (-(w:Int))=.tuple [.int (-(d:Int)-1), .int (1-(w:Int))]:=by
 have e:((d*w:Nat):Int)=(w:Int)*d:=by rw [Int.natCast_mul,Int.mul_comm]
 refine ⟨?_, ?_⟩
 ·have:=zvh (m:=((d*w:Nat):Int)) (w:=(w:Int)) (q:=-(d:Int)) (r:=0) (by omega) (by rw [e,Int.mul_neg,Int.add_zero]) (Int.le_refl _) (by omega)
  rw [this];rfl
 ·have:=zvh (m:=((d*w:Nat):Int)+1) (w:=(w:Int)) (q:=-(d:Int)-1) (r:=(w:Int)-1) (by omega) (by rw [e,Int.mul_sub,Int.mul_neg,Int.mul_one];omega) (by omega) (by omega)
  rw [this,show -((w:Int)-1)=1-(w:Int) by omega]
theorem yga {d w:Nat} (hw:1<w):idm (((d*w:Nat):Int)+1) (w:Int)=.tuple [.int (d:Int), .int 1]∧idm (-((d*w:Nat):Int)-1) (w:Int)=.tuple [.int (-(d:Int)-1), .int ((w:Int)-1)]:=by
 have e:((d*w:Nat):Int)=(w:Int)*d:=by rw [Int.natCast_mul,Int.mul_comm]
 exact ⟨ybf (by omega) (by rw [e]) (by omega) (by omega),ybf (by omega) (by rw [e,Int.mul_sub,Int.mul_neg,Int.mul_one];omega) (by omega) (by omega)⟩
section
variable (F:Facts2 S) (Q:Two k cu cv) {c:List (List Bool)} {ρ:Rho}
theorem yrt (hne:c≠[]) (g52:ρ.get 52=some (txs cu cv c)):ex S ρ yoe=some (.next (ρ.set 72 (nint (zax c)))):=by
 have key:=zbt (S:=S) (ρ:=ρ) (elt:=.bf .len (.cons (.var 3) .nil)) (tg:=[3]) (src:=.e (.var 52)) (l:=c) (i:=fun x=>dtx (tw cu cv x)) (g:=fun x=>nint x.length) (bi (zaa g52) rfl) fun x _=>⟨(ρ.del ([3]++[])).set 3 (dtx (tw cu cv x)),rfl,zca (zaa zag)⟩
 refine zao (zib (zab key zah) ?_)
 cases c with
 | nil=>exact absurd rfl hne
 | cons x c =>
  have:=yly x.length (c.map List.length)
  rw [zqq] at this
  have e:((x::c).map fun x=>nint x.length)=(x.length::c.map List.length).map nint:=by rw [List.map_cons,List.map_cons,List.map_map];rfl
  rw [e,this]
  show some (nint ((c.map List.length).foldl max x.length))=some (nint ((c.map List.length).foldl max (max 0 x.length)))
  rw [Nat.zero_max]
theorem yru {p q R:Nat} (hp:p≤6) (hq:q≤6) (hR:R≤8) (g80:ρ.get 80=some (.list ([p,q].map nint))) (g72:ρ.get 72=some (nint R)):ex S ρ yof=some (.next (ρ.set 94 (nint ((p+q)^R)))):=by
 refine zao (zaf (x:=nint (p+q)) ?_ (zaa g72) (powd (by omega) hR))
 have:=zib (S:=S) (zab (zaa g80) zah) (zog [p,q])
 rw [show [p,q].sum=p+q from rfl] at this
 exact this
include F Q
theorem yrv {p q R m:Nat} (hp:p≤6) (hq:q≤6) (hR:R≤8) (hb:Bd R c) (e:totP List.length R c=(wtP R []).map fun k=>m*k) (g62:ρ.get 62=some (dtx [cu,cv])) (g80:ρ.get 80=some (.list ([p,q].map nint))) (g52:ρ.get 52=some (txs cu cv c)) (g72:ρ.get 72=some (nint R)) :
  ex S ρ yog=some (.next (ρ.set 98 (nint (m*(p+q)^R)))):=by
 have key:=zbt (S:=S) (ρ:=ρ) (elt:=.bin .Mult (.bf .len (.cons (.var 3) .nil)) (.call 79 (.cons (.var 62) (.cons (.var 80) (.cons (.var 3) (.cons (.var 72) .nil)))))) (tg:=[3]) (src:=.e (.var 52)) (l:=c) (i:=fun x=>dtx (tw cu cv x)) (g:=fun x=>nint (x.length*wtN p q R x)) (bi (zaa g52) rfl) fun x m=>⟨(ρ.del ([3]++[])).set 3 (dtx (tw cu cv x)),rfl,by
  have hx:=hb x m
  have hw:=yrm (p:=p) (q:=q) hx
  have h12:=zje (a:=p+q) (i:=R) (by omega) hR rfl
  have e8:(12:Nat)^8=429981696:=by decide
  exact zaf (zca (zaa zag)) (zav (zab (zaa (zac (by decide) (zau (by decide) g62))) (zab (zaa (zac (by decide) (zau (by decide) g80))) (zab (zaa zag) (zab (zaa (zac (by decide) (zau (by decide) g72))) zah)))) (F.c79 cu cv p q R x Q.code_ne hp hq hR hx)) (zge (by omega) (by omega))⟩
 have e2:(c.map fun x=>nint (x.length*wtN p q R x))=(c.map fun x=>x.length*wtN p q R x).map nint:=by rw [List.map_map];rfl
 rw [e2] at key
 refine zao ?_
 rw [zib (zab key zah) (zog _),ykm hb e]
omit Q in
theorem yrw {d w:Nat} (hd:d≤4) (hw:1<w) (hw2:w≤429981696) (g98:ρ.get 98=some (nint (d*w))) (g94:ρ.get 94=some (nint w)) (g64:ρ.get 64=some (nint d)):ex S ρ yoh=some (.next ρ):=by
 obtain ⟨e1,e2⟩:=zzy (d:=d) hw
 have hm:=Nat.mul_le_mul hd hw2
 have l:=zjl (S:=S) F.toFacts (ρ:=ρ) (a:=.var 98) (b:=.bin .Add (.var 98) (.lit (.int 1))) (c:=.neg (.var 94)) (zaa g98) (zaf (zaa g98) (zai (d:=nint 1)) rfl) (zla (zaa g94)) (Int.neg_ne_zero.mpr (Int.ofNat_ne_zero.mpr (Nat.ne_of_gt (Nat.lt_trans Nat.zero_lt_one hw)))) (zha (Nat.le_trans hm (by decide))).1 (zha (Nat.le_trans hm (by decide))).2.1 (zha (Nat.le_trans hw2 (by decide))).2.2.1 e1 e2
 have r:=zjm (S:=S) (ρ:=ρ) (a:=.neg (.var 64)) (b:=.lit (.int 0)) (c:=.bin .Sub (.neg (.var 64)) (.lit (.int 1))) (d:=.bin .Sub (.lit (.int 1)) (.var 94)) (zla (zaa g64)) zai (zaf (x:=.int (-(d:Int))) (y:=.int 1) (zla (zaa g64)) zai rfl) (zaf (x:=.int 1) (y:=nint w) zai (zaa g94) rfl)
 exact zfa (zam l r (zne _ _ _ _)) rfl
theorem ybs (y:Sync (wr k cu) (wr k cv)) {dr:D} {d p q R:Nat} {inner:List (List Bool)} (Dd:Dr k cu cv (c++[[false],[true]]) dr) (hb:Bd R c) (hne:∀ x∈c,x≠[]) (hl:c.length≤100) (hp:p≤6) (hq:q≤6) (hR:R≤8) (h1:1<(p+q)^R) (hi:inner.length≤100) (hbi:Bd 100 inner) (hd:d≤4)
  {t:List Bool} (ht:t.length≤4) (hw:∀ x∈c,zmh t x=true) (hf:Bd R (zcj c t)) (e:totP (fun _=>1) R (zcj c t)=(wtP R []).map fun k=>zfs d inner t*k) (hlk:zfs d inner t≤100000)
  (g47:ρ.get 47=some (nint k)) (g70:ρ.get 70=some dr) (g52:ρ.get 52=some (txs cu cv c)) (g64:ρ.get 64=some (nint d)) (g1:ρ.get 1=some (txs cu cv inner)) (g62:ρ.get 62=some (dtx [cu,cv])) (g80:ρ.get 80=some (.list ([p,q].map nint))) (g72:ρ.get 72=some (nint R)) (g94:ρ.get 94=some (nint ((p+q)^R))) :
  ∃ ρ',exs S (ρ.set 41 (dtx (tw cu cv t))) ybn=some (.next ρ')∧∀ n e,n≠41→n≠82→n≠96→n≠95→ρ.get n=some e→ρ'.get n=some e:=by
 generalize hρ1:ρ.set 41 (dtx (tw cu cv t))=ρ1
 have K:∀ {n:Nat} {e:D},n≠41→ρ.get n=some e→ρ1.get n=some e:=fun a g=>by rw [← hρ1];exact zac a g
 have q41:ρ1.get 41=some (dtx (tw cu cv t)):=by rw [← hρ1];exact zag
 have s0:ex S ρ1 lB0=some (.next (ρ1.set 82 (txs cu cv (zcj c t)))):=zao (zav (zab (zaa (K (by decide) g47)) (zab (zaa (K (by decide) g70)) (zab (zaa (K (by decide) g52)) (zab (zaa q41) zah)))) (F.c81 k cu cv c dr t Q y Dd (fun x m=>Nat.le_trans (hb x m) (by omega)) hne (by omega) hl hw))
 have s1:ex S (ρ1.set 82 (txs cu cv (zcj c t))) lB1=some (.next (ρ1.set 82 (txs cu cv (zcj c t)))):=zfa (zam (zaa zag) zai rfl) rfl
 have s2:ex S (ρ1.set 82 (txs cu cv (zcj c t))) lB2=some (.next ((ρ1.set 82 (txs cu cv (zcj c t))).set 96 (nint (zfs d inner t)))):=zao (zav (zab (zaa (zac (by decide) (K (by decide) g64))) (zab (zaa (zac (by decide) (K (by decide) g1))) (zab (zaa (zac (by decide) q41)) zah))) (F.c73 cu cv d inner t Q.code_ne (by omega) hi hbi))
 generalize hρ2:(ρ1.set 82 (txs cu cv (zcj c t))).set 96 (nint (zfs d inner t))=ρ2 at s2
 have K2:∀ {n:Nat} {e:D},n≠41→n≠82→n≠96→ρ.get n=some e→ρ2.get n=some e:=fun a b f g=>by rw [← hρ2];exact zac f (zac b (K a g))
 have q82:ρ2.get 82=some (txs cu cv (zcj c t)):=by rw [← hρ2];exact zac (by decide) zag
 have q96:ρ2.get 96=some (nint (zfs d inner t)):=by rw [← hρ2];exact zag
 have key:=zbt (S:=S) (ρ:=ρ2) (elt:=.call 79 (.cons (.var 62) (.cons (.var 80) (.cons (.var 58) (.cons (.var 72) .nil))))) (tg:=[58]) (src:=.e (.var 82)) (l:=zcj c t) (i:=fun x=>dtx (tw cu cv x)) (g:=fun x=>nint (1*wtN p q R x)) (bi (zaa q82) rfl) fun x m=>⟨(ρ2.del ([58]++[])).set 58 (dtx (tw cu cv x)),rfl,by
  rw [Nat.one_mul]
  exact zav (zab (zaa (zac (by decide) (zau (by decide) (K2 (by decide) (by decide) (by decide) g62)))) (zab (zaa (zac (by decide) (zau (by decide) (K2 (by decide) (by decide) (by decide) g80)))) (zab (zaa zag) (zab (zaa (zac (by decide) (zau (by decide) (K2 (by decide) (by decide) (by decide) g72)))) zah)))) (F.c79 cu cv p q R x Q.code_ne hp hq hR (hf x m))⟩
 have e2:((zcj c t).map fun x=>nint (1*wtN p q R x))=((zcj c t).map fun x=>1*wtN p q R x).map nint:=by rw [List.map_map];rfl
 rw [e2] at key
 have s3:ex S ρ2 lB3=some (.next (ρ2.set 95 (nint (zfs d inner t*(p+q)^R)))):=by
  refine zao ?_
  rw [zib (zab key zah) (zog _),ykm (n:=fun _=>1) hf e]
 have h12:=zje (a:=p+q) (i:=R) (by omega) hR rfl
 have e8:(12:Nat)^8=429981696:=by decide
 generalize (p+q)^R=w at h1 h12 g94 s3
 generalize zfs d inner t=lk at q96 s3 hlk
 have hm:=Nat.mul_le_mul hlk (Nat.le_trans h12 (Nat.le_of_eq e8))
 obtain ⟨d1,d2⟩:=yga (d:=lk) h1
 have r95:=zaa (S:=S) (zag (ρ:=ρ2) (n:=95) (d:=nint (lk*w)))
 have r94:ev S (ρ2.set 95 (nint (lk*w))) (.var 94)=some (nint w):=zaa (zac (by decide) (K2 (by decide) (by decide) (by decide) g94))
 have r96:ev S (ρ2.set 95 (nint (lk*w))) (.var 96)=some (nint lk):=zaa (zac (by decide) q96)
 have l:=zjl (S:=S) F.toFacts (ρ:=ρ2.set 95 (nint (lk*w))) (a:=.bin .Add (.var 95) (.lit (.int 1))) (b:=.bin .Sub (.neg (.var 95)) (.lit (.int 1))) (c:=.var 94) (zaf r95 (zai (d:=nint 1)) rfl) (zaf (x:=.int (-((lk*w:Nat):Int))) (y:=.int 1) (zla r95) zai rfl) r94 (Int.ofNat_ne_zero.mpr (Nat.ne_of_gt (Nat.lt_trans Nat.zero_lt_one h1))) (zha (Nat.le_trans hm (by decide))).2.1 (zha (Nat.le_trans hm (by decide))).2.2.2 (zha (Nat.le_trans h12 (by decide))).1 d1 d2
 have r:=zjm (S:=S) (ρ:=ρ2.set 95 (nint (lk*w))) (a:=.var 96) (b:=.lit (.int 1)) (c:=.bin .Sub (.neg (.var 96)) (.lit (.int 1))) (d:=.bin .Sub (.var 94) (.lit (.int 1))) r96 zai (zaf (x:=.int (-(lk:Int))) (y:=.int 1) (zla r96) zai rfl) (zaf (x:=nint w) (y:=.int 1) r94 zai rfl)
 exact ⟨_,zad s0 (zad s1 (zad s2 (zad s3 (zad (zfa (zam l r (zne _ _ _ _)) rfl) rfl)))),fun n e a b f g h=>zac g (K2 a b f h)⟩
end
end Internal
namespace Internal
variable {S:Sig} {k cu cv:Nat}
noncomputable def hdB (u v:List Nat):Bool:=u.tail.all fun c=>u.head? != some c&&v.head? != some c
theorem ypw:((List.range 5).all fun k=>lows.all fun a=>lows.all fun b=>hdB (wr k a) (wr k b))=true:=by decide +kernel
theorem ydj {x i:Nat} (hi:i<8):(sgs x).getD i 0=x∨(sgs x).getD i 0∈lows:=by
 have:=lt8 i hi
 rcases this with rfl | rfl | rfl | rfl | rfl | rfl | rfl | rfl
 ·exact .inr (show 38∈lows by decide)
 ·exact .inr (show 60∈lows by decide)
 ·exact .inr (show 62∈lows by decide)
 ·exact .inr (show 34∈lows by decide)
 ·exact .inr (show 13∈lows by decide)
 ·exact .inr (show 10∈lows by decide)
 ·exact .inr (show 9∈lows by decide)
 ·exact .inl rfl
theorem ykj {k x i j:Nat} (hk:k<5) (hx:192≤x) (hi:i<8) (hj:j<8):hdB (wr k ((sgs x).getD i 0)) (wr k ((sgs x).getD j 0))=true:=by
 have low:∀ {a b:Nat},a∈lows→b∈lows→hdB (wr k a) (wr k b)=true:=fun ha hb=>latp (latp (latp ypw k (List.mem_range.mpr hk)) _ ha) _ hb
 rcases ydj (x:=x) hi with e | m
 ·rw [e,zma hk hx];rfl
 ·rcases ydj (x:=x) hj with e' | m'
  ·rw [e',zma hk hx]
   refine List.all_eq_true.mpr fun c mc=>?_
   have h1:=latp (low m m) c mc
   have h2:=(zwr hk m).2 c (List.mem_of_mem_tail mc)
   refine Bool.and_eq_true_iff.mpr ⟨(bap h1).1, ?_⟩
   rw [bne_iff_ne]
   intro q
   have:x=c:=soi q
   omega
  ·exact low m m'
theorem ynt {u v:List Nat} (c:Code u v) (h1:hdB u v=true) (h2:hdB v u=true):Sync u v:={ c with
 hd:=fun z m=>by
  rcases map2 m with m | m
  ·have:=bap (latp h1 z m)
   exact ⟨bne_iff_ne.mp this.1,bne_iff_ne.mp this.2⟩
  ·have:=bap (latp h2 z m)
   exact ⟨bne_iff_ne.mp this.2,bne_iff_ne.mp this.1⟩ }
theorem four {P:Nat→Bool} (h:([1,2,3,4].all P)=true) {d:Nat} (h1:1≤d) (h4:d≤4):P d=true :=
 latp h d (by
  have:d=1∨d=2∨d=3∨d=4:=by omega
  rcases this with rfl | rfl | rfl | rfl <;> decide)
theorem zqm:∀ (n:Nat) (x:List Bool),x.length=n→x∈zdt n
 | 0,x,h=>by rw [List.length_eq_zero_iff.mp h];exact .head _
 | n+1,x,h=>by
  rcases List.eq_nil_or_concat x with rfl | ⟨y,s,rfl⟩
  ·cases h
  ·rw [List.concat_eq_append] at h ⊢
   rw [List.length_append] at h
   refine List.mem_flatMap.mpr ⟨y,zqm n y (Nat.succ.inj h),List.mem_map.mpr ⟨s, ?_,rfl⟩⟩
   cases s
   ·exact .head _
   ·exact .tail _ (.head _)
theorem lt5:∀ i:Nat,i<5→i=0∨i=1∨i=2∨i=3∨i=4:=by decide
theorem ybx {x:List Bool} (h:x.length≤4):x∈textsR:=by
 have m:=zqm x.length x rfl
 unfold textsR
 have:=lt5 x.length (Nat.lt_succ_of_le h)
 simp only [List.mem_append]
 rcases this with e | e | e | e | e
 ·exact .inl (.inl (.inl (.inl (by rw [List.length_eq_zero_iff.mp e];exact .head _))))
 ·exact .inl (.inl (.inl (.inr (e▸m))))
 ·exact .inl (.inl (.inr (e▸m)))
 ·exact .inl (.inr (e▸m))
 ·exact .inr (e▸m)
theorem max_le {B:Nat}:∀ {l:List Nat} {a:Nat},a≤B→(∀ n∈l,n≤B)→l.foldl max a≤B
 | [],_,h,_=>h
 | n::l,a,h,k=>max_le (l:=l) (a:=max a n) (Nat.max_le.mpr ⟨h,k n (.head _)⟩) fun m q=>k m (.tail _ q)
structure Good (d:Nat) (c:List (List Bool)):Prop where
 ne:c≠[]
 len:c.length≤20
 w0:∀ x∈c,x≠[]
 w7:Bd 7 c
 perm:((zgh d (zem c (zax c)) (zax c) [] [[]]).1++(zgh d (zem c (zax c)) (zax c) [] [[]]).2).Perm c
 bd:Bd (zax c) c
 mean:totP List.length (zax c) c=(wtP (zax c) []).map fun k=>d*k
 word:∀ t∈textsR,∀ x∈c,zmh t x=true
 fbd:∀ t∈textsR,Bd (zax c) (zcj c t)
 found:∀ t∈textsR,totP (fun _=>1) (zax c) (zcj c t)=(wtP (zax c) []).map fun k=>zfs d (zem c (zax c)) t*k
theorem ymg {d:Nat} {ns:List Nat} (h1:1≤d) (h4:d≤4) (hl:ns.length=3) (hn:∀ n∈ns,n<8):Good d (znv d ns):=by
 have hm:znv d ns∈levC d 3:=by
  have:=zuz (d:=d) (ns:=ns) (i:=0) (c:=zdt d) (.head _) hn
  rw [hl] at this
  exact this
 have hc:znv d ns∈ztv d:=List.contains_iff_mem.mp (latp (four ypv h1 h4) _ hm)
 have ga:=latp (four ypk h1 h4) _ hc
 have gb:=latp (four ypl h1 h4) _ hc
 generalize znv d ns=c at hc ga gb
 unfold ypi ykk at ga
 simp only [Bool.and_eq_true,Bool.not_eq_true',List.all_eq_true,decide_eq_true_eq,beq_iff_eq,List.isPerm_iff] at ga
 obtain ⟨⟨⟨⟨⟨s1,s2⟩,s3⟩,p⟩,b⟩,m⟩:=ga
 unfold ypj at gb
 have gb':=fun t mt=>bap (latp gb t mt)
 refine ⟨fun e=>(by rw [e] at s1;exact absurd s1 Bool.noConfusion),s2,fun x mx e=>(by have:=(s3 x mx).1;rw [e] at this;exact absurd this Bool.noConfusion),fun x mx=>(s3 x mx).2,p,b,m,fun t mt x mx=>?_,fun t mt x mx=>of_decide_eq_true (latp (gb' t mt).1 x mx),fun t mt=>bqp (gb' t mt).2⟩
 obtain ⟨cn,mc,rfl⟩:=mmp hc
 obtain ⟨n,mn,rfl⟩:=mmp mx
 exact latp (latp (four ypm h1 h4) n (mem_fold.mpr (.inr (List.mem_flatten.mpr ⟨cn,mc,mn⟩)))) t mt
theorem Good.reach {d:Nat} {c:List (List Bool)} (G:Good d c):1≤zax c∧zax c≤7:=by
 refine ⟨?_,max_le (Nat.zero_le _) fun n m=>by obtain ⟨x,mx,rfl⟩:=mmp m;exact G.w7 x mx⟩
 obtain ⟨x,r,rfl⟩:=List.exists_cons_of_ne_nil G.ne
 exact Nat.le_trans (List.length_pos_iff.mpr (G.w0 x (.head _))) (G.bd x (.head _))
theorem zqe {c:List (List Bool)} {R:Nat}:(zem c R).length≤c.length∧∀ x∈zem c R,x∈c :=
 ⟨Nat.le_trans (List.length_filter_le _ _) (List.length_filter_le _ _),fun x m=>(List.mem_filter.mp (List.mem_filter.mp m).1).1⟩
theorem zxo {d:Nat} {inner:List (List Bool)} {t:List Bool} (hd:d≤4) (hi:inner.length≤20) (ht:t.length≤4):zfs d inner t≤100000:=by
 have h:=zeb (l:=inner) (f:=fun one=>(List.range (t.length+1-one.length)).filter fun k=>(t.drop k).take one.length==one) (n:=5) fun one _=>Nat.le_trans (List.length_filter_le _ _) (by rw [List.length_range];exact Nat.le_trans (Nat.sub_le _ _) (Nat.succ_le_succ ht))
 unfold zfs zhi
 exact Nat.le_trans (Nat.sub_le _ _) (Nat.le_trans (Nat.add_le_add hd (Nat.le_trans h (Nat.mul_le_mul_right 5 hi))) (by decide))
end Internal
namespace Internal
variable {S:Sig} {k cu cv:Nat}
noncomputable def zrb (n:Nat):List Nat:=(List.range 3).map fun j=>n / 8^j % 8
theorem yua {ρ:Rho} {cs:List Nat} {c1:Nat} (g:ρ.get 97=some (.list (cs.map nint))) (h:cs[1]?=some c1):ex S ρ z2_5=some (.next (ρ.set 64 (nint (1+c1 % 4)))) :=
 zao (zaf (zai (d:=nint 1)) (zaf (zdr (i:=1) g h) (zai (d:=nint 4)) (zdc (by decide))) (zea _ _))
theorem yub (F:Facts2 S) (h:cu≠cv) (hu:cu<55296) (hv:cv<55296) {ρ:Rho} {cs:List Nat} {c2 d:Nat} (g:ρ.get 97=some (.list (cs.map nint))) (h2:cs[2]?=some c2) (g62:ρ.get 62=some (dtx [cu,cv])) (g64:ρ.get 64=some (nint d)) (h1:1≤d) (h4:d≤4) :
  ex S ρ z2_6=some (.next (ρ.set 52 (txs cu cv (znv d (zrb c2))))):=by
 have key:=zbt (S:=S) (ρ:=ρ) (elt:=.bin .Mod (.bin .FloorDiv (.sub (.var 97) (.lit (.int 2))) (.bin .Pow (.lit (.int 8)) (.var 63))) (.lit (.int 8))) (tg:=[63]) (src:=.range (.cons (.lit (.int 3)) .nil)) (l:=List.range 3) (i:=nint) (g:=fun j=>nint (c2 / 8^j % 8))
  (zic (n:=3) zai (by decide)) fun j mj=>⟨(ρ.del ([63]++[])).set 63 (nint j),rfl,by
   have hj:=List.mem_range.mp mj
   have h8:(8:Nat)^j≤8^3:=Nat.pow_le_pow_right (by decide) (by omega)
   have h60:(8:Nat)^3<2^60:=by decide
   refine zaf (zaf (zdr (i:=2) (zac (by decide) (zau (by decide) g)) h2) (zaf (zai (d:=nint 8)) (zaa zag) (ycw ?_)) (zfk (Nat.pow_pos (by decide)) (by omega))) (zai (d:=nint 8)) (zdc (by decide))
   have i4:ib ((8:Nat):Int)≤4:=zxj (by decide)
   have:=Nat.mul_le_mul i4 (show j≤3 by omega)
   omega⟩
 have e:((List.range 3).map fun j=>nint (c2 / 8^j % 8))=(zrb c2).map nint:=by unfold zrb;rw [List.map_map];rfl
 rw [e] at key
 exact zao (zav (zab (zaa g62) (zab (zaa g64) (zab key zah))) (F.c51 cu cv d _ h hu hv h1 h4 (Nat.le_of_eq rfl)))
theorem zuh:∀ l:List Str,PyData.eqvAll (l.map PyData.str) (l.map PyData.str)=true
 | []=>rfl
 | x::l=>by
  have e:PyData.eqvAll ((x::l).map PyData.str) ((x::l).map PyData.str)=((x==x)&&PyData.eqvAll (l.map PyData.str) (l.map PyData.str)):=by simp only [List.map_cons,PyData.eqvAll,PyData.eqv]
  rw [e,zuh l,beq_self_eq_true];rfl
theorem yif {a b:List (List Bool)} (h:a.Perm b):zdq .NotEq (srt cu cv a) (srt cu cv b)=some (.bool false):=by
 have:srt cu cv a=srt cu cv b:=congrArg (fun l=>PyData.list (l.map PyData.str)) (zyi (h.map _))
 rw [this]
 exact zkb (List.all_eq_true.mpr fun x m=>by obtain ⟨s,_,rfl⟩:=mmp m;rfl) (zuh _)
theorem yry (F:Facts2 S) (h:cu≠cv) {ρ:Rho} {c inner:List (List Bool)} {d R:Nat} (g62:ρ.get 62=some (dtx [cu,cv])) (g64:ρ.get 64=some (nint d)) (g1:ρ.get 1=some (txs cu cv inner)) (g72:ρ.get 72=some (nint R)) (g52:ρ.get 52=some (txs cu cv c)) (hi:inner.length≤100) (hb:Bd 100 inner) (hR:R≤8) (hl:c.length<64)
  (p:((zgh d inner R [] [[]]).1++(zgh d inner R [] [[]]).2).Perm c):ex S ρ yoi=some (.next ρ):=by
 have hlen:=p.length_eq
 rw [List.length_append] at hlen
 have e1:=zav (S:=S) (zab (zaa g62) (zab (zaa g64) (zab (zaa g1) (zab (zaa g72) zah)))) (F.c75 cu cv d inner R h hi hb hR (hlen▸hl))
 have e2:=zpw (S:=S) (zaa g52) hl
 exact zfa (or2F (zam (zaa g1) zai rfl) (zam e1 e2 (yif p))) rfl
noncomputable def zsi (n:Nat):List Bool:=zry (n / 4) (1+n % 4)
theorem yaa (n:Nat):(zsi n).length≤4:=by
 unfold zsi zry
 rw [List.length_map,List.length_range]
 have:=Nat.mod_lt n (show 0<4 by decide)
 omega
theorem yrz {ρ:Rho} {cs:List Nat} {c3:Nat} (g:ρ.get 97=some (.list (cs.map nint))) (h:cs[3]?=some c3):ex S ρ yoj=some (.next (ρ.set 93 (.list ([c3 % 64,c3 / 64 % 64].map nint)))) :=
 zao (zdz (zab (zaf (zdr (i:=3) g h) (zai (d:=nint 64)) (zdc (by decide))) (zab (zaf (zaf (zdr (i:=3) g h) (zai (d:=nint 64)) (zfk (by decide) (by decide))) (zai (d:=nint 64)) (zdc (by decide))) zah)) (nle rfl))
theorem yqu (hu:cu<55296) (hv:cv<55296) {ρ:Rho} {ns:List Nat} (hn:ns.length≤100) (g62:ρ.get 62=some (dtx [cu,cv])) (g93:ρ.get 93=some (.list (ns.map nint))) :
  zdk S ρ (.e (.bin .Add (.list (.cons (.lit (.str "")) .nil)) (.comp (.mt .join (.lit (.str "")) (.cons (.comp (.sub (.var 62) (.bin .Mod (.bin .FloorDiv (.bin .FloorDiv (.var 92) (.lit (.int 4))) (.bin .Pow (.lit (.int 2)) (.var 63))) (.lit (.int 2)))) (.cons [63] (.range (.cons (.bin .Add (.lit (.int 1)) (.bin .Mod (.var 92) (.lit (.int 4)))) .nil)) .nil .nil)) .nil)) (.cons [92] (.e (.var 93)) .nil .nil))))=some (([[]]++ns.map zsi).map fun x=>dtx (tw cu cv x)):=by
 have key:=zbt (S:=S) (ρ:=ρ) (elt:=.mt .join (.lit (.str "")) (.cons (.comp (.sub (.var 62) (.bin .Mod (.bin .FloorDiv (.bin .FloorDiv (.var 92) (.lit (.int 4))) (.bin .Pow (.lit (.int 2)) (.var 63))) (.lit (.int 2)))) (.cons [63] (.range (.cons (.bin .Add (.lit (.int 1)) (.bin .Mod (.var 92) (.lit (.int 4)))) .nil)) .nil .nil)) .nil)) (tg:=[92]) (src:=.e (.var 93)) (l:=ns) (i:=nint) (g:=fun n=>dtx (tw cu cv (zsi n))) (bi (zaa g93) rfl) fun n _=>⟨(ρ.del ([92]++[])).set 92 (nint n),rfl,by
  have hm:=Nat.mod_lt n (show 0<4 by decide)
  exact yae hu hv (m:=n / 4) (n:=1+n % 4) (zac (by decide) (zau (by decide) g62)) (fun j=>zaf (zaa (zac (by decide) (zau (by decide) zag))) (zai (d:=nint 4)) (zfk (by decide) (by decide))) (zaf (zai (d:=nint 1)) (zaf (zaa zag) (zai (d:=nint 4)) (zdc (by decide))) (zea _ _)) (by omega)⟩
 have e:(ns.map fun n=>dtx (tw cu cv (zsi n)))=(ns.map zsi).map fun x=>dtx (tw cu cv x):=by rw [List.map_map];rfl
 rw [e] at key
 exact bi (zhs (l:=[[]]) (zdz (zab rfl zah) (nle rfl)) key (by rw [List.length_map];show 1+_≤_;omega)) rfl
section
variable (F:Facts2 S) (Q:Two k cu cv) (y:Sync (wr k cu) (wr k cv)) {c:List (List Bool)} {d:Nat} (G:Good d c) (hd:d≤4)
include F Q y G hd
theorem ybr:∀ {ts:List (List Bool)} {ρ:Rho},(∀ t∈ts,t.length≤4)→ρ.get 47=some (nint k)→ρ.get 70=some (drR k cu cv (c++[[false],[true]]))→ρ.get 52=some (txs cu cv c)→ρ.get 64=some (nint d)→ρ.get 1=some (txs cu cv (zem c (zax c)))→ρ.get 62=some (dtx [cu,cv])→ρ.get 80=some (.list ((szL k cu cv).map nint))→ρ.get 72=some (nint (zax c))→ρ.get 94=some (nint (((wr k cu).length+(wr k cv).length)^zax c)) →
  ∃ ρ',goL (fun d ρ'=>(zcn ρ' [41] d).bind fun ρ''=>exs S ρ'' ybn) (ts.map fun x=>dtx (tw cu cv x)) ρ=some (.next ρ')
 | [],ρ,_,_,_,_,_,_,_,_,_,_=>⟨ρ,rfl⟩
 | t::ts,ρ,h,g47,g70,g52,g64,g1,g62,g80,g72,g94=>by
  obtain ⟨r1,r7⟩:=G.reach
  obtain ⟨i1,i2⟩:=zqe (c:=c) (R:=zax c)
  obtain ⟨⟨p1,p2⟩,q1,q2⟩:=Q.size
  have l100:c.length≤100:=Nat.le_trans G.len (by decide)
  have ht:=h t (.head _)
  have mt:=ybx ht
  have hw:1<((wr k cu).length+(wr k cv).length)^zax c:=Nat.one_lt_pow (Nat.ne_of_gt r1) (Nat.add_le_add p1 q1)
  obtain ⟨ρ1,e1,k1⟩:=ybs F Q y (ρ:=ρ) (inner:=zem c (zax c)) (dr_R Q (zgb F.toFacts Q (fun x m=>Nat.le_trans (G.w7 x m) (by decide)) l100)) G.bd G.w0 l100 p2 q2 (Nat.le_succ_of_le r7) hw (Nat.le_trans i1 l100) (fun x m=>Nat.le_trans (G.w7 x (i2 x m)) (by decide)) hd ht (G.word t mt) (G.fbd t mt) (G.found t mt) (zxo hd (Nat.le_trans i1 G.len) ht) g47 g70 g52 g64 g1 g62 g80 g72 g94
  obtain ⟨ρ',e2⟩:=ybr (ts:=ts) (ρ:=ρ1) (fun z m=>h z (.tail _ m)) (k1 47 _ (by decide) (by decide) (by decide) (by decide) g47) (k1 70 _ (by decide) (by decide) (by decide) (by decide) g70) (k1 52 _ (by decide) (by decide) (by decide) (by decide) g52) (k1 64 _ (by decide) (by decide) (by decide) (by decide) g64) (k1 1 _ (by decide) (by decide) (by decide) (by decide) g1) (k1 62 _ (by decide) (by decide) (by decide) (by decide) g62) (k1 80 _ (by decide) (by decide) (by decide) (by decide) g80) (k1 72 _ (by decide) (by decide) (by decide) (by decide) g72) (k1 94 _ (by decide) (by decide) (by decide) (by decide) g94)
  exact ⟨ρ',zfc e1 e2⟩
theorem ytq {ρ:Rho} {cs:List Nat} {c3:Nat} (g97:ρ.get 97=some (.list (cs.map nint))) (h3:cs[3]?=some c3) (g47:ρ.get 47=some (nint k)) (g62:ρ.get 62=some (dtx [cu,cv])) (g64:ρ.get 64=some (nint d)) (g52:ρ.get 52=some (txs cu cv c)) :
  exs S ρ (.cons z2_7 (.cons z2_8 (.cons z2_9 (.cons yod (.cons yoe (.cons yof (.cons yog (.cons yoh (.cons yrx (.cons yoi (.cons yoj (.cons ysa (.cons ysb .nil)))))))))))))=some (.ret (.bool true)):=by
 obtain ⟨r1,r7⟩:=G.reach
 obtain ⟨i1,i2⟩:=zqe (c:=c) (R:=zax c)
 obtain ⟨⟨p1,p2⟩,q1,q2⟩:=Q.size
 have l100:c.length≤100:=Nat.le_trans G.len (by decide)
 have r8:=Nat.le_succ_of_le r7
 have b100:Bd 100 c:=fun x m=>Nat.le_trans (G.w7 x m) (by decide)
 have hw:1<((wr k cu).length+(wr k cv).length)^zax c:=Nat.one_lt_pow (Nat.ne_of_gt r1) (Nat.add_le_add p1 q1)
 have hw2:=zje (a:=(wr k cu).length+(wr k cv).length) (i:=zax c) (Nat.add_le_add p2 q2) r8 rfl
 refine zad (yuc F.toFacts Q b100 l100 g47 g62 g52) ?_
 refine zad (yud F.toFacts Q b100 l100 (zac (by decide) g47) (zac (by decide) g62)) ?_
 refine zad (yue F.toFacts Q b100 l100 (zac (by decide) zag) zag) ?_
 refine zad (yrs F.toFacts Q b100 l100 (zac (by decide) (zac (by decide) g62)) (zac (by decide) zag)) ?_
 generalize hρ1:((ρ.set 70 (drR k cu cv (c++[[false],[true]]))).set 99 (drR k cu cv [[false],[true]])).set 80 (.list ((szL k cu cv).map nint))=ρ1
 have K:∀ {n:Nat} {e:D},n≠70→n≠99→n≠80→ρ.get n=some e→ρ1.get n=some e:=fun a b f g=>by rw [← hρ1];exact zac f (zac b (zac a g))
 have q70:ρ1.get 70=some (drR k cu cv (c++[[false],[true]])):=by rw [← hρ1];exact zac (by decide) (zac (by decide) zag)
 have q80:ρ1.get 80=some (.list ((szL k cu cv).map nint)):=by rw [← hρ1];exact zag
 refine zad (yrt G.ne (K (by decide) (by decide) (by decide) g52)) ?_
 refine zad (yru p2 q2 r8 (zac (by decide) q80) zag) ?_
 refine zad (yrv F Q p2 q2 r8 G.bd G.mean (zac (by decide) (zac (by decide) (K (by decide) (by decide) (by decide) g62))) (zac (by decide) (zac (by decide) q80)) (zac (by decide) (zac (by decide) (K (by decide) (by decide) (by decide) g52))) (zac (by decide) zag)) ?_
 refine zad (yrw F hd hw (Nat.le_trans hw2 (by decide)) zag (zac (by decide) zag) (zac (by decide) (zac (by decide) (zac (by decide) (K (by decide) (by decide) (by decide) g64))))) ?_
 generalize hρ2:((ρ1.set 72 (nint (zax c))).set 94 (nint (((wr k cu).length+(wr k cv).length)^zax c))).set 98 (nint (d*((wr k cu).length+(wr k cv).length)^zax c))=ρ2
 have K2:∀ {n:Nat} {e:D},n≠72→n≠94→n≠98→ρ1.get n=some e→ρ2.get n=some e:=fun a b f g=>by rw [← hρ2];exact zac f (zac b (zac a g))
 have K3:∀ {n:Nat} {e:D},n≠70→n≠99→n≠80→n≠72→n≠94→n≠98→ρ.get n=some e→ρ2.get n=some e:=fun a b f a' b' f' g=>K2 a' b' f' (K a b f g)
 have q72:ρ2.get 72=some (nint (zax c)):=by rw [← hρ2];exact zac (by decide) (zac (by decide) zag)
 have q94:ρ2.get 94=some (nint (((wr k cu).length+(wr k cv).length)^zax c)):=by rw [← hρ2];exact zac (by decide) zag
 have r70:=K2 (by decide) (by decide) (by decide) q70
 have r80:=K2 (by decide) (by decide) (by decide) q80
 have r97:=K3 (by decide) (by decide) (by decide) (by decide) (by decide) (by decide) g97
 have r47:=K3 (by decide) (by decide) (by decide) (by decide) (by decide) (by decide) g47
 have r62:=K3 (by decide) (by decide) (by decide) (by decide) (by decide) (by decide) g62
 have r64:=K3 (by decide) (by decide) (by decide) (by decide) (by decide) (by decide) g64
 have r52:=K3 (by decide) (by decide) (by decide) (by decide) (by decide) (by decide) g52
 have Dd:=dr_R Q (zgb F.toFacts Q b100 l100)
 refine zad (ρ':=ρ2.set 1 (txs cu cv (zem c (zax c)))) (zao (zav (zab (zaa r47) (zab (zaa r70) (zab (zaa r52) (zab (zaa q72) zah)))) (F.c66 k cu cv c _ _ Q y ⟨fun x m=>Dd.at_ x (List.mem_append_left _ m),Dd.nt⟩ b100 G.w0 l100 (Nat.le_trans r7 (by decide))))) ?_
 refine zad (yry F Q.code_ne (zac (by decide) r62) (zac (by decide) r64) zag (zac (by decide) q72) (zac (by decide) r52) (Nat.le_trans i1 l100) (fun x m=>b100 x (i2 x m)) r8 (Nat.lt_of_le_of_lt G.len (by decide)) G.perm) ?_
 refine zad (yrz (zac (by decide) r97) h3) ?_
 have L:∀ {n:Nat} {e:D},n≠1→n≠93→ρ2.get n=some e→((ρ2.set 1 (txs cu cv (zem c (zax c)))).set 93 (.list ([c3 % 64,c3 / 64 % 64].map nint))).get n=some e:=fun a b g=>zac b (zac a g)
 obtain ⟨ρ',e⟩:=ybr F Q y G hd (ts:=[[]]++[c3 % 64,c3 / 64 % 64].map zsi) (ρ:=(ρ2.set 1 (txs cu cv (zem c (zax c)))).set 93 (.list ([c3 % 64,c3 / 64 % 64].map nint))) (fun t m=>by
  rcases map2 m with m | m
  ·rw [msp m];exact Nat.zero_le _
  ·obtain ⟨n,_,rfl⟩:=mmp m;exact yaa n) (L (by decide) (by decide) r47) (L (by decide) (by decide) r70) (L (by decide) (by decide) r52) (L (by decide) (by decide) r64) (zac (by decide) zag) (L (by decide) (by decide) r62) (L (by decide) (by decide) r80) (L (by decide) (by decide) q72) (L (by decide) (by decide) q94)
 refine zad (zfm (yqu Q.hu Q.hv (by show 2≤100;decide) (L (by decide) (by decide) r62) zag) e) ?_
 exact zal (zbu rfl)
end
theorem yic (F:Facts2 S) (xs:List Int):zbb S yjv [.list (xs.map PyData.int)]=some (.bool true):=by
 refine zcv rfl ?_
 show exs S [(103, .list (xs.map PyData.int))] _=_
 refine zad (ρ':=[(103, .list (xs.map PyData.int)),(97, .list ([zkp xs 4 125 0,zkp xs 4 2 1,zkp xs 4 1 2,zkp xs 4 581 3].map nint))]) (zao (yaf (ps:=[(0,125),(1,2),(2,1),(3,581)]) (by decide) rfl (by decide) (by decide) (by decide) rfl)) ?_
 generalize zkp xs 4 125 0=c0
 generalize zkp xs 4 2 1=c1
 generalize zkp xs 4 1 2=c2
 generalize zkp xs 4 581 3=c3
 generalize PyData.list (xs.map PyData.int)=L
 obtain ⟨k,ek,hk⟩:∃ k,c0 % 5=k∧k<5:=⟨_,rfl,Nat.mod_lt _ (by decide)⟩
 obtain ⟨i,ei,hi⟩:∃ i,c0 / 5 % 8=i∧i<8:=⟨_,rfl,Nat.mod_lt _ (by decide)⟩
 obtain ⟨sg,cu,cv,esg,epr,Q,y⟩:∃ sg cu cv,(∀ {ρ:Rho},ρ.get 97=some (.list ([c0,c1,c2,c3].map nint))→ev S ρ (sgX 97)=some sg)∧(∀ {ρ:Rho},ρ.get 97=some (.list ([c0,c1,c2,c3].map nint))→ρ.get 100=some sg→ρ.get 101=some (nint i)→ev S ρ (prX 97 100 101)=some (dtx [cu,cv]))∧Two k cu cv∧Sync (wr k cu) (wr k cv) :=
  ⟨_,_,_,fun g=>ype g,fun g g2 g3=>ypd g g2 g3 hi,yny hk (by omega) (by omega) hi (Nat.mod_lt _ (by decide)) (by omega),ynt (zwd hk (by omega) hi (Nat.mod_lt _ (by decide)) (by omega)) (ykj hk (by omega) hi (Nat.mod_lt _ (by decide))) (ykj hk (by omega) (Nat.mod_lt _ (by decide)) hi)⟩
 refine zad (ρ':=[(103,L),(97, .list ([c0,c1,c2,c3].map nint)),(47,nint k)]) (zao (ρ:=[(103,L),(97, .list ([c0,c1,c2,c3].map nint))]) (zaf (zdr (i:=0) (cs:=[c0,c1,c2,c3]) rfl rfl) (zai (d:=nint 5)) (ek▸zdc (by decide)))) ?_
 refine zad (ρ':=[(103,L),(97, .list ([c0,c1,c2,c3].map nint)),(47,nint k),(100,sg)]) (zao (esg rfl)) ?_
 refine zad (ρ':=[(103,L),(97, .list ([c0,c1,c2,c3].map nint)),(47,nint k),(100,sg),(101,nint i)]) (zao (zaf (zaf (zdr (i:=0) (cs:=[c0,c1,c2,c3]) rfl rfl) (zai (d:=nint 5)) (zfk (by decide) (by decide))) (zai (d:=nint 8)) (ei▸zdc (by decide)))) ?_
 refine zad (ρ':=[(103,L),(97, .list ([c0,c1,c2,c3].map nint)),(47,nint k),(100,sg),(101,nint i),(62,dtx [cu,cv])]) (zao (epr rfl rfl rfl)) ?_
 obtain ⟨d,ed,h1,h4⟩:∃ d,1+c1 % 4=d∧1≤d∧d≤4:=⟨_,rfl,Nat.le_add_right _ _,by have:=Nat.mod_lt c1 (show 0<4 by decide);omega⟩
 refine zad (ρ':=[(103,L),(97, .list ([c0,c1,c2,c3].map nint)),(47,nint k),(100,sg),(101,nint i),(62,dtx [cu,cv]),(64,nint d)]) (ed▸yua (cs:=[c0,c1,c2,c3]) rfl rfl) ?_
 refine zad (ρ':=[(103,L),(97, .list ([c0,c1,c2,c3].map nint)),(47,nint k),(100,sg),(101,nint i),(62,dtx [cu,cv]),(64,nint d),(52,txs cu cv (znv d (zrb c2)))]) (yub F Q.code_ne Q.hu Q.hv (cs:=[c0,c1,c2,c3]) (c2:=c2) rfl rfl rfl rfl h1 h4) ?_
 have G:Good d (znv d (zrb c2)):=ymg h1 h4 rfl fun n m=>by
  obtain ⟨j,_,rfl⟩:=mmp m
  exact Nat.mod_lt _ (by decide)
 exact ytq F Q y G h4 (cs:=[c0,c1,c2,c3]) (c3:=c3) rfl rfl rfl rfl rfl rfl
end Internal
namespace Internal
theorem zdw {cal:Nat→List D→Option D} {n m:Nat} {cf:List D→Option D} (h:m≠n):put cal n cf m=cal m:=funext fun _=>if_neg h
theorem zhq {cal:Nat→List D→Option D} {n:Nat} {cf:List D→Option D}:put cal n cf n=cf:=funext fun _=>if_pos rfl
theorem zix {gl:Nat→Option D} {rz:Bool} {cal:Nat→List D→Option D} (h:∀ m,m<51→cal m=zkn m):Facts ⟨cal,gl,rz⟩ where
 c30:=h 30 (by decide)
 c26:=h 26 (by decide)
 c31:=h 31 (by decide)
 c32:=fun ps g a b c d=>by show cal 32 _=_;rw [h 32 (by decide)];exact yfr ps g a b c d
 c320:=fun x g a=>by show cal 32 _=_;rw [h 32 (by decide)];exact zzi x g a
 c46:=fun k l a b=>by show cal 46 _=_;rw [h 46 (by decide)];exact yfs k l a b
 c48:=fun k l a b=>by show cal 48 _=_;rw [h 48 (by decide)];exact yft k l a b
noncomputable def u51:List D→Option D:=fun ds=>zbb ⟨zkn,topGl,false⟩ zgk ds
noncomputable def v51:Nat→List D→Option D:=put zkn 51 u51
noncomputable def u66:List D→Option D:=fun ds=>zbb ⟨v51,topGl,false⟩ zfr ds
noncomputable def v66:Nat→List D→Option D:=put v51 66 u66
noncomputable def u73:List D→Option D:=fun ds=>zbb ⟨v66,topGl,false⟩ zgj ds
noncomputable def v73:Nat→List D→Option D:=put v66 73 u73
noncomputable def u75:List D→Option D:=fun ds=>zbb ⟨v73,topGl,false⟩ zfq ds
noncomputable def v75:Nat→List D→Option D:=put v73 75 u75
noncomputable def u79:List D→Option D:=fun ds=>zbb ⟨v75,topGl,false⟩ zev ds
noncomputable def v79:Nat→List D→Option D:=put v75 79 u79
noncomputable def u81:List D→Option D:=fun ds=>zbb ⟨v79,topGl,false⟩ zfp ds
noncomputable def v81:Nat→List D→Option D:=put v79 81 u81
theorem yei {m:Nat} (h:m<51):v51 m=zkn m:=zdw (by omega)
theorem ykt {m:Nat} (h:m≠66) (h1:m≠73) (h2:m≠75) (h3:m≠79):v79 m=v51 m:=(zdw h3:v79 m=v75 m).trans ((zdw h2:v75 m=v73 m).trans ((zdw h1:v73 m=v66 m).trans (zdw h)))
theorem yej {m:Nat} (h:m<51):v79 m=zkn m:=(ykt (by omega) (by omega) (by omega) (by omega)).trans (yei h)
theorem znn {m:Nat} (h:m≠81):v81 m=v79 m:=zdw h
theorem w51:v81 51=u51:=(znn (by decide)).trans ((ykt (by decide) (by decide) (by decide) (by decide)).trans zhq)
theorem w66:v81 66=u66:=(znn (by decide)).trans ((zdw (by decide):v79 66=v75 66).trans ((zdw (by decide):v75 66=v73 66).trans ((zdw (by decide):v73 66=v66 66).trans zhq)))
theorem w73:v81 73=u73:=(znn (by decide)).trans ((zdw (by decide):v79 73=v75 73).trans ((zdw (by decide):v75 73=v73 73).trans zhq))
theorem w75:v81 75=u75:=(znn (by decide)).trans ((zdw (by decide):v79 75=v75 75).trans zhq)
theorem w79:v81 79=u79:=(znn (by decide)).trans zhq
theorem ypf:Facts2 ⟨v81,topGl,false⟩:={ zix (gl:=topGl) (rz:=false) fun m h=>(znn (by omega)).trans (yej h) with
 c51:=fun cu cv d ns h hu hv h1 h4 hn=>(congrFun w51 _).trans (yhx h hu hv h1 h4 hn)
 c66:=fun k cu cv c dr R Q y Dd hb hne hl hR=>(congrFun w66 _).trans (ydd (zix fun m h=>yei h) Q y Dd hb hne hl hR)
 c73:=fun cu cv d inner t h ht hi hb=>(congrFun w73 _).trans (zwa h ht hi hb)
 c75:=fun cu cv d inner R h hi hb hR hl=>(congrFun w75 _).trans (ydc h (fun t ht=>(congrFun (zhq:v73 73=u73) _).trans (zwa h ht hi hb)) hR hl)
 c79:=fun cu cv p q R t h hp hq hR ht=>(congrFun w79 _).trans (zyc h hp hq hR ht)
 c81:=fun k cu cv c dr t Q y Dd hb hne ht hl hw=>(congrFun (zhq:v81 81=u81) _).trans (ydb (zix fun m h=>yej h) Q y Dd hb hne ht hl hw) }
section
variable {p prog:Program} {loose:List Str} {mean:ExcName→Option Value} {w:World} {h:Heap} {mg mb:Str→Option Value} {c1 P1 c2 P2:Addr}
theorem l2_pre:∀ (i:Nat) (x:Str),topNames[i]?=some x→zdf[i]?=some x:=fun i x hx=>by
 have hi:i<topNames.length:=by
  rcases Nat.lt_or_ge i topNames.length with q | q
  ·exact q
  ·rw [List.getElem?_eq_none q] at hx;exact nn hx
 unfold zdf
 rw [List.getElem?_append_left hi];exact hx
theorem law2_at (T:Top p loose mean mg mb h) (hT:TabsAt [(c1,P1),(c2,P2)] h) (hne:P1≠P2) (R:Shared5 p loose zdf (zme p "_int2digits") (zme p "_digits2int")) (hc1:zht mg h "_int2digits" c1) (hc2:zht mg h "_digits2int" c2)
  (r51:zep zdf p "_law_code" zgk ["pair", "degree", "picks"]=true) (r66:zep zdf p "_law_inner" zfr ["kind", "dress", "code", "reach"]=true) (r73:zep zdf p "_law_lack" zgj ["degree", "inner", "text"]=true) (r75:zep zdf p "_law_grown" zfq ["pair", "degree", "inner", "reach"]=true) (r79:zep zdf p "_law_weight" zev ["pair", "sizes", "text", "reach"]=true) (r81:zep zdf p "_law_found" zfp ["kind", "dress", "code", "text"]=true)
  (rl:zep zdf p "law" yjv ["script"]=true) {fa:Addr} {s₁:Shared} {vals:List Value} {xs:List Int} {Q:Value→Shared→Prop} {E:Value→Shared→Prop} (hs:s₁.heap=h) (htk:0<s₁.toks) (hmg:mg "law" = some (.ref fa)) (r:VReps w [] h vals [.list (xs.map PyData.int)])
  (q:∀ v s',Ext (gcOf prog w h mg mb c1 P1 c2 P2 (zme p "_int2digits") (zme p "_digits2int") zdf) s₁ s'→VRep w [] s'.heap v (.bool true)→Q v s'):wpAny (model prog w) callerA (call (.ref fa) vals) Q E s₁:=by
 have ok:GOK (gcOf prog w h mg mb c1 P1 c2 P2 (zme p "_int2digits") (zme p "_digits2int") zdf):=yij T hT hne R
 have gl:zhf (gcOf prog w h mg mb c1 P1 c2 P2 (zme p "_int2digits") (zme p "_digits2int") zdf) topGl:=ynj T hT hne R
 have f0:FunAt (gcOf prog w h mg mb c1 P1 c2 P2 (zme p "_int2digits") (zme p "_digits2int") zdf) zkn 43 239:=yqs T hT hne R hc1 hc2
 have f1:=FunAt.rc T hT ok gl (n:=51) (cf:=u51) (by omega) rfl r51 f0 fun ds d e=>e
 have f2:=FunAt.rc T hT ok gl (n:=66) (cf:=u66) (by omega) rfl r66 f1 fun ds d e=>e
 have f3:=FunAt.rc T hT ok gl (n:=73) (cf:=u73) (by omega) rfl r73 f2 fun ds d e=>e
 have f4:=FunAt.rc T hT ok gl (n:=75) (cf:=u75) (by omega) rfl r75 f3 fun ds d e=>e
 have f5:=FunAt.rc T hT ok gl (n:=79) (cf:=u79) (by omega) rfl r79 f4 fun ds d e=>e
 have f6:=FunAt.rc T hT ok gl (n:=81) (cf:=u81) (by omega) rfl r81 f5 fun ds d e=>e
 exact yqr T hT hne R hs htk (cal:=v81) f6 (by omega) (by omega) rl hmg r (yic ypf xs) q
end
end Internal
open PySem PySem.W PySem.W.X PySem.W.ZRun PyProof.Rows PySem.Calls PySem.Spec
set_option maxRecDepth 100000 in
set_option maxHeartbeats 0 in
theorem PySem.Challenge.cw_tc0039_02_holds : PySem.Challenge.rw_tc0039_02.Holds := by
 w_on
 refine holds_law (by decide +kernel) fun said=>?_
 refine holds_openX (q:=Internal.viewOf PySem.Challenge.pw_tc0039_02) (loose:=[]) (Xt:=fun s=>xlAt (Internal.viewOf PySem.Challenge.pw_tc0039_02) [] s&&recOk (RowW.records (PySem.Challenge.rw_tc0039_02).row.toRowW) s) (XP:=XL (Internal.viewOf PySem.Challenge.pw_tc0039_02) []) (Yf:=Internal.obs5) (Ya:=Internal.val5 37 44 391) (N:=2000) ?hl (fun s e=>xl_of s (Bool.and_eq_true_iff.mp e).1) XL.keeps (by rfl) (by rfl) (by rfl) (fun s e=>recFacts_of (Bool.and_eq_true_iff.mp e).2) (by rfl) (by first | assumption | decide +kernel) (by decide +kernel) ⟨rfl,rfl,rfl,rfl,rfl,by decide +kernel⟩ ?hw ?hc
 case hw=>w_witness2
 case hl=>intro w;kernel_rfl
 intro w s₀ s₁ mg mb G y fa o pm cd doc dV kV ho hd hcd hD hmg hg args vals as L hpre hlay hrd hwl hlo
 refine Ground.open G ?_
 intro T B D TE TW
 clear ho hd hcd hD
 wrow_args hpre hlay hrd hwl hlo
 obtain ⟨ht,c1,c2,hT,hc1,hc2⟩:=Internal.obs_at y L.keeps T rfl rfl
 have htk:=script_toks L ht
 refine Internal.law2_at T hT (by decide) ?R hc1 hc2 ?r51 ?r66 ?r73 ?r75 ?r79 ?r81 ?rl rfl (Nat.lt_of_lt_of_le (by decide) htk) hmg (Internal.script_reps (by assumption) (by assumption) (by omega)) fun v s' x r=>Internal.gc_end hT x r hg (fun _ _=>rfl) (by wrow_post)
 case R=>exact {
  nd:=by decide +kernel
  pre:=Internal.l2_pre
  nb:=by decide +kernel
  g23:=by kernel_rfl
  g39:=by kernel_rfl
  b:=by decide +kernel
  r12:=by decide +kernel
  r24:=by decide +kernel
  r31:=by decide +kernel
  r32:=by decide +kernel
  r40:=by decide +kernel
  r42:=by decide +kernel
  r43:=by decide +kernel
  r44:=by decide +kernel
  r45:=by decide +kernel
  r46:=by decide +kernel
  r48:=by decide +kernel }
 case r51=>decide +kernel
 case r66=>decide +kernel
 case r73=>decide +kernel
 case r75=>decide +kernel
 case r79=>decide +kernel
 case r81=>decide +kernel
 case rl=>decide +kernel
