import PyProof.Rows.All
import Wide.All
import OpenK.AllK
import Wide.FinOn
import Lean
import PySem.Challenge.RW_tc0039_03

open PySem PySem.W PyProof.Rows PySem.Calls PySem.Spec
set_option Elab.async false
set_option maxRecDepth 100000
set_option linter.unusedVariables false
set_option linter.unusedSectionVars false
set_option bootstrap.genMatcherCode false
set_option genSizeOf false
set_option genInjectivity false
set_option genCtorIdx false
set_option tactic.hygienic false
namespace Internal
end Internal
namespace Internal
abbrev ba := Value → Shared → Prop
abbrev aB := List Bool
abbrev aN := List Nat
abbrev a9 := List Addr
abbrev fO := List Value
abbrev dN := List Expr
abbrev ez := List Stmt
theorem aS {α : Type u} {a b : α} (h : a ∈ [b]) : a = b := List.mem_singleton.mp h
theorem bA {α : Type u} {a b : α} {l : List α} (h : a ∈ b :: l) : a = b ∨ a ∈ l := List.mem_cons.mp h
theorem eh {α : Type u} (b : α) {a : α} {l : List α} (h : a ∈ l) : a ∈ b :: l := List.mem_cons_of_mem _ h
theorem dX {α : Type u} {a : α} {l : List α} : a ∈ a :: l := List.mem_cons_self
theorem aG {α : Type u} {a b : α} (h : some a = some b) : a = b := Option.some.inj h
theorem cE {a b : Bool} (h : (a && b) = true) : a = true ∧ b = true := Bool.and_eq_true_iff.mp h
theorem eM {α : Type u} [BEq α] [LawfulBEq α] {a b : α} (h : (a == b) = true) : a = b := beq_iff_eq.mp h
theorem cy {α : Type u} {a : α} {l r : List α} (h : a ∈ l ++ r) : a ∈ l ∨ a ∈ r := List.mem_append.mp h
theorem br {α : Type u} {p : α → Bool} {l : List α} (h : l.all p = true) : ∀ x ∈ l, p x = true := List.all_eq_true.mp h
theorem iz {α : Type u} {β : Type v} {f : α → β} {l : List α} {b : β} (h : b ∈ l.map f) : ∃ a, a ∈ l ∧ f a = b := List.mem_map.mp h
theorem aH {α β : Type} {M : Model} {A : Around} {E : Value → Shared → Prop} {s : Shared} {m : Sem α} {f : α → Sem β} {Q : β → Shared → Prop} (h : wpAny M A m (fun a s => wpAny M A (f a) Q E s) E s) : wpAny M A (m >>= f) Q E s := wpAny_bind h
theorem bg {α : Type} {M : Model} {A : Around} {E : Value → Shared → Prop} {s : Shared} {a : α} {Q : α → Shared → Prop} (h : Q a s) : wpAny M A (pure a) Q E s := wpAny_pure h
theorem bJ {p : Prop} [Decidable p] (h : decide p = true) : p := of_decide_eq_true h
theorem dg {p : Prop} [Decidable p] (h : p) : decide p = true := decide_eq_true h
theorem cG {p : Prop} [Decidable p] (h : ¬p) : decide p = false := decide_eq_false h
theorem jE {p : Prop} [Decidable p] : (decide p = true) = p := decide_eq_true_eq
theorem aJ {n m k : Nat} (h : n ≤ m) (e : m ≤ k) : n ≤ k := Nat.le_trans h e
theorem kS {n m k : Nat} (h : n < m) (e : m ≤ k) : n < k := Nat.lt_of_lt_of_le h e
theorem lC {n m k : Nat} (h : n ≤ m) (e : m < k) : n < k := Nat.lt_of_le_of_lt h e
theorem il {n m : Nat} (h : n < m) : n ≤ m := Nat.le_of_lt h
theorem fc (n : Nat) : n ≤ n := Nat.le_refl n
theorem gL (n : Nat) : 0 ≤ n := Nat.zero_le n
theorem nr (n k : Nat) : n ≤ n + k := Nat.le_add_right n k
theorem oG {n m : Nat} (k : Nat) (h : n ≤ m) : n * k ≤ m * k := Nat.mul_le_mul_right k h
theorem tV {n m : Nat} (h : Nat.beq n m = true) : n = m := Nat.eq_of_beq_eq_true h
theorem qx {a b c d : Nat} (h : a ≤ b) (e : c ≤ d) : a + c ≤ b + d := Nat.add_le_add h e
theorem dR {α : Type u} {as bs : List α} : (as ++ bs).length = as.length + bs.length := List.length_append
theorem dx {α : Type u} {β : Type v} {l : List α} (f : α → β) : (l.map f).length = l.length := List.length_map f
theorem sW {α : Type u} {a : α} {l : List α} : (a :: l).length = l.length + 1 := List.length_cons
theorem hJ {α : Type u} {b : α} (l : List α) {m : List α} (h : b ∈ m) : b ∈ l ++ m := List.mem_append_right l h
theorem ij {α : Type u} {b : α} {l : List α} (m : List α) (h : b ∈ l) : b ∈ l ++ m := List.mem_append_left m h
theorem i8 {α : Type u} {β : Type v} {f : α → β} {a : α} {l : List α} : (a :: l).map f = f a :: l.map f := List.map_cons
theorem qw {α : Type u} {l : List α} {i : Nat} {a : α} (h : l[i]? = some a) : a ∈ l := List.mem_of_getElem? h
theorem kR {α : Type u} {β : Type v} {γ : Type w} {g : β → γ} {f : α → β} {l : List α} : (l.map f).map g = l.map (g ∘ f) := List.map_map
theorem eO (a b : Bool) : ((a && b) = true) = (a = true ∧ b = true) := Bool.and_eq_true a b
theorem jX {a b : Bool} (h : a = true ∧ b = true) : (a && b) = true := Bool.and_eq_true_iff.mpr h
theorem g6 : (false : Bool) ≠ true := Bool.false_ne_true
theorem i5 {α : Type u} {x : Array α} : x.toList.length = x.size := Array.length_toList
theorem gv {h : Heap} {a : Addr} {b : Obj} (o : Obj) (e : h.get? a = some b) : (h.push o).get? a = some b := Heap.get?_push_of_some o e
theorem iV (h : Heap) {o : Obj} (e : o.isFreed = false) : (h.push o).get? h.objs.size = some o := Heap.get?_push_size h e
theorem mY (n : Nat) : (n : Int).toNat = n := Int.toNat_natCast n
theorem Dm {α : Type u} {l : List α} {i : Nat} (h : l.length ≤ i) : l[i]? = none := List.getElem?_eq_none h
end Internal
noncomputable section
namespace Internal
section
theorem ff {P:Prop}(h:false=true):P:=Bool.noConfusion h
theorem nn {x:α}{P:Prop}(h:(none:Option α)=some x):P:=Option.noConfusion rfl (heq_of_eq h)
theorem qp {a b c:Nat}(h:a<=b)(k:Nat.ble b c=true):a<=c:=aJ h (Nat.le_of_ble_eq_true k)
theorem NP {a b c:Nat}(h:a<=b)(k:Nat.ble (b+1) c=true):a<c:=lC h (Nat.le_of_ble_eq_true k)
theorem NO {a b c d e:Nat}(h:a<=b)(g:c<=d)(k:Nat.ble (b+d) e=true):a+c<=e:=aJ (qx h g) (Nat.le_of_ble_eq_true k)
section
variable {α:Type}
noncomputable def bu (l:List α)(k:α->List α->Bool):Bool:=match l with|x::r=>k x r|[]=>false
@[elab_as_elim] theorem ay {k:α->List α->Bool}{P:List α->Prop}(h:bu l k=true)(q:∀x r,k x r=true->P (x::r)):P l:=by
 cases l with
 |nil=>exact ff h
 |cons x r=>exact q x r h
noncomputable def bK (l:List α)(k:Bool):Bool:=match l with|[]=>k|_::_=>false
@[elab_as_elim] theorem aI {k:Bool}{P:List α->Prop}(h:bK l k=true)(q:k=true->P []):P l:=by
 cases l with
 |nil=>exact q h
 |cons x r=>exact ff h
noncomputable def gB (l:Option α)(k:Bool):Bool:=match l with|none=>k|some _=>false
@[elab_as_elim] theorem cW {k:Bool}{P:Option α->Prop}(h:gB l k=true)(q:k=true->P none):P l:=by
 cases l with
 |none=>exact q h
 |some x=>exact ff h
noncomputable def iL (l:Option α)(k:α->Bool):Bool:=match l with|some x=>k x|none=>false
theorem A2 {l:Option α}{k:α->Bool}(h:iL l k=true):∃x,l=some x/\k x=true:=by
 cases l with
 |none=>exact ff h
 |some x=>exact⟨x,rfl,h⟩
@[elab_as_elim] theorem eH {k:α->Bool}{P:Option α->Prop}(h:iL l k=true)(q:∀x,k x=true->P (some x)):P l:=by
 cases l with
 |none=>exact ff h
 |some x=>exact q x h
noncomputable def DM {β:Type}[DecidableEq β](a b:β)(k:Bool):Bool:=if a=b then k else false
@[elab_as_elim] theorem ry [DecidableEq β] {k:Bool}{P:β->Prop}(h:DM a b k=true)(q:k=true->P b):P a:=by
 unfold DM at h;by_cases e:a=b
 .rw[if_pos e]at h;exact e▸q h
 .rw[if_neg e]at h;exact ff h
noncomputable def te (l:Const)(k:Str->Bool):Bool:=match l with|.str x=>k x|_=>false
@[elab_as_elim] theorem jr {k:Str->Bool}{P:Const->Prop}(h:te l k=true)(q:∀x,k x=true->P (.str x)):P l:=by
 cases l with
 |str x=>exact q x h
 |_=>exact ff h
noncomputable def zr (l:Const)(k:Bool->Bool):Bool:=match l with|.bool x=>k x|_=>false
@[elab_as_elim] theorem td {k:Bool->Bool}{P:Const->Prop}(h:zr l k=true)(q:∀x,k x=true->P (.bool x)):P l:=by
 cases l with
 |bool x=>exact q x h
 |_=>exact ff h
noncomputable def NR (l:ExceptHandler)(k:Option Expr->Option Str->ez->Pos->Bool):Bool:=match l with|.ExceptHandler a b c d=>k a b c d
@[elab_as_elim] theorem DN {k:Option Expr->Option Str->ez->Pos->Bool}{P:ExceptHandler->Prop}(h:NR l k=true)(q:∀a b c d,k a b c d=true->P (.ExceptHandler a b c d)):P l:=by
 cases l with
 |ExceptHandler a b c d=>exact q a b c d h
theorem both (h:(a&&b)=true):a=true/\b=true:=cE h
theorem Lo {p:Prop}(h:false=true):p:=Bool.noConfusion h
end
theorem dt [Decidable c]{f:c->Bool}(h:(if x:c then f x else false)=true):∃x:c,f x=true:=by
 by_cases x:c
 .exact⟨x,by rw[dif_pos x]at h;exact h⟩
 .rw[dif_neg x]at h;exact Lo h
noncomputable def bh (e:Expr)(k:Str->Pos->Bool):Bool:=if h:e.ctorIdx=23 then Expr.Name.elim (motive_1:=fun _=>Bool) e h k else false
@[elab_as_elim] theorem aA {k:Str->Pos->Bool}{P:Expr->Prop}(h:bh e k=true)(q:∀x0 x1,k x0 x1=true->P (.Name x0 x1)):P e :=
 let⟨x,hx⟩:=dt h
 Expr.Name.elim (motive_1:=fun e=>∀x:e.ctorIdx=23,Expr.Name.elim (motive_1:=fun _=>Bool) e x k=true->P e) e x (fun x0 x1 _ hk=>q x0 x1 hk) x hx
noncomputable def et (e:Expr)(k:Const->Nat->Pos->Bool):Bool:=if h:e.ctorIdx=19 then Expr.Constant.elim (motive_1:=fun _=>Bool) e h k else false
@[elab_as_elim] theorem cz {k:Const->Nat->Pos->Bool}{P:Expr->Prop}(h:et e k=true)(q:∀x0 x1 x2,k x0 x1 x2=true->P (.Constant x0 x1 x2)):P e :=
 let⟨x,hx⟩:=dt h
 Expr.Constant.elim (motive_1:=fun e=>∀x:e.ctorIdx=19,Expr.Constant.elim (motive_1:=fun _=>Bool) e x k=true->P e) e x (fun x0 x1 x2 _ hk=>q x0 x1 x2 hk) x hx
noncomputable def oI (e:Expr)(k:Expr->Operator->Expr->Pos->Bool):Bool:=if h:e.ctorIdx=2 then Expr.BinOp.elim (motive_1:=fun _=>Bool) e h k else false
@[elab_as_elim] theorem iI {k:Expr->Operator->Expr->Pos->Bool}{P:Expr->Prop}(h:oI e k=true)(q:∀x0 x1 x2 x3,k x0 x1 x2 x3=true->P (.BinOp x0 x1 x2 x3)):P e :=
 let⟨x,hx⟩:=dt h
 Expr.BinOp.elim (motive_1:=fun e=>∀x:e.ctorIdx=2,Expr.BinOp.elim (motive_1:=fun _=>Bool) e x k=true->P e) e x (fun x0 x1 x2 x3 _ hk=>q x0 x1 x2 x3 hk) x hx
noncomputable def jS (e:Expr)(k:UnaryOp->Expr->Pos->Bool):Bool:=if h:e.ctorIdx=3 then Expr.UnaryOp.elim (motive_1:=fun _=>Bool) e h k else false
@[elab_as_elim] theorem jt {k:UnaryOp->Expr->Pos->Bool}{P:Expr->Prop}(h:jS e k=true)(q:∀x0 x1 x2,k x0 x1 x2=true->P (.UnaryOp x0 x1 x2)):P e :=
 let⟨x,hx⟩:=dt h
 Expr.UnaryOp.elim (motive_1:=fun e=>∀x:e.ctorIdx=3,Expr.UnaryOp.elim (motive_1:=fun _=>Bool) e x k=true->P e) e x (fun x0 x1 x2 _ hk=>q x0 x1 x2 hk) x hx
noncomputable def rx (e:Expr)(k:Expr->(List CmpOp)->dN->Pos->Bool):Bool:=if h:e.ctorIdx=15 then Expr.Compare.elim (motive_1:=fun _=>Bool) e h k else false
@[elab_as_elim] theorem pO {k:Expr->(List CmpOp)->dN->Pos->Bool}{P:Expr->Prop}(h:rx e k=true)(q:∀x0 x1 x2 x3,k x0 x1 x2 x3=true->P (.Compare x0 x1 x2 x3)):P e :=
 let⟨x,hx⟩:=dt h
 Expr.Compare.elim (motive_1:=fun e=>∀x:e.ctorIdx=15,Expr.Compare.elim (motive_1:=fun _=>Bool) e x k=true->P e) e x (fun x0 x1 x2 x3 _ hk=>q x0 x1 x2 x3 hk) x hx
noncomputable def vB (e:Expr)(k:BoolOp->dN->Pos->Bool):Bool:=if h:e.ctorIdx=0 then Expr.BoolOp.elim (motive_1:=fun _=>Bool) e h k else false
@[elab_as_elim] theorem qy {k:BoolOp->dN->Pos->Bool}{P:Expr->Prop}(h:vB e k=true)(q:∀x0 x1 x2,k x0 x1 x2=true->P (.BoolOp x0 x1 x2)):P e :=
 let⟨x,hx⟩:=dt h
 Expr.BoolOp.elim (motive_1:=fun e=>∀x:e.ctorIdx=0,Expr.BoolOp.elim (motive_1:=fun _=>Bool) e x k=true->P e) e x (fun x0 x1 x2 _ hk=>q x0 x1 x2 hk) x hx
noncomputable def tq (e:Expr)(k:Expr->Expr->Expr->Pos->Bool):Bool:=if h:e.ctorIdx=5 then Expr.IfExp.elim (motive_1:=fun _=>Bool) e h k else false
@[elab_as_elim] theorem lG {k:Expr->Expr->Expr->Pos->Bool}{P:Expr->Prop}(h:tq e k=true)(q:∀x0 x1 x2 x3,k x0 x1 x2 x3=true->P (.IfExp x0 x1 x2 x3)):P e :=
 let⟨x,hx⟩:=dt h
 Expr.IfExp.elim (motive_1:=fun e=>∀x:e.ctorIdx=5,Expr.IfExp.elim (motive_1:=fun _=>Bool) e x k=true->P e) e x (fun x0 x1 x2 x3 _ hk=>q x0 x1 x2 x3 hk) x hx
noncomputable def xh (e:Expr)(k:dN->Pos->Bool):Bool:=if h:e.ctorIdx=24 then Expr.List.elim (motive_1:=fun _=>Bool) e h k else false
@[elab_as_elim] theorem nB {k:dN->Pos->Bool}{P:Expr->Prop}(h:xh e k=true)(q:∀x0 x1,k x0 x1=true->P (.List x0 x1)):P e :=
 let⟨x,hx⟩:=dt h
 Expr.List.elim (motive_1:=fun e=>∀x:e.ctorIdx=24,Expr.List.elim (motive_1:=fun _=>Bool) e x k=true->P e) e x (fun x0 x1 _ hk=>q x0 x1 hk) x hx
noncomputable def fX (e:Expr)(k:dN->Nat->Pos->Bool):Bool:=if h:e.ctorIdx=25 then Expr.Tuple.elim (motive_1:=fun _=>Bool) e h k else false
@[elab_as_elim] theorem dK {k:dN->Nat->Pos->Bool}{P:Expr->Prop}(h:fX e k=true)(q:∀x0 x1 x2,k x0 x1 x2=true->P (.Tuple x0 x1 x2)):P e :=
 let⟨x,hx⟩:=dt h
 Expr.Tuple.elim (motive_1:=fun e=>∀x:e.ctorIdx=25,Expr.Tuple.elim (motive_1:=fun _=>Bool) e x k=true->P e) e x (fun x0 x1 x2 _ hk=>q x0 x1 x2 hk) x hx
noncomputable def DL (e:Expr)(k:(List (Option Expr))->dN->Pos->Bool):Bool:=if h:e.ctorIdx=6 then Expr.Dict.elim (motive_1:=fun _=>Bool) e h k else false
@[elab_as_elim] theorem vC {k:(List (Option Expr))->dN->Pos->Bool}{P:Expr->Prop}(h:DL e k=true)(q:∀x0 x1 x2,k x0 x1 x2=true->P (.Dict x0 x1 x2)):P e :=
 let⟨x,hx⟩:=dt h
 Expr.Dict.elim (motive_1:=fun e=>∀x:e.ctorIdx=6,Expr.Dict.elim (motive_1:=fun _=>Bool) e x k=true->P e) e x (fun x0 x1 x2 _ hk=>q x0 x1 x2 hk) x hx
noncomputable def iJ (e:Expr)(k:Expr->(List Comprehension)->Scope->Pos->Bool):Bool:=if h:e.ctorIdx=8 then Expr.ListComp.elim (motive_1:=fun _=>Bool) e h k else false
@[elab_as_elim] theorem d7 {k:Expr->(List Comprehension)->Scope->Pos->Bool}{P:Expr->Prop}(h:iJ e k=true)(q:∀x0 x1 x2 x3,k x0 x1 x2 x3=true->P (.ListComp x0 x1 x2 x3)):P e :=
 let⟨x,hx⟩:=dt h
 Expr.ListComp.elim (motive_1:=fun e=>∀x:e.ctorIdx=8,Expr.ListComp.elim (motive_1:=fun _=>Bool) e x k=true->P e) e x (fun x0 x1 x2 x3 _ hk=>q x0 x1 x2 x3 hk) x hx
noncomputable def jR (e:Expr)(k:Expr->(List Comprehension)->Scope->Pos->Bool):Bool:=if h:e.ctorIdx=9 then Expr.SetComp.elim (motive_1:=fun _=>Bool) e h k else false
@[elab_as_elim] theorem gE {k:Expr->(List Comprehension)->Scope->Pos->Bool}{P:Expr->Prop}(h:jR e k=true)(q:∀x0 x1 x2 x3,k x0 x1 x2 x3=true->P (.SetComp x0 x1 x2 x3)):P e :=
 let⟨x,hx⟩:=dt h
 Expr.SetComp.elim (motive_1:=fun e=>∀x:e.ctorIdx=9,Expr.SetComp.elim (motive_1:=fun _=>Bool) e x k=true->P e) e x (fun x0 x1 x2 x3 _ hk=>q x0 x1 x2 x3 hk) x hx
noncomputable def kA (e:Expr)(k:Expr->Expr->(List Comprehension)->Scope->Pos->Bool):Bool:=if h:e.ctorIdx=10 then Expr.DictComp.elim (motive_1:=fun _=>Bool) e h k else false
@[elab_as_elim] theorem iY {k:Expr->Expr->(List Comprehension)->Scope->Pos->Bool}{P:Expr->Prop}(h:kA e k=true)(q:∀x0 x1 x2 x3 x4,k x0 x1 x2 x3 x4=true->P (.DictComp x0 x1 x2 x3 x4)):P e :=
 let⟨x,hx⟩:=dt h
 Expr.DictComp.elim (motive_1:=fun e=>∀x:e.ctorIdx=10,Expr.DictComp.elim (motive_1:=fun _=>Bool) e x k=true->P e) e x (fun x0 x1 x2 x3 x4 _ hk=>q x0 x1 x2 x3 x4 hk) x hx
noncomputable def tj (e:Expr)(k:Expr->dN->(List Keyword)->Pos->Bool):Bool:=if h:e.ctorIdx=16 then Expr.Call.elim (motive_1:=fun _=>Bool) e h k else false
@[elab_as_elim] theorem ny {k:Expr->dN->(List Keyword)->Pos->Bool}{P:Expr->Prop}(h:tj e k=true)(q:∀x0 x1 x2 x3,k x0 x1 x2 x3=true->P (.Call x0 x1 x2 x3)):P e :=
 let⟨x,hx⟩:=dt h
 Expr.Call.elim (motive_1:=fun e=>∀x:e.ctorIdx=16,Expr.Call.elim (motive_1:=fun _=>Bool) e x k=true->P e) e x (fun x0 x1 x2 x3 _ hk=>q x0 x1 x2 x3 hk) x hx
noncomputable def nv (e:Expr)(k:Expr->Str->Pos->Bool):Bool:=if h:e.ctorIdx=20 then Expr.Attribute.elim (motive_1:=fun _=>Bool) e h k else false
@[elab_as_elim] theorem m4 {k:Expr->Str->Pos->Bool}{P:Expr->Prop}(h:nv e k=true)(q:∀x0 x1 x2,k x0 x1 x2=true->P (.Attribute x0 x1 x2)):P e :=
 let⟨x,hx⟩:=dt h
 Expr.Attribute.elim (motive_1:=fun e=>∀x:e.ctorIdx=20,Expr.Attribute.elim (motive_1:=fun _=>Bool) e x k=true->P e) e x (fun x0 x1 x2 _ hk=>q x0 x1 x2 hk) x hx
noncomputable def eI (e:Expr)(k:Expr->Expr->Pos->Bool):Bool:=if h:e.ctorIdx=21 then Expr.Subscript.elim (motive_1:=fun _=>Bool) e h k else false
@[elab_as_elim] theorem cQ {k:Expr->Expr->Pos->Bool}{P:Expr->Prop}(h:eI e k=true)(q:∀x0 x1 x2,k x0 x1 x2=true->P (.Subscript x0 x1 x2)):P e :=
 let⟨x,hx⟩:=dt h
 Expr.Subscript.elim (motive_1:=fun e=>∀x:e.ctorIdx=21,Expr.Subscript.elim (motive_1:=fun _=>Bool) e x k=true->P e) e x (fun x0 x1 x2 _ hk=>q x0 x1 x2 hk) x hx
noncomputable def tu (e:Expr)(k:(Option Expr)->(Option Expr)->(Option Expr)->Pos->Bool):Bool:=if h:e.ctorIdx=26 then Expr.Slice.elim (motive_1:=fun _=>Bool) e h k else false
@[elab_as_elim] theorem ty {k:(Option Expr)->(Option Expr)->(Option Expr)->Pos->Bool}{P:Expr->Prop}(h:tu e k=true)(q:∀x0 x1 x2 x3,k x0 x1 x2 x3=true->P (.Slice x0 x1 x2 x3)):P e :=
 let⟨x,hx⟩:=dt h
 Expr.Slice.elim (motive_1:=fun e=>∀x:e.ctorIdx=26,Expr.Slice.elim (motive_1:=fun _=>Bool) e x k=true->P e) e x (fun x0 x1 x2 x3 _ hk=>q x0 x1 x2 x3 hk) x hx
noncomputable def zt (e:Stmt)(k:Expr->ez->ez->Pos->Bool):Bool:=if h:e.ctorIdx=12 then Stmt.If.elim (motive_2:=fun _=>Bool) e h k else false
@[elab_as_elim] theorem kC {k:Expr->ez->ez->Pos->Bool}{P:Stmt->Prop}(h:zt e k=true)(q:∀x0 x1 x2 x3,k x0 x1 x2 x3=true->P (.If x0 x1 x2 x3)):P e :=
 let⟨x,hx⟩:=dt h
 Stmt.If.elim (motive_2:=fun e=>∀x:e.ctorIdx=12,Stmt.If.elim (motive_2:=fun _=>Bool) e x k=true->P e) e x (fun x0 x1 x2 x3 _ hk=>q x0 x1 x2 x3 hk) x hx
noncomputable def rB (e:Stmt)(k:dN->Expr->Pos->Bool):Bool:=if h:e.ctorIdx=5 then Stmt.Assign.elim (motive_2:=fun _=>Bool) e h k else false
@[elab_as_elim] theorem pS {k:dN->Expr->Pos->Bool}{P:Stmt->Prop}(h:rB e k=true)(q:∀x0 x1 x2,k x0 x1 x2=true->P (.Assign x0 x1 x2)):P e :=
 let⟨x,hx⟩:=dt h
 Stmt.Assign.elim (motive_2:=fun e=>∀x:e.ctorIdx=5,Stmt.Assign.elim (motive_2:=fun _=>Bool) e x k=true->P e) e x (fun x0 x1 x2 _ hk=>q x0 x1 x2 hk) x hx
noncomputable def jQ (e:Stmt)(k:(Option Expr)->Pos->Bool):Bool:=if h:e.ctorIdx=3 then Stmt.Return.elim (motive_2:=fun _=>Bool) e h k else false
@[elab_as_elim] theorem gD {k:(Option Expr)->Pos->Bool}{P:Stmt->Prop}(h:jQ e k=true)(q:∀x0 x1,k x0 x1=true->P (.Return x0 x1)):P e :=
 let⟨x,hx⟩:=dt h
 Stmt.Return.elim (motive_2:=fun e=>∀x:e.ctorIdx=3,Stmt.Return.elim (motive_2:=fun _=>Bool) e x k=true->P e) e x (fun x0 x1 _ hk=>q x0 x1 hk) x hx
noncomputable def oJ (e:Stmt)(k:Expr->Pos->Bool):Bool:=if h:e.ctorIdx=24 then Stmt.Expr.elim (motive_2:=fun _=>Bool) e h k else false
@[elab_as_elim] theorem iK {k:Expr->Pos->Bool}{P:Stmt->Prop}(h:oJ e k=true)(q:∀x0 x1,k x0 x1=true->P (.Expr x0 x1)):P e :=
 let⟨x,hx⟩:=dt h
 Stmt.Expr.elim (motive_2:=fun e=>∀x:e.ctorIdx=24,Stmt.Expr.elim (motive_2:=fun _=>Bool) e x k=true->P e) e x (fun x0 x1 _ hk=>q x0 x1 hk) x hx
noncomputable def gC (e:Stmt)(k:Str->Arguments->ez->dN->(Option Expr)->(List TypeParam)->Scope->(Option Scope)->Str->Pos->Bool):Bool:=if h:e.ctorIdx=0 then Stmt.FunctionDef.elim (motive_2:=fun _=>Bool) e h k else false
@[elab_as_elim] theorem jY {k:Str->Arguments->ez->dN->(Option Expr)->(List TypeParam)->Scope->(Option Scope)->Str->Pos->Bool}{P:Stmt->Prop}(h:gC e k=true)(q:∀x0 x1 x2 x3 x4 x5 x6 x7 x8 x9,k x0 x1 x2 x3 x4 x5 x6 x7 x8 x9=true->P (.FunctionDef x0 x1 x2 x3 x4 x5 x6 x7 x8 x9)):P e :=
 let⟨x,hx⟩:=dt h
 Stmt.FunctionDef.elim (motive_2:=fun e=>∀x:e.ctorIdx=0,Stmt.FunctionDef.elim (motive_2:=fun _=>Bool) e x k=true->P e) e x (fun x0 x1 x2 x3 x4 x5 x6 x7 x8 x9 _ hk=>q x0 x1 x2 x3 x4 x5 x6 x7 x8 x9 hk) x hx
noncomputable def vF (e:Stmt)(k:(Option Expr)->(Option Expr)->Pos->Bool):Bool:=if h:e.ctorIdx=16 then Stmt.Raise.elim (motive_2:=fun _=>Bool) e h k else false
@[elab_as_elim] theorem qz {k:(Option Expr)->(Option Expr)->Pos->Bool}{P:Stmt->Prop}(h:vF e k=true)(q:∀x0 x1 x2,k x0 x1 x2=true->P (.Raise x0 x1 x2)):P e :=
 let⟨x,hx⟩:=dt h
 Stmt.Raise.elim (motive_2:=fun e=>∀x:e.ctorIdx=16,Stmt.Raise.elim (motive_2:=fun _=>Bool) e x k=true->P e) e x (fun x0 x1 x2 _ hk=>q x0 x1 x2 hk) x hx
noncomputable def xj (e:Stmt)(k:ez->(List ExceptHandler)->ez->ez->Pos->Bool):Bool:=if h:e.ctorIdx=17 then Stmt.Try.elim (motive_2:=fun _=>Bool) e h k else false
@[elab_as_elim] theorem nD {k:ez->(List ExceptHandler)->ez->ez->Pos->Bool}{P:Stmt->Prop}(h:xj e k=true)(q:∀x0 x1 x2 x3 x4,k x0 x1 x2 x3 x4=true->P (.Try x0 x1 x2 x3 x4)):P e :=
 let⟨x,hx⟩:=dt h
 Stmt.Try.elim (motive_2:=fun e=>∀x:e.ctorIdx=17,Stmt.Try.elim (motive_2:=fun _=>Bool) e x k=true->P e) e x (fun x0 x1 x2 x3 x4 _ hk=>q x0 x1 x2 x3 x4 hk) x hx
noncomputable def lH (e:Stmt)(k:Expr->Operator->Expr->Pos->Bool):Bool:=if h:e.ctorIdx=7 then Stmt.AugAssign.elim (motive_2:=fun _=>Bool) e h k else false
@[elab_as_elim] theorem lI {k:Expr->Operator->Expr->Pos->Bool}{P:Stmt->Prop}(h:lH e k=true)(q:∀x0 x1 x2 x3,k x0 x1 x2 x3=true->P (.AugAssign x0 x1 x2 x3)):P e :=
 let⟨x,hx⟩:=dt h
 Stmt.AugAssign.elim (motive_2:=fun e=>∀x:e.ctorIdx=7,Stmt.AugAssign.elim (motive_2:=fun _=>Bool) e x k=true->P e) e x (fun x0 x1 x2 x3 _ hk=>q x0 x1 x2 x3 hk) x hx
noncomputable def xi (e:Stmt)(k:Expr->Expr->ez->ez->Pos->Bool):Bool:=if h:e.ctorIdx=9 then Stmt.For.elim (motive_2:=fun _=>Bool) e h k else false
@[elab_as_elim] theorem nC {k:Expr->Expr->ez->ez->Pos->Bool}{P:Stmt->Prop}(h:xi e k=true)(q:∀x0 x1 x2 x3 x4,k x0 x1 x2 x3 x4=true->P (.For x0 x1 x2 x3 x4)):P e :=
 let⟨x,hx⟩:=dt h
 Stmt.For.elim (motive_2:=fun e=>∀x:e.ctorIdx=9,Stmt.For.elim (motive_2:=fun _=>Bool) e x k=true->P e) e x (fun x0 x1 x2 x3 x4 _ hk=>q x0 x1 x2 x3 x4 hk) x hx
noncomputable def rA (e:Stmt)(k:Expr->(Option Expr)->Pos->Bool):Bool:=if h:e.ctorIdx=19 then Stmt.Assert.elim (motive_2:=fun _=>Bool) e h k else false
@[elab_as_elim] theorem pR {k:Expr->(Option Expr)->Pos->Bool}{P:Stmt->Prop}(h:rA e k=true)(q:∀x0 x1 x2,k x0 x1 x2=true->P (.Assert x0 x1 x2)):P e :=
 let⟨x,hx⟩:=dt h
 Stmt.Assert.elim (motive_2:=fun e=>∀x:e.ctorIdx=19,Stmt.Assert.elim (motive_2:=fun _=>Bool) e x k=true->P e) e x (fun x0 x1 x2 _ hk=>q x0 x1 x2 hk) x hx
noncomputable def rC (e:Stmt)(k:dN->Pos->Bool):Bool:=if h:e.ctorIdx=4 then Stmt.Delete.elim (motive_2:=fun _=>Bool) e h k else false
@[elab_as_elim] theorem pT {k:dN->Pos->Bool}{P:Stmt->Prop}(h:rC e k=true)(q:∀x0 x1,k x0 x1=true->P (.Delete x0 x1)):P e :=
 let⟨x,hx⟩:=dt h
 Stmt.Delete.elim (motive_2:=fun e=>∀x:e.ctorIdx=4,Stmt.Delete.elim (motive_2:=fun _=>Bool) e x k=true->P e) e x (fun x0 x1 _ hk=>q x0 x1 hk) x hx
end
section
abbrev D:=PyData
mutual
noncomputable def sok:PyData->Bool
 |.none|.bool _|.int _=>true
 |.str x=>PyData.strOk x&&decide (x.length<=16777216)
 |.list xs|.tuple xs=>decide (xs.length<=16777216)&&sokAll xs
 |.dict kvs=>En kvs
noncomputable def sokAll:List PyData->Bool
 |[]=>true
 |x::xs=>sok x&&sokAll xs
noncomputable def En:List (PyData × PyData)->Bool
 |[]=>true
 |(k,v)::r=>sok k&&sok v&&En r
end
mutual
noncomputable def dF:PyData->Bool
 |.list xs=>cD xs
 |.tuple _=>false
 |.dict kvs=>zm kvs
 |_=>true
noncomputable def cD:List PyData->Bool
 |[]=>true
 |x::xs=>dF x&&cD xs
noncomputable def zm:List (PyData × PyData)->Bool
 |[]=>true
 |(k,v)::r=>dF k&&dF v&&zm r
end
theorem sokAll_iff:∀{xs:List PyData},sokAll xs=true↔∀x∈xs,sok x=true
 |[]=>⟨fun _ _ m=>(nomatch m),fun _=>rfl⟩
 |x::xs=>⟨fun h y m=>let⟨a,b⟩:=cE h;(bA m).elim (fun e=>e▸a) (sokAll_iff.mp b y),fun h=>jX ⟨h x dX,sokAll_iff.mpr fun y m=>h y (eh _ m)⟩⟩
def Ia (w:World)(a:Addr)(o:Obj)(es:Array DictEntry):Prop:=
 (a==sysModules)=false/\o.ExactDict/\(∀e∈es.toList,∃x t,e.key=.str x t/\e.hash=hashStr w x)/\es.toList.Pairwise fun e f=>∀x t u,e.key=.str x t->f.key≠.str x u
def ja (w:World)(h:Heap)(a:Addr):Prop:=∀o,h.get? a=some o->o.dict=none/\∀es n,o.data=.dict es n->Ia w a o es
def az (w:World)(O:a9)(h:Heap)(v:Value)(d:D):Prop:=∃as,Reads h v d as/\(∀a∈as,a∉O/\ja w h a)/\sok d=true
def ak (w:World)(O:a9)(h:Heap)(vs:fO)(ds:List D):Prop:=∃as,ReadsAll h vs ds as/\(∀a∈as,a∉O/\ja w h a)/\sokAll ds=true
def gq (o:Obj):Prop:=o.cls≠.none\/∀vs,o.data≠.fields vs
def dS (h h':Heap):Prop:=∀b o,h.get? b=some o->gq o->h'.get? b=some o
theorem dS.refl (h:Heap):dS h h:=fun _ _ e _=>e
theorem dS.trans (k:dS h h')(k':dS h' h''):dS h h'':=fun b o e c=>k' b o (k b o e c) c
theorem dS.of (k:∀b o,h.get? b=some o->h'.get? b=some o):dS h h':=fun b o e _=>k b o e
def HD (o:Obj):Prop:=(∀xs n,o.cls=.type "tuple" -> o.data≠.seq xs n)/\(∀vs,(o.cls=.type "code" \/ o.cls=.none)->o.data≠.fields vs)
def aL (W:a9)(h h':Heap):Prop:=∀b o,b∉W->h.get? b=some o->gq o->h'.get? b=some o
theorem aL.of_keep (k:dS h h'):aL W h h':=fun b o _ e c=>k b o e c
theorem aL.mono (k:aL W h h')(q:∀a∈W,a∈W'):aL W' h h':=fun b o m e c=>k b o (fun n=>m (q b n)) e c
theorem aL.trans (k:aL W h h')(k':aL W h' h''):aL W h h'':=fun b o m e c=>k' b o m (k b o m e c) c
def LD (o:Obj):Prop:=(o.cls=.type "list" \/ o.cls=.type "dict")\/∃es n t,o.data=.set es n t
def bD (O W:a9)(h:Heap):Prop:=∀a∈W,∀o,h.get? a=some o->HD o/\(LD o->a∈O)
theorem m6 (hk:aL W h h')(hn:bD O W h)(r:Reads h v d as):(∀a∈as,a∉O)->Reads h' v d as:=
 Reads.rec (motive_1:=fun v d as _=>(∀a∈as,a∉O)->Reads h' v d as) (motive_2:=fun vs ds as _=>(∀a∈as,a∉O)->ReadsAll h' vs ds as)
  (fun _=>.none) (fun b _=>.bool b) (fun i t _=>.int i t) (fun x t _=>.str x t)
  (fun h1 h2 h3 _ ih q=>.list (hk _ _ (fun m=>q _ dX ((hn _ m _ h1).2 (.inl (.inl h2)))) h1 (.inl (by rw[h2];nofun))) h2 h3 (ih fun a m=>q a (eh _ m)))
  (fun h1 h2 h3 _ ih q=>.tuple (hk _ _ (fun m=>(hn _ m _ h1).1.1 _ _ h2 h3) h1 (.inl (by rw[h2];nofun))) h2 h3 (ih q))
  (fun h1 h2 h3 _ _ ih1 ih2 q=>.dict (hk _ _ (fun m=>q _ dX ((hn _ m _ h1).2 (.inl (.inr h2)))) h1 (.inl (by rw[h2];nofun))) h2 h3 (ih1 fun a m=>q a (eh _ (ij _ m))) (ih2 fun a m=>q a (eh _ (hJ _ m))))
  (fun _=>.nil) (fun _ _ ih1 ih2 q=>.cons (ih1 fun a m=>q a (ij _ m)) (ih2 fun a m=>q a (hJ _ m))) r
theorem lL (hk:aL W h h')(hn:bD O W h)(r:ReadsAll h vs ds as):(∀a∈as,a∉O)->ReadsAll h' vs ds as:=
 ReadsAll.rec (motive_1:=fun _ _ _ _=>True) (motive_2:=fun vs ds as _=>(∀a∈as,a∉O)->ReadsAll h' vs ds as)
  trivial (fun _=>trivial) (fun _ _=>trivial) (fun _ _=>trivial) (fun _ _ _ _ _=>trivial) (fun _ _ _ _ _=>trivial) (fun _ _ _ _ _ _ _=>trivial)
  (fun _=>.nil) (fun r1 _ _ ih2 q=>.cons (m6 hk hn r1 fun a m=>q a (ij _ m)) (ih2 fun a m=>q a (hJ _ m))) r
theorem xy (hk:dS h h')(r:Reads h v d as):Reads h' v d as:=m6 (O:=[]) (W:=[]) (fun b o _ e c=>hk b o e c) (fun _ m=>nomatch m) r fun _ _ m=>nomatch m
theorem qB (hk:dS h h')(r:ReadsAll h vs ds as):ReadsAll h' vs ds as:=lL (O:=[]) (W:=[]) (fun b o _ e c=>hk b o e c) (fun _ m=>nomatch m) r fun _ _ m=>nomatch m
theorem eK (r:Reads h v d as):∀a∈as,∃o,h.get? a=some o/\(o.cls=.type "list" \/ o.cls=.type "dict"):=
 Reads.rec (motive_1:=fun _ _ as _=>∀a∈as,∃o,h.get? a=some o/\(o.cls=.type "list" \/ o.cls=.type "dict")) (motive_2:=fun _ _ as _=>∀a∈as,∃o,h.get? a=some o/\(o.cls=.type "list" \/ o.cls=.type "dict"))
  (fun _ m=>nomatch m) (fun _ _ m=>nomatch m) (fun _ _ _ m=>nomatch m) (fun _ _ _ m=>nomatch m)
  (fun h1 h2 _ _ ih a q=>(bA q).elim (fun e=>⟨_,e▸h1, .inl h2⟩) (ih a))
  (fun _ _ _ _ ih=>ih)
  (fun h1 h2 _ _ _ ih1 ih2 a q=>(bA q).elim (fun e=>⟨_,e▸h1, .inr h2⟩) fun q=>(cy q).elim (ih1 a) (ih2 a))
  (fun _ m=>nomatch m) (fun _ _ ih1 ih2 a q=>(cy q).elim (ih1 a) (ih2 a)) r
theorem cR (r:ReadsAll h vs ds as):∀a∈as,∃o,h.get? a=some o/\(o.cls=.type "list" \/ o.cls=.type "dict"):=
 ReadsAll.rec (motive_1:=fun _ _ _ _=>True) (motive_2:=fun _ _ as _=>∀a∈as,∃o,h.get? a=some o/\(o.cls=.type "list" \/ o.cls=.type "dict"))
  trivial (fun _=>trivial) (fun _ _=>trivial) (fun _ _=>trivial) (fun _ _ _ _ _=>trivial) (fun _ _ _ _ _=>trivial) (fun _ _ _ _ _ _ _=>trivial)
  (fun _ m=>nomatch m) (fun r1 _ _ ih2 a q=>(cy q).elim (eK r1 a) (ih2 a)) r
theorem ja.same (x:ja w h a)(e:∀o,h.get? a=some o->h'.get? a=some o)(t:∃o,h.get? a=some o):ja w h' a:=fun o q=>by obtain⟨o',e'⟩:=t;have:=e o' e';rw[q]at this;obtain rfl:=aG this;exact x o e'
theorem lO (c:o.cls=.type "list" \/ o.cls=.type "dict"):gq o:=.inl (by rcases c with c|c <;> (rw[c];nofun))
section
variable {w:World}{O O':a9}{h h':Heap}{v:Value}{d:D}{vs ws:fO}{ds es:List D}{a:Addr}
theorem az.keep (r:az w O h v d)(k:dS h h'):az w O h' v d:=
 let⟨as,x,y,z⟩:=r;⟨as,xy k x,fun a m=>⟨(y a m).1,(y a m).2.same (fun o e=>let⟨o',e',c⟩:=eK x a m;by rw[e]at e';obtain rfl:=aG e';exact k a o e (lO c)) (let⟨o,e,_⟩:=eK x a m;⟨o,e⟩)⟩,z⟩
theorem ak.keep (r:ak w O h vs ds)(k:dS h h'):ak w O h' vs ds:=
 let⟨as,x,y,z⟩:=r;⟨as,qB k x,fun a m=>⟨(y a m).1,(y a m).2.same (fun o e=>let⟨o',e',c⟩:=cR x a m;by rw[e]at e';obtain rfl:=aG e';exact k a o e (lO c)) (let⟨o,e,_⟩:=cR x a m;⟨o,e⟩)⟩,z⟩
theorem az.sub (r:az w O h v d)(k:∀a∈O',a∈O):az w O' h v d:=let⟨as,x,y,z⟩:=r;⟨as,x,fun a m=>⟨fun q=>(y a m).1 (k a q),(y a m).2⟩,z⟩
theorem ak.sub (r:ak w O h vs ds)(k:∀a∈O',a∈O):ak w O' h vs ds:=let⟨as,x,y,z⟩:=r;⟨as,x,fun a m=>⟨fun q=>(y a m).1 (k a q),(y a m).2⟩,z⟩
theorem az.new (r:az w O h v d)(k:h.get? a=none):az w (a::O) h v d:=
 let⟨as,x,y,z⟩:=r
 ⟨as,x,fun b m=>⟨fun q=>(bA q).elim (fun e=>by obtain⟨o,e',_⟩:=eK x b m;rw[e,k]at e';exact nn e') (y b m).1,(y b m).2⟩,z⟩
theorem ak.new (r:ak w O h vs ds)(k:h.get? a=none):ak w (a::O) h vs ds:=
 let⟨as,x,y,z⟩:=r
 ⟨as,x,fun b m=>⟨fun q=>(bA q).elim (fun e=>by obtain⟨o,e',_⟩:=cR x b m;rw[e,k]at e';exact nn e') (y b m).1,(y b m).2⟩,z⟩
theorem az.but (r:az w O h v d)(hk:aL W h h')(hn:bD O W h):az w O h' v d:=
 let⟨as,x,y,z⟩:=r
 ⟨as,m6 hk hn x fun a m=>(y a m).1,fun b m=>⟨(y b m).1,(y b m).2.same (fun o e=>let⟨o',e',c⟩:=eK x b m;by rw[e]at e';obtain rfl:=aG e';exact hk b o (fun q=>(y b m).1 ((hn b q o e).2 (.inl c))) e (lO c)) (let⟨o,e,_⟩:=eK x b m;⟨o,e⟩)⟩,z⟩
theorem ak.but (r:ak w O h vs ds)(hk:aL W h h')(hn:bD O W h):ak w O h' vs ds:=
 let⟨as,x,y,z⟩:=r
 ⟨as,lL hk hn x fun a m=>(y a m).1,fun b m=>⟨(y b m).1,(y b m).2.same (fun o e=>let⟨o',e',c⟩:=cR x b m;by rw[e]at e';obtain rfl:=aG e';exact hk b o (fun q=>(y b m).1 ((hn b q o e).2 (.inl c))) e (lO c)) (let⟨o,e,_⟩:=cR x b m;⟨o,e⟩)⟩,z⟩
theorem az.sok (r:az w O h v d):Internal.sok d=true:=let⟨_,_,_,z⟩:=r;z
theorem ak.sok (r:ak w O h vs ds):Internal.sokAll ds=true:=let⟨_,_,_,z⟩:=r;z
theorem az.none:az w O h .none .none:=⟨[], .none,by simp,rfl⟩
theorem az.bool:az w O h (.bool b) (.bool b):=⟨[], .bool b,by simp,rfl⟩
theorem az.int:az w O h (.int i t) (.int i):=⟨[], .int i t,by simp,rfl⟩
theorem az.str (hx:Internal.sok (.str x)=true):az w O h (.str x t) (.str x):=⟨[], .str x t,by simp,hx⟩
theorem ak.nil:ak w O h [] []:=⟨[], .nil,by simp,rfl⟩
theorem ak.cons (r:az w O h v d)(rs:ak w O h vs ds):ak w O h (v::vs) (d::ds):=
 let⟨as,x,y,z⟩:=r;let⟨bs,x',y',z'⟩:=rs;⟨as++bs, .cons x x',fun a m=>(cy m).elim (y a) (y' a),jX ⟨z,z'⟩⟩
theorem ak.cons_inv (r:ak w O h vs (d::ds)):∃u us,vs=u::us/\az w O h u d/\ak w O h us ds:=by obtain⟨as,x,y,z⟩:=r;obtain⟨u,us,a,b,e,rfl,x1,x2⟩:=readsAll_cons_inv x;have z:=cE (show(Internal.sok d&&Internal.sokAll ds)=true from z);exact⟨u,us,e,⟨a,x1,fun c m=>y c (ij _ m),z.1⟩,b,x2,fun c m=>y c (hJ _ m),z.2⟩
theorem ak.both (r:ak w O h (v::vs) (d::ds)):az w O h v d/\ak w O h vs ds:=by obtain⟨u,us,e,p⟩:=r.cons_inv;cases e;exact p
theorem ak.head (r:ak w O h (v::vs) (d::ds)):az w O h v d:=r.both.1
theorem ak.tail (r:ak w O h (v::vs) (d::ds)):ak w O h vs ds:=r.both.2
theorem ak.nil_inv (r:ak w O h vs []):vs=[]:=let⟨_,x,_⟩:=r;(readsAll_nil_inv x).1
end
section
variable {w:World}{O:a9}{h:Heap}
theorem ak.length:∀{ds:List D}{vs:fO},ak w O h vs ds->vs.length=ds.length
 |[],_,r=>by rw[r.nil_inv];rfl
 |_::_,_,r=>by obtain⟨u,us,rfl,_,r'⟩:=r.cons_inv;rw[sW,sW,r'.length]
theorem ak.append:∀{ds:List D}{vs ws:fO}{es:List D},ak w O h vs ds->ak w O h ws es->ak w O h (vs++ws) (ds++es)
 |[],_,_,_,r,r'=>by rw[r.nil_inv];exact r'
 |_::_,_,_,_,r,r'=>by obtain⟨u,us,rfl,q,r''⟩:=r.cons_inv;exact .cons q (r''.append r')
theorem ak.get:∀{ds:List D}{vs:fO},ak w O h vs ds->∀(i:Nat) (d:D),ds[i]?=some d->∃v,vs[i]?=some v/\az w O h v d
 |[],_,_,i,d,e=>nn e
 |_::_,_,r,i,d,e=>by
  obtain⟨u,us,rfl,q,r'⟩:=r.cons_inv;cases i with
  |zero=>exact⟨u,rfl,aG e▸q⟩
  |succ i=>exact r'.get i d e
theorem ak.of_get:∀{ds:List D}{vs:fO},vs.length=ds.length->(∀(i:Nat) (v:Value)(d:D),vs[i]?=some v->ds[i]?=some d->az w O h v d)->ak w O h vs ds
 |[],vs,e,_=>List.eq_nil_of_length_eq_zero e▸.nil
 |d::ds,vs,e,k=>by
  cases vs with
  |nil=>exact Nat.noConfusion e
  |cons v vs=>exact .cons (k 0 v d rfl rfl) (ak.of_get (Nat.succ.inj e) fun i u c h1 h2=>k (i+1) u c h1 h2)
end
section
variable {w:World}{O:a9}{h:Heap}{v:Value}{a:Addr}{vs:Array Value}{xs:List D}
def Fp (h:Heap)(a:Addr):Prop:=∀o,h.get? a=some o->o.dict=none
theorem u7 (l:h.IsList a vs)(pl:Fp h a):ja w h a:=fun o e=>⟨pl o e,fun es n q=>by obtain⟨o',e',_,m,q'⟩:=l;rw[e]at e';obtain rfl:=aG e';rw[q]at q';cases q'⟩
theorem az.list_bare (r:az w O h (.ref a) (.list xs)):Fp h a:=by obtain⟨as,x,y,z⟩:=r;obtain⟨b,o,vs,n,bs,e,h1,h2,h3,h4,rfl⟩:=reads_list_inv x;cases e;exact fun o e=>((y a dX).2 o e).1
theorem kW (hf:o.isFreed=false)(hd:o.dict=none):Fp (h.push o) h.objs.size:=fun o' e=>by rw[iV _ hf]at e;obtain rfl:=aG e;exact hd
theorem az.list_inv (r:az w O h v (.list xs)):∃a vs,v=.ref a/\a∉O/\h.IsList a vs/\ak w O h vs.toList xs:=by obtain⟨as,x,y,z⟩:=r;obtain⟨a,vs,bs,e,l,z',rfl⟩:=isList_of_reads x;have z2:(decide (xs.length<=16777216)&&sokAll xs)=true:=z;exact⟨a,vs,e,(y a dX).1,l,bs,z',fun b m=>y b (eh _ m),(cE z2).2⟩
theorem az.list_len (r:az w O h v (.list xs)):xs.length<=16777216:=by have z2:(decide (xs.length<=16777216)&&sokAll xs)=true:=r.sok;exact bJ (cE z2).1
theorem az.tuple_len (r:az w O h v (.tuple xs)):xs.length<=16777216:=by have z2:(decide (xs.length<=16777216)&&sokAll xs)=true:=r.sok;exact bJ (cE z2).1
theorem az.list_of (hl:xs.length<=16777216)(ha:a∉O)(l:h.IsList a vs)(pl:Fp h a)(r:ak w O h vs.toList xs):az w O h (.ref a) (.list xs):=by obtain⟨o,ho,hc,n,hd⟩:=id l;obtain⟨bs,z,u,y⟩:=r;exact⟨a::bs,reads_list_at ho hc hd z,fun b m=>(bA m).elim (fun e=>e▸⟨ha,u7 l pl⟩) (u b),jX ⟨dg hl,y⟩⟩
theorem az.tuple_inv (r:az w O h v (.tuple xs)):∃a vs,v=.ref a/\IsTup h a vs/\ak w O h vs.toList xs:=by obtain⟨as,x,y,z⟩:=r;obtain⟨a,l,e,t,z'⟩:=reads_tuple_items x;have z2:(decide (xs.length<=16777216)&&sokAll xs)=true:=z;exact⟨a,l.toArray,e,t,as,by simpa using z',y,(cE z2).2⟩
theorem az.tuple_of (hl:xs.length<=16777216)(l:IsTup h a vs)(r:ak w O h vs.toList xs):az w O h (.ref a) (.tuple xs):=by obtain⟨o,ho,hc,n,hd⟩:=l;obtain⟨bs,z,u,y⟩:=r;exact⟨bs,reads_tuple_at ho hc hd z,u,jX ⟨dg hl,y⟩⟩
theorem az.int_inv (r:az w O h v (.int i)):∃t,v=.int i t:=let⟨_,x,_⟩:=r;let⟨t,e,_⟩:=reads_int_inv x;⟨t,e⟩
theorem az.bool_inv (r:az w O h v (.bool b)):v=.bool b:=let⟨_,x,_⟩:=r;(reads_bool_inv x).1
theorem az.none_inv (r:az w O h v .none):v=.none:=let⟨_,x,_⟩:=r;(reads_none_inv x).1
theorem az.str_inv (r:az w O h v (.str x)):∃t,v=.str x t:=let⟨_,x,_⟩:=r;let⟨t,e,_⟩:=reads_str_inv x;⟨t,e⟩
end
end
section
noncomputable def fh (l:List Str)(x:Str):List Str:=if l.any (· == x)then l else l++[x]
noncomputable def we (es:List (Int × Value)):List Str:=es.map fun e=>strOf e.2
def MO (w:World)(es:List (Int × Value)):Prop:=∀e∈es,∃k tk,e.2=.str k tk/\e.1=hashStr w k
def gp (t:SetTable):Prop:=t.mask=7/\t.dummies=#[]
inductive dz (w:World)(h:Heap)(a:Addr)(ss:List Str):Prop
 |mk (o:Obj)(es:Array (Int × Value))(ep:Nat) (t:SetTable)(ho:h.get? a=some o)(hex:o.ExactSet)(hd:o.data=.set es ep t)(hel:MO w es.toList)
  (hp:(we es.toList).Perm ss)(hb:es.size<scanBound)(hf:t.fits es.size=true)(hl:w.params.followText "set-order" = true\/t.led=true) (hpl:es.size=0\/t.plain=false)(hm:es.size<=4->gp t)
section
variable {w:World}
theorem dz.at (x:dz w h a ss)(e:∀o,h.get? a=some o->h'.get? a=some o):dz w h' a ss:=
 let⟨o,es,ep,t,ho,hex,hd,hel,hp,hb,hf,hl,hpl,hm⟩:=x;⟨o,es,ep,t,e o ho,hex,hd,hel,hp,hb,hf,hl,hpl,hm⟩
theorem dz.obj (x:dz w h a ss):∃o,h.get? a=some o/\o.cls=.type "set" /\ (∃es ep t,o.data=.set es ep t)/\o.dict=none:=
 let⟨o,es,ep,t,ho,hex,hd,_,_,_,_,_,_,_⟩:=x;⟨o,ho,hex.1,⟨es,ep,t,hd⟩,hex.2.1⟩
end
end
section
structure wi where
 c:Addr
 P:Addr
 pos:Pos
 qual:Str
structure GC where
 prog:Program
 w:World
 h₀:Heap
 mg:Str->Option Value
 mb:Str->Option Value
 tabs:List wi
 names:List Str
def md (h:Heap)(c:Addr)(q:Str):Prop:=∃o vs t,h.get? c=some o/\o.cls=.type "code" /\ o.data=.fields vs/\vs[1]?=some (.str q t)
theorem md.rec' (x:md h c q):h.CodeRec (.ref c) q:=let⟨o,vs,t,a,_,b,d⟩:=x;⟨c,o,vs,t,rfl,a,b,d⟩
def yk (h:Heap)(t:wi):Prop:=
 CodeHd h t.c t.P/\∃ps,h.get? t.P=some (tabObj ps)/\TriplesOk ps.toList /\
  (codeAmong t.pos ps.toList=none\/∃c',codeAmong t.pos ps.toList=some (.ref c')/\md h c' t.qual)
def rZ (tabs:List wi)(h:Heap):Prop:=∀t∈tabs,yk h t
def HC (h h':Heap):Prop:=∀b o vs,h.get? b=some o->(o.cls=.type "code" \/ o.cls=.none)->o.data=.fields vs->h'.get? b=some o
theorem yk.keep (x:yk h t)(k:HC h h'):yk h' t:=by
 obtain⟨⟨o,vs,file,tf,flags,tg,inF,text,tt,e,ec,r⟩,ps,e1,e2,e3⟩:=x;refine⟨⟨o,vs,file,tf,flags,tg,inF,text,tt,k _ _ _ e (.inl ec) r.1,ec,r⟩,ps,k _ _ _ e1 (.inr rfl) rfl,e2, ?_⟩;rcases e3 with e3|⟨c',e3,o',vs',t',a,b,d⟩
 .exact .inl e3
 .exact .inr ⟨c',e3,o',vs',t',k _ _ _ a (.inl b) d.1,b,d⟩
theorem rZ.keep (x:rZ tabs h)(k:HC h h'):rZ tabs h':=fun t ht=>(x t ht).keep k
structure a5 (G:GC)(h:Heap):Prop where
 keep:∀b o,G.h₀.get? b=some o->h.get? b=some o
 memo:rZ G.tabs h
theorem a5.all (B:a5 G h)(k:∀b o,h.get? b=some o->h'.get? b=some o):a5 G h':=
 ⟨fun b o e=>k b o (B.keep b o e),B.memo.keep fun b o _ e _ _=>k b o e⟩
theorem a5.but {G:GC}{h h':Heap}{W:a9}(B:a5 G h)(k:∀b o,b∉W->h.get? b=some o->h'.get? b=some o)(hn:∀a∈W,G.h₀.get? a=none)
  (hc:∀a∈W,∀o,h.get? a=some o->HD o):a5 G h' :=
 ⟨fun b o e=>k b o (fun q=>by rw[hn b q]at e;exact nn e) (B.keep b o e),B.memo.keep fun b o vs e q f=>k b o (fun r=>(hc b r o e).2 vs q f) e⟩
theorem kK {s s' s'':Shared}(x:s'.gens=s.gens/\s'.os=s.os)(y:s''.gens=s'.gens/\s''.os=s'.os):s''.gens=s.gens/\s''.os=s.os:=⟨y.1.trans x.1,y.2.trans x.2⟩
structure Ext (G:GC)(s s':Shared):Prop where
 same:s'.gens=s.gens/\s'.os=s.os
 keep:dS s.heap s'.heap
 base:a5 G s'.heap
 pos:0<s'.toks
 back:∀b,s'.heap.get? b=none->s.heap.get? b=none
theorem bw {h h':Heap}(k:∀o,h.get? b=some o->h'.get? b=some o)(e:h'.get? b=none):h.get? b=none:=by
 cases q:h.get? b with
 |none=>rfl
 |some o=>rw[k o q]at e;cases e
theorem Ext.refl (B:a5 G s.heap)(p:0<s.toks):Ext G s s:=⟨⟨rfl,rfl⟩, .refl _,B,p,fun _ e=>e⟩
theorem Ext.trans {s s' s'':Shared}(x:Ext G s s')(y:Ext G s' s''):Ext G s s'':=
 ⟨kK x.same y.same,x.keep.trans y.keep,y.base,y.pos,fun b e=>x.back b (y.back b e)⟩
theorem Ext.tok (x:Ext G s s')(p:0<t):Ext G s { s' with toks:=t }:=
 ⟨x.same,x.keep,x.base,p,x.back⟩
theorem Ext.all {s:Shared}{h':Heap}(B:a5 G s.heap)(k:∀b o,s.heap.get? b=some o->h'.get? b=some o)(p:0<t):Ext G s { s with heap:=h',toks:=t }:=
 ⟨⟨rfl,rfl⟩, .of k,B.all k,p,fun b e=>bw (k b) e⟩
def dH (O:a9)(h:Heap):Prop:=∀a∈O,∃o,h.get? a=some o/\gq o
theorem dH.keep (x:dH O h)(k:dS h h'):dH O h':=fun a m=>let⟨o,e,q⟩:=x a m;⟨o,k a o e q,q⟩
theorem dH.new (x:dH O h)(e:h.get? a=none):a∉O:=fun m=>by obtain⟨o,q,_⟩:=x a m;rw[e]at q;exact nn q
theorem aD (h:Heap):h.get? h.objs.size=none:=by
 cases e:h.get? h.objs.size with
 |none=>rfl
 |some o=>exact absurd (Heap.lt_size e) (Nat.lt_irrefl _)
noncomputable abbrev bC (G:GC):Model:=model G.prog G.w
def dG (G:GC)(A:Around)(O:a9)(t:Sem Value)(s:Shared)(d:D):Prop:=
 ∀(Q:ba)(E:ba),(∀v s',Ext G s s'->az G.w O s'.heap v d->Q v s')->wpAny (bC G) A t Q E s
def M0 (G:GC)(A:Around)(O:a9)(t:Sem fO)(s:Shared)(ds:List D):Prop:=
 ∀(Q:fO->Shared->Prop)(E:ba),(∀vs s',Ext G s s'->ak G.w O s'.heap vs ds->Q vs s')->wpAny (bC G) A t Q E s
def wp (G:GC)(A:Around)(t:Sem Bool)(s:Shared)(b:Bool):Prop:=
 ∀(Q:Bool->Shared->Prop)(E:ba),(∀s',Ext G s s'->Q b s')->wpAny (bC G) A t Q E s
abbrev aF:=List (Nat × D)
def aF.get (ρ:aF)(n:Nat):Option D:=List.lookup n ρ
def aF.set:aF->Nat->D->aF
 |[],n,d=>[(n,d)]
 |(m,e)::r,n,d=>if m=n then(n,d)::r else(m,e)::aF.set r n d
theorem aF.get_cons (p:Nat × D)(r:aF)(m:Nat):aF.get (p::r) m=if m=p.1 then some p.2 else aF.get r m:=by
 obtain⟨k,e⟩:=p;show List.lookup m ((k,e)::r)=_;rw[List.lookup_cons];by_cases h:m=k
 .subst h;simp
 .have hb:(m==k)=false:=beq_eq_false_iff_ne.mpr h;rw[hb,if_neg h];rfl
theorem aF.get_set (ρ:aF)(n m:Nat)(d:D):(aF.set ρ n d).get m=if m=n then some d else ρ.get m:=by
 induction ρ with
 |nil=>exact aF.get_cons (n,d) [] m
 |cons p r ih =>
  obtain⟨k,e⟩:=p;show aF.get (if k=n then _ else _) m=_;by_cases hk:k=n
  .subst hk;rw[if_pos rfl,aF.get_cons,aF.get_cons];by_cases h:m=k
   .simp[h]
   .simp[h]
  .rw[if_neg hk,aF.get_cons,aF.get_cons,ih];by_cases h:m=k
   .subst h;simp[hk]
   .simp[h]
structure dM where
 ns:aN
 at':Nat->Option Addr
def MZ (w:World)(oa:Option Addr)(O:a9)(h:Heap)(v:Value)(d:D):Prop:=∃a vs xs,oa=some a/\v=.ref a/\a∈O/\d=.list xs/\xs.length<=16777216/\h.PlainList a vs/\ak w O h vs.toList xs
def M4 (w:World)(O:a9)(h:Heap)(v:Value)(d:D):Prop:=∃a ss,v=.ref a/\a∉O/\d=.tuple (ss.map .str)/\dz w h a ss/\ss.length<=4/\∀x∈ss,Internal.sok (.str x)=true
def sf (w:World)(oa:Option Addr)(O:a9)(h:Heap)(v:Value)(d:D):Prop:=MZ w oa O h v d\/M4 w O h v d
def cL (w:World)(own:dM)(n:Nat)(O:a9)(h:Heap)(v:Value)(d:D):Prop:=if n∈own.ns then sf w (own.at' n) O h v d else az w O h v d
theorem vf (l:h.IsList a vs)(k:dS h h'):h'.IsList a vs:=let⟨o,e,c,r⟩:=l;⟨o,k a o e (.inl (by rw[c];nofun)),c,r⟩
theorem bj (l:h.PlainList a vs)(k:dS h h'):h'.PlainList a vs:=let⟨n,e⟩:=l;⟨n,k a _ e (.inl nofun)⟩
theorem sf.keep (x:sf w oa O h v d)(k:dS h h'):sf w oa O h' v d:=by
 rcases x with⟨a,vs,xs,y,e,m,q,z,l,r⟩|⟨a,ss,e,m,q,l,z⟩
 .exact .inl ⟨a,vs,xs,y,e,m,q,z,bj l k,r.keep k⟩
 .obtain⟨o,ho,hc,_⟩:=l.obj;exact .inr ⟨a,ss,e,m,q,l.at fun o' e'=>k _ _ e' (.inl (by rw[ho]at e';obtain rfl:=aG e';rw[hc];nofun)),z⟩
set_option tactic.hygienic true in
theorem cL.keep (x:cL w own n O h v d)(k:dS h h'):cL w own n O h' v d:=by
 unfold cL at *;split at x
 .rename_i q;rw[if_pos q];exact x.keep k
 .rename_i q;rw[if_neg q];exact x.keep k
theorem ta (hn:h.Ns a m)(k:dS h h'):h'.Ns a m:=
 let⟨o,es,ep,e,d,r⟩:=hn;⟨o,es,ep,k _ _ e (.inr fun vs q=>by rw[d]at q;cases q),d,r⟩
theorem fk (x:h.IsCell c v)(k:dS h h'):h'.IsCell c v:=
 let⟨o,e,d⟩:=x;⟨o,k _ _ e (.inr fun vs q=>by rw[d]at q;cases q),d⟩
structure gM (G:GC)(env:Env)(own:dM)(O:a9)(ρ:aF)(h:Heap):Prop where
 fn:env.scope.kind=.function
 gl:env.globals=mainGlobals
 bi:env.builtins=builtinsNs
 lin:env.locals∈O
 lfr:G.h₀.get? env.locals=none
 oin:∀n a,own.at' n=some a->a∈O
 cin:∀x c,env.cells.lookup x=some c->c∈O/\G.h₀.get? c=none
 inj:∀x y c,env.cells.lookup x=some c->env.cells.lookup y=some c->x=y
 ce:∀x,(env.kindOf x=some .cell\/env.kindOf x=some .free)->∃c v,env.cells.lookup x=some c/\h.IsCell c v
 ns:∃m,h.Ns env.locals m/\∀n x d,G.names[n]?=some x->env.kindOf x=some .local->ρ.get n=some d->∃v,m x=some v/\cL G.w own n O h v d
 cl:∀n x d,G.names[n]?=some x->(env.kindOf x=some .cell\/env.kindOf x=some .free)->ρ.get n=some d->∃c v,env.cells.lookup x=some c/\h.IsCell c (some v)/\cL G.w own n O h v d
theorem gM.keep (x:gM G env own O ρ h)(k:dS h h'):gM G env own O ρ h' where
 fn:=x.fn
 gl:=x.gl
 bi:=x.bi
 lin:=x.lin
 lfr:=x.lfr
 oin:=x.oin
 cin:=x.cin
 inj:=x.inj
 ce:=fun y hy=>let⟨c,v,e,q⟩:=x.ce y hy;⟨c,v,e,fk q k⟩
 ns:=let⟨m,a,b⟩:=x.ns;⟨m,ta a k,fun n y d h1 h2 h3=>let⟨v,e,r⟩:=b n y d h1 h2 h3;⟨v,e,r.keep k⟩⟩
 cl:=fun n y d h1 h2 h3=>let⟨c,v,e,q,r⟩:=x.cl n y d h1 h2 h3;⟨c,v,e,fk q k,r.keep k⟩
noncomputable def bZ:List Str:=["len", "sum", "max", "min", "int", "ord", "chr", "divmod", "isinstance", "range", "enumerate", "zip", "reversed", "list", "sorted", "set", "bool"]
theorem aL.ns (k:aL W h h')(q:a∉W)(hn:h.Ns a m):h'.Ns a m:=
 let⟨o,es,ep,e,d,r⟩:=hn;⟨o,es,ep,k _ _ q e (.inr fun vs q=>by rw[d]at q;cases q),d,r⟩
theorem aL.cell (k:aL W h h')(q:c∉W)(x:h.IsCell c v):h'.IsCell c v:=
 let⟨o,e,d⟩:=x;⟨o,k _ _ q e (.inr fun vs q=>by rw[d]at q;cases q),d⟩
theorem aL.plain (k:aL W h h')(q:a∉W)(l:h.PlainList a vs):h'.PlainList a vs:=let⟨n,e⟩:=l;⟨n,k a _ q e (.inl nofun)⟩
set_option tactic.hygienic true in
theorem cL.but (x:cL w own n O h v d)(k:aL W h h')(hn:bD O W h)(ho:∀a vs,own.at' n=some a->h.PlainList a vs->a∉W):cL w own n O h' v d:=by
 unfold cL at *;split at x
 .rename_i q;rw[if_pos q];rcases x with⟨a,vs,xs,y,e,m,q,z,l,r⟩|⟨a,ss,e,m,q,l,z⟩
  .exact .inl ⟨a,vs,xs,y,e,m,q,z,k.plain (ho a _ y l) l,r.but k hn⟩
  .obtain⟨o,ho,hc,hd,_⟩:=l.obj;exact .inr ⟨a,ss,e,m,q,l.at fun o' e'=>(by rw[ho]at e';obtain rfl:=aG e';exact k _ _ (fun mw=>m ((hn a mw o ho).2 (.inr hd))) ho (.inl (by rw[hc];nofun))),z⟩
 .rename_i q;rw[if_neg q];exact az.but x k hn
theorem gM.but (x:gM G env own O ρ h)(k:aL W h h')(hn:bD O W h)(hl:env.locals∉W)(hc:∀y c,env.cells.lookup y=some c->c∉W)
  (ho:∀n a vs,own.at' n=some a->h.PlainList a vs->a∉W):gM G env own O ρ h' where
 fn:=x.fn
 gl:=x.gl
 bi:=x.bi
 lin:=x.lin
 lfr:=x.lfr
 oin:=x.oin
 cin:=x.cin
 inj:=x.inj
 ce:=fun y hy=>let⟨c,v,e,q⟩:=x.ce y hy;⟨c,v,e,k.cell (hc _ _ e) q⟩
 ns:=let⟨m,a,b⟩:=x.ns;⟨m,k.ns hl a,fun n y d h1 h2 h3=>let⟨v,e,r⟩:=b n y d h1 h2 h3;⟨v,e,r.but k hn (ho n)⟩⟩
 cl:=fun n y d h1 h2 h3=>let⟨c,v,e,q,r⟩:=x.cl n y d h1 h2 h3;⟨c,v,e,k.cell (hc _ _ e) q,r.but k hn (ho n)⟩
theorem gM.weaken (x:gM G env own O ρ h)(k:∀n d,ρ'.get n=some d->ρ.get n=some d):gM G env own O ρ' h:=
 { x with ns:=let⟨m,a,b⟩:=x.ns;⟨m,a,fun n y d h1 h2 h3=>b n y d h1 h2 (k n d h3)⟩,cl:=fun n y d h1 h2 h3=>x.cl n y d h1 h2 (k n d h3) }
structure bI (G:GC)(W:a9)(s s':Shared):Prop where
 same:s'.gens=s.gens/\s'.os=s.os
 keep:aL W s.heap s'.heap
 base:a5 G s'.heap
 pos:0<s'.toks
 back:∀b,b∉W->s'.heap.get? b=none->s.heap.get? b=none
theorem bI.refl (B:a5 G s.heap)(p:0<s.toks):bI G W s s:=⟨⟨rfl,rfl⟩, .of_keep (.refl _),B,p,fun _ _ e=>e⟩
theorem bI.trans {W:a9}{s s' s'':Shared}(x:bI G W s s')(y:bI G W s' s''):bI G W s s'':=
 ⟨kK x.same y.same,x.keep.trans y.keep,y.base,y.pos,fun b m e=>x.back b m (y.back b m e)⟩
theorem Ext.sext (x:Ext G s s'):bI G W s s':=⟨x.same, .of_keep x.keep,x.base,x.pos,fun b _ e=>x.back b e⟩
theorem bI.mono (x:bI G W s s')(q:∀a∈W,a∈W'):bI G W' s s':=⟨x.same,x.keep.mono q,x.base,x.pos,fun b m e=>x.back b (fun n=>m (q b n)) e⟩
theorem bI.ext (x:bI G W s s')(q:∀a∈W,s.heap.get? a=none):Ext G s s':=
 ⟨x.same,fun b o e c=>x.keep b o (fun m=>by rw[q b m]at e;exact nn e) e c,x.base,x.pos,fun b e=>if m:b∈W then q b m else x.back b m e⟩
structure oQ (G:GC):Prop where
 g:G.h₀.Ns mainGlobals G.mg
 b:G.h₀.Ns builtinsNs G.mb
 lim:G.h₀.NoLimit
 nd:G.names.Nodup
 nb:∀x∈bZ,G.mg x=none
 bt:∀x:Str,x ≠ "__name__" -> G.mb x=bootBuiltins x
 bm:∃bm o,G.mg "__builtins__" = some (.ref bm)/\bm≠builtinsNs/\bm≠mainGlobals/\G.h₀.get? bm=some o/\o.cls=.type "module" /\ o.dict=some builtinsNs/\o.data=.plain
structure cV (G:GC)(A:Around)(env:Env)(own:dM)(O:a9)(ρ:aF)(s:Shared):Prop where
 ok:oQ G
 hh:A.handled=none
 base:a5 G s.heap
 pos:0<s.toks
 ov:dH O s.heap
 envr:gM G env own O ρ s.heap
theorem cV.ext (x:cV G A env own O ρ s)(e:Ext G s s'):cV G A env own O ρ s':=
 ⟨x.ok,x.hh,e.base,e.pos,x.ov.keep e.keep,x.envr.keep e.keep⟩
theorem jN (I:cV G A env own O ρ s) 
  (hn:G.names[n]?=some x)(hk:env.kindOf x=some k)(hkk:k=.local\/k=.cell\/k=.free)(hx:(x==("__classdict__" : Str))=false) (hg:ρ.get n=some d)(h:∀v,cL G.w own n O s.heap v d->Q v s) :
  wpAny (bC G) A (loadName env x) Q E s:=by
 rcases hkk with rfl|rfl|rfl
 .obtain⟨m,h1,h2⟩:=I.envr.ns;obtain⟨v,e,r⟩:=h2 n x d hn hk hg;exact wpAny_loadName_local I.envr.fn hk h1 e (h v r)
 .obtain⟨c,v,e,q,r⟩:=I.envr.cl n x d hn (.inl hk) hg;exact wpAny_loadName_cell I.envr.fn hk e q (h v r)
 .obtain⟨c,v,e,q,r⟩:=I.envr.cl n x d hn (.inr hk) hg;exact wpAny_loadName_free I.envr.fn hk e q (h v r) hx
variable {G:GC}{A:Around}{O:a9}{s:Shared}{d:D}
theorem dG.of {t:Sem Value}(B:a5 G s.heap)(p:0<s.toks)
  (h:∀(Q:ba)(E:ba),(∀v h' tk,(∀b o,s.heap.get? b=some o->h'.get? b=some o)->az G.w O h' v d->Q v { s with heap:=h',toks:=tk })->wpAny (bC G) A t Q E s) :
  dG G A O t s d:=fun Q E q=>by
 refine wpAny_with_toks (n:=1) p (h _ _ fun v h' tk k r=>?_);intro p';exact q v _ (.all B k p') r
theorem dG.of0 {t:Sem Value}(B:a5 G s.heap)(p:0<s.toks)
  (h:∀(Q:ba)(E:ba),(∀v tk,az G.w O s.heap v d->Q v { s with toks:=tk })->wpAny (bC G) A t Q E s) :
  dG G A O t s d:=dG.of B p fun Q E q=>h Q E fun v tk r=>q v s.heap tk (fun _ _ e=>e) r
noncomputable abbrev ib (a:Int):Nat:=Builtin.Int.intBits a
def fits (a:Int):Bool:=decide (ib a<=100000)
def eR (o:Operator)(a b:Int):Option D:=match o with
 |.Add=>some (.int (a+b))
 |.Sub=>some (.int (a-b))
 |.Mult=>if fits a&&fits b then some (.int (a*b))else none
 |.FloorDiv=>if b != 0&&decide (b.natAbs.log2<9000)then some (.int (a.fdiv b))else none
 |.Mod=>if b != 0 then some (.int (a.fmod b))else none
 |.Pow=>if decide (0<=b)&&decide ((ib a:Int)*b<=2^27)then some (.int (a^b.toNat))else none
 |.LShift=>if decide (0<=b)&&decide ((ib a:Int)+b<=2^27)then some (.int (a*2^b.toNat))else none
 |.RShift=>if decide (0<=b)then some (.int (a.fdiv (2^b.toNat)))else none
 |.BitAnd=>some (.int (Builtin.bitAnd a b))
 |.BitOr=>some (.int (Builtin.bitOr a b))
 |.BitXor=>some (.int (Builtin.bitXor a b))
 |_=>none
theorem ai {a b:Bool}(h:(a&&b)=true):a=true/\b=true:=cE h
theorem MR {b:Int}(h:(b != 0)=true):b≠0:=by simpa using h
theorem HQ {a b:Int}(h:(fits a&&fits b)=true):IntMulOk a b:=by
 obtain⟨h1,h2⟩:=cE h;have h1:=bJ h1;have h2:=bJ h2;unfold IntMulOk;intro c;obtain⟨_,c⟩:=cE c;have c:(ib a:Int)+(ib b:Int) > ((2^27:Nat):Int):=bJ c;have e:((2^27:Nat):Int)=134217728:=by decide
 rw[e]at c
 lia
theorem ax {c:Bool}{x r:D}(h:(if c then some x else none)=some r):c=true/\x=r:=by
 cases c
 .exact nn h
 .exact⟨rfl,aG h⟩
theorem wv (B:a5 G s.heap)(p:0<s.toks){o:Operator}{a b:Int}{t u:Tok}(h:eR o a b=some d):dG G A O (binaryOp o (.int a t) (.int b u)) s d:=by
 refine dG.of0 B p fun Q E q=>?_;have key:∀i:Int, .int i=d->∀tk,Q (.int i tk) { s with toks:=s.toks+1 }:=fun i e tk=>q _ _ (e▸.int);rcases o with⟨⟩|⟨⟩
 case Add=>exact PyProof.Rows.add_int (key _ (aG h) _)
 case Sub=>exact PyProof.Rows.sub_int (key _ (aG h) _)
 case Mult=>exact P.mul_int (key _ (ax h).2 _) (HQ (ax h).1)
 case FloorDiv=>exact PyProof.Rows.floordiv_int (MR (ai (ax h).1).1) (key _ (ax h).2 _) (.inl (PyProof.noPylong_of_log2 (bJ (ai (ax h).1).2)))
 case Mod=>exact PyProof.Rows.mod_int' (MR (ax h).1) (key _ (ax h).2 _)
 case Pow=>exact PyProof.Rows.pow_int (bJ (ai (ax h).1).1) (bJ (ai (ax h).1).2) (key _ (ax h).2 _)
 case LShift=>exact PyProof.Rows.lshift_int (bJ (ai (ax h).1).1) (bJ (ai (ax h).1).2) (key _ (ax h).2 _)
 case RShift=>exact PyProof.Rows.rshift_int (bJ (ax h).1) (key _ (ax h).2 _)
 case BitAnd=>exact PyProof.Rows.and_int (key _ (aG h) _)
 case BitOr=>exact PyProof.Rows.or_int (key _ (aG h) _)
 case BitXor=>exact PyProof.Rows.xor_int (key _ (aG h) _)
 all_goals exact nn h
theorem vc (B:a5 G s.heap)(p:0<s.toks){o:Operator}{a b:Int}{t u:Tok}(h:eR o a b=some d):dG G A O (inplaceOp o (.int a t) (.int b u)) s d:=by
 refine dG.of0 B p fun Q E q=>?_;have key:∀i:Int, .int i=d->∀tk,Q (.int i tk) { s with toks:=s.toks+1 }:=fun i e tk=>q _ _ (e▸.int);rcases o with⟨⟩|⟨⟩
 case Add=>exact PyProof.Rows.iadd_int (key _ (aG h) _)
 case Sub=>exact PyProof.Rows.isub_int (key _ (aG h) _)
 case Mult=>exact P.imul_int (key _ (ax h).2 _) (HQ (ax h).1)
 case FloorDiv=>exact PyProof.Rows.ifloordiv_int (MR (ai (ax h).1).1) (key _ (ax h).2 _) (.inl (PyProof.noPylong_of_log2 (bJ (ai (ax h).1).2)))
 case Mod=>exact PyProof.Rows.imod_int (MR (ax h).1) (key _ (ax h).2 _)
 case Pow=>exact PyProof.Rows.ipow_int (bJ (ai (ax h).1).1) (bJ (ai (ax h).1).2) (key _ (ax h).2 _)
 case LShift=>exact PyProof.Rows.ilshift_int (bJ (ai (ax h).1).1) (bJ (ai (ax h).1).2) (key _ (ax h).2 _)
 case RShift=>exact PyProof.Rows.irshift_int (bJ (ax h).1) (key _ (ax h).2 _)
 case BitAnd=>exact PyProof.Rows.iand_int (key _ (aG h) _)
 case BitOr=>exact PyProof.Rows.ior_int (key _ (aG h) _)
 case BitXor=>exact PyProof.Rows.ixor_int (key _ (aG h) _)
 all_goals exact nn h
end
section
variable {G:GC}{A:Around}{O:a9}{s:Shared}{d:D}
theorem aT:sizeLine=16777216:=by decide
theorem DC (B:a5 G s.heap)(p:0<s.toks)(ov:dH O s.heap)(r:ak G.w O s.heap vs ds)(hl:ds.length<=16777216):dG G A O (newList vs) s (.list ds):=by
 refine dG.of B p fun Q E q=>?_;have hk:∀b o,s.heap.get? b=some o->(s.heap.push { cls:=.type "list",data:=.seq vs.toArray }).get? b=some o:=fun b o e=>gv _ e;refine wpAny_newObj_type (q _ _ _ hk ?_) (by show vs.toArray.size<=sizeLine;rw[List.size_toArray,r.length,aT];exact hl);refine az.list_of hl (ov.new (aD _)) ⟨_,iV _ rfl,rfl,_,rfl⟩ (kW rfl rfl) ?_
 simpa using r.keep (.of hk)
theorem AU (B:a5 G s.heap)(p:0<s.toks)(r:ak G.w O s.heap vs ds)(hl:ds.length<=16777216):dG G A O (newTuple vs) s (.tuple ds):=by
 refine dG.of B p fun Q E q=>?_;have hk:∀b o,s.heap.get? b=some o->(s.heap.push { cls:=.type "tuple",data:=.seq vs.toArray }).get? b=some o:=fun b o e=>gv _ e;refine wpAny_newObj_type (q _ _ _ hk ?_) (by show vs.toArray.size<=sizeLine;rw[List.size_toArray,r.length,aT];exact hl);refine az.tuple_of hl ⟨_,iV _ rfl,rfl,_,rfl⟩ ?_
 simpa using r.keep (.of hk)
theorem sok_str:sok (.str x)=true↔PyData.strOk x=true/\x.length<=16777216:=by show(PyData.strOk x&&decide (x.length<=16777216))=true↔_;rw[eO,jE]
theorem lR (hx:PyData.strOk x=true)(hy:PyData.strOk y=true):PyData.strOk (x++y)=true:=by show(x.cps++y.cps).all (· < 0x110000)=true;rw[Array.all_append];exact jX ⟨hx,hy⟩
theorem BE (B:a5 G s.heap)(p:0<s.toks)(hx:sok (.str x)=true)(hy:sok (.str y)=true)(hl:x.length+y.length<=16777216) :
  dG G A O (binaryOp .Add (.str x t) (.str y u)) s (.str (x++y)):=by
 refine dG.of0 B p fun Q E q=>PyProof.Rows.add_str (fun t' tk=>q _ _ (.str ?_)) (by rw[aT];exact hl);exact sok_str.mpr ⟨lR (sok_str.mp hx).1 (sok_str.mp hy).1,by rw[strLen_append];exact hl⟩
theorem Ay (B:a5 G s.heap)(p:0<s.toks)(hx:sok (.str x)=true)(hy:sok (.str y)=true)(hl:x.length+y.length<=16777216) :
  dG G A O (inplaceOp .Add (.str x t) (.str y u)) s (.str (x++y)):=by
 refine dG.of0 B p fun Q E q=>PyProof.Rows.iadd_str (fun t' tk=>q _ _ (.str ?_)) (by rw[aT];exact hl);exact sok_str.mpr ⟨lR (sok_str.mp hx).1 (sok_str.mp hy).1,by rw[strLen_append];exact hl⟩
noncomputable def jZ (n:Nat)(x:Str):Str:=⟨(List.replicate n x.cps.toList).flatten.toArray⟩
theorem xO (n:Nat)(x:Str):(⟨(List.replicate n x.cps).foldl (· ++ ·) #[]⟩:Str)=jZ n x:=by
 have h:∀(l:List (Array Nat))(acc:Array Nat),l.foldl (· ++ ·) acc=(acc.toList++(l.map (·.toList)).flatten).toArray:=by
  intro l
  induction l with
  |nil=>intro acc;simp
  |cons a r ih=>intro acc;rw[List.foldl_cons,ih];simp
 unfold jZ;rw[h];simp
theorem Ew (x:Str):jZ 1 x=x:=by unfold jZ;simp
theorem xN (h:x.length=0):jZ n x=x:=by obtain⟨c⟩:=x;have h:c.size=0:=h;have:c=#[]:=Array.eq_empty_of_size_eq_zero h;subst this;unfold jZ;simp
theorem vW (n:Nat)(x:Str):(jZ n x).length=n*x.length:=by show((List.replicate n x.cps.toList).flatten.toArray).size=n*x.cps.size;simp
theorem G9 (h:PyData.strOk x=true):PyData.strOk (jZ n x)=true:=by show((List.replicate n x.cps.toList).flatten.toArray).all (· < 0x110000)=true;have h':x.cps.all (· < 0x110000)=true:=h;rw[Array.all_eq_true_iff_forall_mem]at *;intro c hc;simp only[List.mem_toArray,List.mem_flatten,List.mem_replicate]at hc;obtain⟨l,⟨_,rfl⟩,hc⟩:=hc;exact h' c (by simpa using hc)
set_option tactic.hygienic true in
theorem DA (B:a5 G s.heap)(p:0<s.toks)(hx:sok (.str x)=true)(h0:0<=n)(h1:n<=16777216)(hl:x.length*n.toNat<=16777216) :
  dG G A O (binaryOp .Mult (.str x t) (.int n u)) s (.str (jZ n.toNat x)):=by
 refine dG.of0 B p fun Q E q=>?_;have hok:sok (.str (jZ n.toNat x))=true:=sok_str.mpr ⟨G9 (sok_str.mp hx).1,by rw[vW,Nat.mul_comm];exact hl⟩;have e63:(2:Int)^63=9223372036854775808:=by decide
 have e24:(2:Nat)^24=16777216:=by decide
 refine P.mul_str (by rw[cG (show¬ n < -(2^63:Int) by lia),cG (show¬ n ≥ 2^63 by lia)];rfl) (fun h2 _ h3=>?_) (fun _ _=>?_) ?_
 .have hxl:=(sok_str.mp hx).2;have h4:(549755813887:Int)<=(2^63-1) / n:=by
   rw[e63];refine(Int.le_ediv_iff_mul_le (by lia)).mpr ?_
   lia
  lia
 .unfold Builtin.Str.tooLong sizeLine;rw[e24];exact cG (by lia)
 .split
  .rename_i h;have e:n.toNat=0:=by lia
   rw[e]at hok q;refine⟨by decide, ?_⟩;have:Str.empty=jZ 0 x:=by unfold jZ;rfl
   rw[this];exact q _ _ (.str hok)
  .split
   .rename_i h;rcases Bool.or_eq_true_iff.mp h with h|h
    .have e:n.toNat=1:=by have:=eM h;lia
     rw[e,Ew]at q;exact q _ s.toks (.str hx)
    .have h:x.length=0:=eM h;rw[xN h]at q;exact q _ s.toks (.str hx)
   .rw[xO];exact⟨by rw[vW,aT,Nat.mul_comm];exact hl,q _ _ (.str hok)⟩
theorem ak.rep (r:ak w O h vs ds):∀n:Nat,ak w O h (List.replicate n vs).flatten (List.replicate n ds).flatten
 |0=>.nil
 |n+1=>by simp only[List.replicate_succ,List.flatten_cons];exact r.append (r.rep n)
theorem BD (B:a5 G s.heap)(p:0<s.toks)(ov:dH O s.heap)(la:s.heap.IsList a vs)(lb:s.heap.IsList b ws)(ra:ak G.w O s.heap vs.toList xs)(rb:ak G.w O s.heap ws.toList ys)
  (hl:xs.length+ys.length<=16777216):dG G A O (binaryOp .Add (.ref a) (.ref b)) s (.list (xs++ys)):=by
 refine dG.of B p fun Q E q=>?_;obtain⟨⟨cls,dd,data,sl⟩,ho,hc,n,hd⟩:=id la;obtain⟨⟨cls2,dd2,data2,sl2⟩,ho2,hc2,n2,hd2⟩:=id lb;simp only at hc hd hc2 hd2;subst hc hd hc2 hd2;have hk:∀o b' o',s.heap.get? b'=some o'->(s.heap.push o).get? b'=some o':=fun o b' o' e=>gv _ e;have hsz:vs.size+ws.size<=sizeLine:=by have e1:=ra.length;have e2:=rb.length;simp only[i5]at e1 e2;rw[aT];lia
 refine concat_meets ⟨_,ho,rfl⟩ ⟨_,ho2,rfl⟩ noFill_list_add seq_list_add PySem.F.slot_list_add PySem.F.entry_list_add (PySem.F.args_list_add_2 _ _) (list_addW a b vs ws n n2 dd dd2 sl sl2 hsz) ⟨ho,ho2, ?_⟩;refine q _ _ _ (hk _) (.list_of (by rw[dR];exact hl) (ov.new (aD _)) ⟨_,iV _ rfl,rfl,_,rfl⟩ (kW rfl rfl) ?_);rw[Array.toList_append];exact(ra.keep (.of (hk _))).append (rb.keep (.of (hk _)))
theorem AR (B:a5 G s.heap)(p:0<s.toks)(ov:dH O s.heap)(la:s.heap.IsList a vs)(ra:ak G.w O s.heap vs.toList xs)
  (h0:0<=n)(h1:n<=16777216)(hl:xs.length*n.toNat<=16777216):dG G A O (binaryOp .Mult (.ref a) (.int n u)) s (.list (List.replicate n.toNat xs).flatten):=by
 refine dG.of B p fun Q E q=>?_;obtain⟨⟨cls,d,data,sl⟩,ho,hcl,k,hd⟩:=id la;simp only at hcl hd;subst hcl hd;have e63:(2:Int)^63=9223372036854775808:=by decide
 have e24:(2:Nat)^24=16777216:=by decide
 have e1:=ra.length;simp only[i5]at e1;have hsz':vs.size*n.toNat<=2^24:=by rw[e1,e24];exact hl
 refine wpAny_binaryOp_repeat_ref (T:="list") (U:="int") (by decide) ⟨_,ho,rfl⟩ (fun s'=>typeIs_int s' n u) noFill_list_mul F.fills_int_mul F.slot_int_rmul repeat_list F.slot_int_index.lookup
  (call_meets F.slot_int_rmul (typeIs_int s n u) F.entry_int_rmul (F.args_int_rmul_2 _ _) (lm_int_rmul_list_any n u a vs k d sl)
   ⟨ho,rfl,⟨_,ho,rfl⟩,call_meets F.slot_list_mul ⟨_,ho,rfl⟩ F.entry_list_mul (F.args_list_mul_2 _ _)
    (lm_list_mul_any a vs k d sl n u (by simp[Builtin.List.listFitsIndex];lia) (by lia) (by simp[Builtin.List.listTooLong,sizeLine];assumption))
    ⟨ho, ?_⟩⟩)
 have hk:∀o b' o',s.heap.get? b'=some o'->(s.heap.push o).get? b'=some o':=fun o b' o' e=>gv _ e;refine q _ _ _ (hk _) (.list_of (by rw[lm_len_rep_flat,Nat.mul_comm];exact hl) (ov.new (aD _)) ⟨_,iV _ rfl,rfl,_,rfl⟩ (kW rfl rfl) ?_);rw[listMul_foldl_if]
 simpa using(ak.rep ra n.toNat).keep (.of (hk _))
noncomputable def d1 (ds:List D)(k:D->Option D):Option D:=match ds with|[d]=>k d|_=>none
noncomputable def d2 (ds:List D)(k:D->D->Option D):Option D:=match ds with|[d,e]=>k d e|_=>none
theorem pe (h:d1 ds k=some r):∃d,ds=[d]/\k d=some r:=by
 cases ds with
 |nil=>exact nn h
 |cons d ds=>cases ds with
  |nil=>exact⟨d,rfl,h⟩
  |cons e ds=>exact nn h
theorem sq (h:d2 ds k=some r):∃d e,ds=[d,e]/\k d e=some r:=by
 cases ds with
 |nil=>exact nn h
 |cons d ds=>cases ds with
  |nil=>exact nn h
  |cons e ds=>cases ds with
   |nil=>exact⟨d,e,rfl,h⟩
   |cons f ds=>exact nn h
noncomputable def gN {β:Type}(d:D)(k:Str->Option β):Option β:=match d with|.str x=>k x|_=>none
noncomputable def dh {β:Type}(d:D)(k:Int->Option β):Option β:=match d with|.int x=>k x|_=>none
noncomputable def A0 {β:Type}(d:D)(k:List D->Option β):Option β:=match d with|.list x=>k x|_=>none
theorem gT {β:Type}{d:D}{k:Str->Option β}{r:β}{P:D->Prop}(h:gN d k=some r)(q:∀x,k x=some r->P (.str x)):P d:=by
 cases d with
 |str x=>exact q x h
 |_=>exact nn h
theorem oH {β:Type}{d:D}{k:Int->Option β}{r:β}{P:D->Prop}(h:dh d k=some r)(q:∀x,k x=some r->P (.int x)):P d:=by
 cases d with
 |int x=>exact q x h
 |_=>exact nn h
theorem Cg {ds:List D}{k:D->Option D}{r:D}{P:List D->Prop}(h:d1 ds k=some r)(q:∀d,k d=some r->P [d]):P ds:=by obtain⟨d,rfl,h⟩:=pe h;exact q d h
theorem KP {ds:List D}{k:D->D->Option D}{r:D}{P:List D->Prop}(h:d2 ds k=some r)(q:∀d e,k d e=some r->P [d,e]):P ds:=by obtain⟨d,e,rfl,h⟩:=sq h;exact q d e h
theorem io (h:gN d k=some r):∃x,d=.str x/\k x=some r:=gT (P:=fun d=>∃x,d=.str x/\k x=some r) h fun x e=>⟨x,rfl,e⟩
theorem aU (h:dh d k=some r):∃x,d=.int x/\k x=some r:=oH (P:=fun d=>∃x,d=.int x/\k x=some r) h fun x e=>⟨x,rfl,e⟩
def i2 (ds:List D)(k:Int->Int->Option D):Option D:=d2 ds fun a b=>dh a fun a=>dh b fun b=>k a b
theorem px (h:i2 ds k=some r):∃a b,ds=[.int a, .int b]/\k a b=some r:=by obtain⟨a,b,rfl,h⟩:=sq h;obtain⟨a,rfl,h⟩:=aU h;obtain⟨b,rfl,h⟩:=aU h;exact⟨a,b,rfl,h⟩
theorem jp (h:A0 d k=some r):∃x,d=.list x/\k x=some r:=by
 cases d with
 |list x=>exact⟨x,rfl,h⟩
 |_=>exact nn h
theorem gw [Decidable p](h:(if p then some x else none)=some r):p/\x=r:=by
 by_cases c:p
 .rw[if_pos c]at h;exact⟨c,aG h⟩
 .rw[if_neg c]at h;exact nn h
noncomputable def xo (o o':Operator)(r:Option D):Option D:=if o=o' then r else none
theorem ju (h:xo o o' r=some d):o=o'/\r=some d:=by
 unfold xo at h;by_cases e:o=o'
 .rw[if_pos e]at h;exact⟨e,h⟩
 .rw[if_neg e]at h;exact nn h
def eE (o:Operator)(a b:D):Option D:=match a with
 |.int a=>dh b fun b=>eR o a b
 |.str x=>match b with
  |.str y=>xo o .Add (if decide (x.length+y.length<=16777216)then some (.str (x++y))else none)
  |.int n=>xo o .Mult (if decide (0<=n)&&decide (n<=16777216)&&decide (x.length*n.toNat<=16777216)then some (.str (jZ n.toNat x))else none)
  |_=>none
 |.list xs=>match b with
  |.list ys=>xo o .Add (if decide (xs.length+ys.length<=16777216)then some (.list (xs++ys))else none)
  |.int n=>xo o .Mult (if decide (0<=n)&&decide (n<=16777216)&&decide (xs.length*n.toNat<=16777216)then some (.list (List.replicate n.toNat xs).flatten)else none)
  |_=>none
 |_=>none
theorem mB (B:a5 G s.heap)(p:0<s.toks)(ov:dH O s.heap)(ra:az G.w O s.heap u a)(rb:az G.w O s.heap v b)(h:eE o a b=some d) :
  dG G A O (binaryOp o u v) s d:=by
 cases a with
 |int a =>
  obtain⟨b,rfl,g⟩:=aU h;clear h;obtain⟨t,rfl⟩:=ra.int_inv;obtain⟨t',rfl⟩:=rb.int_inv;exact wv B p g
 |str x =>
  have sa:=ra.sok;have sb:=rb.sok;obtain⟨t,rfl⟩:=ra.str_inv;cases b with
  |str y =>
   obtain⟨t',rfl⟩:=rb.str_inv;obtain⟨rfl,g⟩:=ju h;clear h;obtain⟨c,rfl⟩:=ax g;exact BE B p sa sb (bJ c)
  |int n =>
   obtain⟨t',rfl⟩:=rb.int_inv;obtain⟨rfl,g⟩:=ju h;clear h;obtain⟨c,rfl⟩:=ax g;simp only[eO,jE]at c;exact DA B p sa c.1.1 c.1.2 c.2
  |_=>exact nn h
 |list xs =>
  obtain⟨a',vs,rfl,_,la,ra'⟩:=ra.list_inv;cases b with
  |list ys =>
   obtain⟨b',ws,rfl,_,lb,rb'⟩:=rb.list_inv;obtain⟨rfl,g⟩:=ju h;clear h;obtain⟨c,rfl⟩:=ax g;exact BD B p ov la lb ra' rb' (bJ c)
  |int n =>
   obtain⟨t',rfl⟩:=rb.int_inv;obtain⟨rfl,g⟩:=ju h;clear h;obtain⟨c,rfl⟩:=ax g;simp only[eO,jE]at c;exact AR B p ov la ra' c.1.1 c.1.2 c.2
  |_=>exact nn h
 |_=>exact nn h
def sF (o:Operator)(a b:D):Option D:=match a with
 |.int a=>dh b fun b=>eR o a b
 |.str x=>gN b fun y=>xo o .Add (if decide (x.length+y.length<=16777216)then some (.str (x++y))else none)
 |_=>none
theorem wX (B:a5 G s.heap)(p:0<s.toks)(ra:az G.w O s.heap u a)(rb:az G.w O s.heap v b)(h:sF o a b=some d) :
  dG G A O (inplaceOp o u v) s d:=by
 cases a with
 |int a =>
  obtain⟨b,rfl,g⟩:=aU h;clear h;obtain⟨t,rfl⟩:=ra.int_inv;obtain⟨t',rfl⟩:=rb.int_inv;exact vc B p g
 |str x =>
  obtain⟨y,rfl,g⟩:=io h;clear h;obtain⟨rfl,g2⟩:=ju g;clear g;obtain⟨c,rfl⟩:=ax g2;have sa:=ra.sok;have sb:=rb.sok;obtain⟨t,rfl⟩:=ra.str_inv;obtain⟨t',rfl⟩:=rb.str_inv;exact Ay B p sa sb (bJ c)
 |_=>exact nn h
noncomputable def gc:Nat->D->Bool
 |_, .none|_, .bool _|_, .int _|_, .str _=>true
 |n+1, .list xs|n+1, .tuple xs=>xs.all (gc n)
 |_,_=>false
mutual
theorem iC:∀(d:D)(n:Nat),gc n d=true->sok d=true->d.canLay0=true/\d.depth<=n
 |.none,n,_,_=>by simp[PyData.canLay0,PyData.depth]
 |.bool _,n,_,_=>by simp[PyData.canLay0,PyData.depth]
 |.int _,n,_,_=>by simp[PyData.canLay0,PyData.depth]
 |.str x,n,_,h=>by simp[PyData.canLay0,PyData.depth,(sok_str.mp h).1]
 |.list xs,0,h,_=>absurd h g6
 |.tuple xs,0,h,_=>absurd h g6
 |.dict _,0,h,_=>absurd h g6
 |.dict _,n+1,h,_=>absurd h g6
 |.list xs,n+1,h,k=>by have h':xs.all (gc n)=true:=h;have k':(decide (xs.length<=16777216)&&sokAll xs)=true:=k;have:=kl xs n (by simpa using h') (cE k').2;simp only[PyData.canLay0,PyData.depth];exact⟨this.1,by lia⟩
 |.tuple xs,n+1,h,k=>by have h':xs.all (gc n)=true:=h;have k':(decide (xs.length<=16777216)&&sokAll xs)=true:=k;have:=kl xs n (by simpa using h') (cE k').2;simp only[PyData.canLay0,PyData.depth];exact⟨this.1,by lia⟩
theorem kl:∀(xs:List D)(n:Nat),(∀x∈xs,gc n x=true)->sokAll xs=true->PyData.canLayAll0 xs=true/\PyData.depthAll xs<=n
 |[],n,_,_=>by simp[PyData.canLayAll0,PyData.depthAll]
 |x::xs,n,h,k=>by
  have k':sok x=true/\sokAll xs=true:=cE k;have h1:=iC x n (h x dX) k'.1;have h2:=kl xs n (fun y hy=>h y (eh _ hy)) k'.2;simp only[PyData.canLayAll0,PyData.depthAll,h1.1,h2.1,Bool.and_self,true_and]
  lia
end
noncomputable def Nd (a:D):Bool:=match a with|.none=>true|_=>false
noncomputable def HT (d:D)(k:Bool->Option D):Option D:=match d with|.bool x=>k x|_=>none
set_option tactic.hygienic true in
theorem AZ (h:HT d k=some r):∃x,d=.bool x/\k x=some r:=by
 rcases d with⟨⟩|⟨⟩
 case bool x=>exact⟨x,rfl,h⟩
 all_goals exact nn h
def IJ (f:Bool->Bool)(a b:D):Option D:=match b with
 |.none=>some (.bool (f (Nd a)))
 |.bool y=>HT a fun x=>some (.bool (f (x==y)))
 |_=>none
def II (f:Bool->Bool)(a b:D):Option D:=match b with
 |.str x=>gN a fun y=>some (.bool (f (!(Builtin.Str.occurrences x y 0 x.length 1).isEmpty)))
 |.list xs=>if gc 8 a&&gc 8 (.list xs)then some (.bool (f (xs.any fun y=>PyData.eqv y a)))else none
 |_=>none
def bH (o:CmpOp)(a b:D):Option D:=match o with
 |.Eq=>if gc 8 a&&gc 8 b then some (.bool (PyData.eqv a b))else none
 |.NotEq=>if gc 8 a&&gc 8 b then some (.bool (!PyData.eqv a b))else none
 |.Lt=>dh a fun a=>dh b fun b=>some (.bool (decide (a<b)))
 |.LtE=>dh a fun a=>dh b fun b=>some (.bool (decide (a<=b)))
 |.Gt=>dh a fun a=>dh b fun b=>some (.bool (decide (b<a)))
 |.GtE=>dh a fun a=>dh b fun b=>some (.bool (decide (b<=a)))
 |.Is=>IJ (fun c=>c) a b
 |.IsNot=>IJ (fun c=>!c) a b
 |.In=>II (fun c=>c) a b
 |.NotIn=>II (fun c=>!c) a b
theorem rQ (r:az w O h v a):(v=.none)↔a=.none:=by
 obtain⟨as,x,_⟩:=r;constructor
 .rintro rfl;cases x;rfl
 .rintro rfl;exact(reads_none_inv x).1
theorem IZ (h:a≠.none):Nd a=false:=by
 rcases a with⟨⟩|⟨⟩
 case none=>exact absurd rfl h
 all_goals rfl
theorem nY {f:Int->Int->Bool}(W:∀{x y:Int}{t t':Tok}{Q:ba}{E:ba},Q (.bool (f x y)) s->wpAny (bC G) A (compareOp o (.int x t) (.int y t')) Q E s)
  {a b:D}{u v:Value}(ra:az G.w O s.heap u a)(rb:az G.w O s.heap v b)(h:(dh a fun a=>dh b fun b=>some (.bool (f a b)))=some d){Q:ba}{E:ba}(key:∀c:Bool, .bool c=d->Q (.bool c) s):wpAny (bC G) A (compareOp o u v) Q E s:=by
 obtain⟨x,rfl,g⟩:=aU h;obtain⟨y,rfl,g⟩:=aU g;obtain⟨t,rfl⟩:=ra.int_inv;obtain⟨t',rfl⟩:=rb.int_inv;exact W (key _ (aG g))
set_option tactic.hygienic true in
theorem B9 (W1:∀{Q:ba}{E:ba},Q (.bool (f true)) s->wpAny (bC G) A (compareOp o .none .none) Q E s)
  (W2:∀{v:Value}{Q:ba}{E:ba},v≠.none->Q (.bool (f false)) s->wpAny (bC G) A (compareOp o v .none) Q E s)
  (W3:∀{x y:Bool}{Q:ba}{E:ba},Q (.bool (f (x==y))) s->wpAny (bC G) A (compareOp o (.bool x) (.bool y)) Q E s)
  {a b:D}{u v:Value}(ra:az G.w O s.heap u a)(rb:az G.w O s.heap v b)(h:IJ f a b=some d){Q:ba}{E:ba}(key:∀c:Bool, .bool c=d->Q (.bool c) s):wpAny (bC G) A (compareOp o u v) Q E s:=by
 rcases b with⟨⟩|⟨⟩
 case none =>
  obtain rfl:=rb.none_inv;have h:some (PyData.bool (f (Nd a)))=some d:=h;by_cases e:u=.none
  .subst e;rw[(rQ ra).mp rfl]at h;exact W1 (key _ (aG h))
  .rw[IZ fun e'=>e ((rQ ra).mpr e')]at h;exact W2 e (key _ (aG h))
 case bool y =>
  obtain⟨x,rfl,g⟩:=AZ h;obtain rfl:=ra.bool_inv;obtain rfl:=rb.bool_inv;exact W3 (key _ (aG g))
 all_goals exact nn h
set_option tactic.hygienic true in
theorem B8 (hu:A.units+100<cLine)(W1:∀{x y:Str}{t t':Tok}{Q:ba}{E:ba},Q (.bool (f (!(Builtin.Str.occurrences x y 0 x.length 1).isEmpty))) s->wpAny (bC G) A (compareOp o (.str y t') (.str x t)) Q E s)
  (W2:∀{c x:Value}{xs:List PyData}{d:PyData}{as bs:a9}{Q:ba}{E:ba},Reads s.heap c (.list xs) as->Reads s.heap x d bs->PyData.canLayAll0 xs=true->d.canLay0=true->A.units+1+min (PyData.depthAll xs) d.depth<cLine->Q (.bool (f (xs.any fun y=>PyData.eqv y d))) s->wpAny (bC G) A (compareOp o x c) Q E s)
  {a b:D}{u v:Value}(ra:az G.w O s.heap u a)(rb:az G.w O s.heap v b)(h:II f a b=some d){Q:ba}{E:ba}(key:∀c:Bool, .bool c=d->Q (.bool c) s):wpAny (bC G) A (compareOp o u v) Q E s:=by
 rcases b with⟨⟩|⟨⟩
 case str x =>
  obtain⟨y,rfl,g⟩:=io h;obtain⟨t,rfl⟩:=ra.str_inv;obtain⟨t',rfl⟩:=rb.str_inv;exact W1 (key _ (aG g))
 case list xs =>
  obtain⟨c,rfl⟩:=ax h;obtain⟨as,x,_,sa⟩:=ra;obtain⟨bs,y,_,sb⟩:=rb;have l1:=iC _ 8 (ai c).1 sa;have l2:=iC _ 8 (ai c).2 sb;refine W2 y x (show(PyData.list xs).canLay0=true from l2.1) l1.1 ?_ (key _ rfl);have:=aJ (Nat.min_le_right (PyData.depthAll xs) a.depth) l1.2
  lia
 all_goals exact nn h
theorem mD (B:a5 G s.heap)(p:0<s.toks)(hu:A.units+100<cLine){o:CmpOp}{a b:D}{u v:Value}(ra:az G.w O s.heap u a)(rb:az G.w O s.heap v b)(h:bH o a b=some d) :
  dG G A O (compareOp o u v) s d:=by
 refine dG.of0 B p fun Q E q=>?_;have key:∀c:Bool, .bool c=d->Q (.bool c) s:=fun c e=>q _ s.toks (e▸.bool);have shp:∀(x:D),gc 8 x=true->sok x=true->SeqAt.shaped x=true:=fun x h1 h2=>by have:=iC x 8 h1 h2;unfold SeqAt.shaped;rw[this.1,Bool.true_and];exact dg (by lia)
 have hu':A.units+64<cLine:=by lia
 rcases o with⟨⟩|⟨⟩
 case Eq =>
  obtain⟨as,x,_,sa⟩:=ra;obtain⟨bs,y,_,sb⟩:=rb;exact eq_dataH x y (shp _ (ai (ax h).1).1 sa) (shp _ (ai (ax h).1).2 sb) hu' (key _ (ax h).2)
 case NotEq =>
  obtain⟨as,x,_,sa⟩:=ra;obtain⟨bs,y,_,sb⟩:=rb;exact ne_dataH x y (shp _ (ai (ax h).1).1 sa) (shp _ (ai (ax h).1).2 sb) hu' (key _ (ax h).2)
 case Lt=>exact nY (fun k=>PyProof.Rows.lt_int k) ra rb h key
 case LtE=>exact nY (fun k=>PyProof.Rows.le_int k) ra rb h key
 case Gt=>exact nY (f:=fun x y=>decide (y<x)) (fun k=>PyProof.Rows.gt_int k) ra rb h key
 case GtE=>exact nY (f:=fun x y=>decide (y<=x)) (fun k=>PyProof.Rows.ge_int k) ra rb h key
 case Is=>exact B9 (f:=fun c=>c) (fun k=>is_none_none k) (fun e k=>is_none_ne e k) (fun k=>is_bool k) ra rb h key
 case IsNot=>exact B9 (f:=fun c=>!c) (fun k=>isnot_none_none k) (fun e k=>isnot_none_ne e k) (fun k=>isnot_bool k) ra rb h key
 case In=>exact B8 (f:=fun c=>c) hu (fun k=>P.in_str k) (fun y x a b c k=>SeqAt.in_list_reads y x a b c k) ra rb h key
 case NotIn=>exact B8 (f:=fun c=>!c) hu (fun k=>P.notIn_str k) (fun y x a b c k=>SeqAt.notIn_list_reads y x a b c k) ra rb h key
noncomputable def dq (d:D):Option Bool:=match d with
 |.none=>some false
 |.bool b=>some b
 |.int i=>some (i != 0)
 |.str x=>some ((x.length:Int) != 0)
 |.list xs=>some (!xs.isEmpty)
 |.tuple xs=>some (!xs.isEmpty)
 |.dict _=>none
theorem wp.of0 (B:a5 G s.heap)(p:0<s.toks)
  (h:∀(Q:Bool->Shared->Prop)(E:ba),(∀tk,Q b { s with toks:=tk })->wpAny (bC G) A t Q E s):wp G A t s b:=fun Q E q=>by
 refine wpAny_with_toks (n:=1) p (h _ _ fun tk p'=>?_);exact q _ (.all B (fun _ _ e=>e) p')
theorem e7 (B:a5 G s.heap)(p:0<s.toks)(ra:az G.w O s.heap u a)(h:dq a=some b):wp G A (truthy u) s b:=by
 refine wp.of0 B p fun Q E q=>?_;have e63:(2:Int)^63=9223372036854775808:=by decide
 cases a with
 |none=>obtain rfl:=aG h;obtain rfl:=ra.none_inv;exact truthy_none (q s.toks)
 |bool c=>obtain rfl:=aG h;obtain rfl:=ra.bool_inv;exact wpAny_truthy_bool (q s.toks)
 |int i=>obtain rfl:=aG h;obtain⟨t,rfl⟩:=ra.int_inv;exact P.truthy_int (q s.toks)
 |str x =>
  obtain rfl:=aG h;have:=(sok_str.mp ra.sok).2;obtain⟨t,rfl⟩:=ra.str_inv;exact P.truthy_str (by lia) (q _)
 |list xs =>
  obtain rfl:=aG h;have hl:=ra.list_len;obtain⟨a',vs,rfl,_,la,ra'⟩:=ra.list_inv;have e:=ra'.length;simp only[i5]at e;refine wpAny_truthy_list la (by lia) ?_;have e2:(!vs.isEmpty)=!xs.isEmpty:=by
   congr 1
   rw[Bool.eq_iff_iff];simp only[Array.isEmpty_iff_size_eq_zero,List.isEmpty_iff_length_eq_zero,e]
  rw[e2];exact q _
 |tuple xs =>
  obtain rfl:=aG h;have hl:=ra.tuple_len;obtain⟨a',vs,rfl,la,ra'⟩:=ra.tuple_inv;have e:=ra'.length;simp only[i5]at e;refine truthy_tuple la (by lia) ?_;have e2:(!vs.isEmpty)=!xs.isEmpty:=by
   congr 1
   rw[Bool.eq_iff_iff];simp only[Array.isEmpty_iff_size_eq_zero,List.isEmpty_iff_length_eq_zero,e]
  rw[e2];exact q _
 |dict _=>exact nn h
theorem AS (B:a5 G s.heap)(p:0<s.toks):dG G A O (unaryOp .USub (.int i t)) s (.int (-i)):=
 dG.of0 B p fun _ _ q=>P.neg_int (q _ _ .int)
theorem AB (B:a5 G s.heap)(p:0<s.toks):dG G A O (unaryOp .Invert (.int i t)) s (.int (Builtin.bitNot i)):=
 dG.of0 B p fun _ _ q=>PyProof.Rows.invert_int (q _ _ .int)
theorem AY (B:a5 G s.heap)(p:0<s.toks)(ra:az G.w O s.heap u a)(h:dq a=some b):dG G A O (unaryOp .Not u) s (.bool (!b)):=fun Q E q =>
 not_of (e7 B p ra h _ _ fun s' x=>q _ s' x .bool)
section
variable {β:Type}{p:Prop}{r:β}
theorem y8 {c a b:Prop}[Decidable c](h:c)(q:a):if c then a else b:=(if_pos h).symm▸q
theorem Da {c a b:Prop}[Decidable c](h:¬ c)(q:b):if c then a else b:=(if_neg h).symm▸q
theorem aq {α:Type}{o:Option α}{k:α->Option β}(h:o.bind k=some r)(q:∀x,o=some x->k x=some r->p):p:=by
 cases o with
 |none=>exact nn h
 |some x=>exact q x rfl h
theorem fH {α γ:Type}{a:Option α}{b:Option γ}{f:α->γ->Option β}(h:(a.bind fun x=>b.bind fun y=>f x y)=some r)(q:∀x y,a=some x->b=some y->f x y=some r->p):p:=
 aq h fun x e h=>aq h fun y e' h=>q x y e e' h
theorem ky {α:Type}{o:Option α}{k:α->β}{P:β->Prop}(h:o.map k=some r)(q:∀x,o=some x->P (k x)):P r:=by
 cases o with
 |none=>exact nn h
 |some x=>exact aG h▸q x rfl
theorem oV {o:Option Bool}{x y:Option β}(h:(o.bind fun t=>bif t then x else y)=some r)(q1:o=some true->x=some r->p)(q2:o=some false->y=some r->p):p:=
 aq h fun t e h=>by
  cases t
  .exact q2 e h
  .exact q1 e h
theorem eg {c:Prop}[Decidable c]{x:β}{P:β->Prop}(h:(if c then some x else none)=some r)(q:c->P x):P r:=by
 by_cases e:c
 .rw[if_pos e]at h;exact aG h▸q e
 .rw[if_neg e]at h;exact nn h
def IY (o:Option D)(k:Int->Option β):Option β:=o.bind fun d=>dh d k
theorem y5 {o:Option D}{k:Int->Option β}(h:IY o k=some r)(q:∀x,o=some (.int x)->k x=some r->p):p:=
 aq h fun d e h=>let⟨x,e',h⟩:=aU h;q x (e'▸e) h
def jA (o:Option D)(k:Str->Option β):Option β:=o.bind fun d=>gN d k
theorem jV {o:Option D}{k:Str->Option β}(h:jA o k=some r)(q:∀x,o=some (.str x)->k x=some r->p):p:=
 aq h fun d e h=>let⟨x,e',h⟩:=io h;q x (e'▸e) h
def fM (o:Option D)(k:List D->Option β):Option β:=o.bind fun d=>A0 d k
theorem cZ {o:Option D}{k:List D->Option β}(h:fM o k=some r)(q:∀x,o=some (.list x)->k x=some r->p):p:=
 aq h fun d e h=>let⟨x,e',h⟩:=jp h;q x (e'▸e) h
end
end
section
noncomputable def gF:List D->Option (List Str)
 |[]=>some []
 |d::r=>gN d fun x=>(gF r).map (x :: ·)
theorem tJ:∀{xs:List D}{ns:List Str},gF xs=some ns->xs=ns.map .str
 |[],ns,h=>aG h▸rfl
 |_::r,ns,h=>by obtain⟨i,rfl,h⟩:=io h;obtain⟨ms,h1,rfl⟩:=Option.map_eq_some_iff.mp h;rw[tJ h1];rfl
noncomputable def y9 (a b:Str):Bool:=decide (a.cps.toList<=b.cps.toList)
def dZ (ss:List Str):List Str:=ss.mergeSort y9
theorem jL (a b c:Str)(h:y9 a b=true)(k:y9 b c=true):y9 a c=true:=dg (List.le_trans (bJ h) (bJ k))
theorem mZ (a b:Str):(y9 a b || y9 b a)=true:=Bool.or_eq_true_iff.mpr ((List.le_total a.cps.toList b.cps.toList).imp dg dg)
theorem vj (a b:Str)(h:y9 a b=true)(k:y9 b a=true):a=b:=by have e:=List.le_antisymm (bJ h) (bJ k);obtain⟨⟨x⟩⟩:=a;obtain⟨⟨y⟩⟩:=b;cases e;rfl
theorem Dk (h:(!ltCps b.cps.toList a.cps.toList)=true):y9 a b=true:=by rw[ltCps_eq]at h;exact dg (List.not_lt.mp (of_decide_eq_false (by rw[Bool.not_eq_true']at h;exact h)))
theorem rG:∀{r:List Str}{p:Str},risingS p r=true->(p::r).Pairwise fun a b=>y9 a b=true
 |[],p,_=>List.pairwise_singleton _ _
 |x::r,p,h=>by
  obtain⟨h1,h2⟩:=cE (show(!ltCps x.cps.toList p.cps.toList&&risingS x r)=true from h);have ih:=rG h2;refine List.pairwise_cons.mpr ⟨fun y m=>?_,ih⟩;rcases bA m with rfl|m
  .exact Dk h1
  .exact jL _ _ _ (Dk h1) ((List.pairwise_cons.mp ih).1 y m)
theorem vV (p:ts.Perm ss)(h:sortedS ts=true):ts=dZ ss:=by
 have hp:ts.Pairwise fun a b=>y9 a b=true:=by
  cases ts with
  |nil=>exact List.Pairwise.nil
  |cons x r=>exact rG h
 exact List.Perm.eq_of_pairwise (fun a b _ _=>vj a b) hp (List.pairwise_mergeSort jL mZ ss) (p.trans (List.mergeSort_perm ss y9).symm)
theorem qe (p:ss.Perm ts):dZ ss=dZ ts:=
 List.Perm.eq_of_pairwise (fun a b _ _=>vj a b) (List.pairwise_mergeSort jL mZ ss) (List.pairwise_mergeSort jL mZ ts) ((List.mergeSort_perm ss y9).trans (p.trans (List.mergeSort_perm ts y9).symm))
variable {G:GC}{A:Around}{O:a9}{s:Shared}
theorem v5:∀{ts:List Str}{vs:fO},ak w O h vs (ts.map .str)->StrsAre vs ts
 |[],_,r=>by rw[r.nil_inv];exact .nil
 |x::ts,_,r=>by obtain⟨u,us,rfl,a,b⟩:=r.cons_inv;obtain⟨t,rfl⟩:=a.str_inv;exact .cons x t (v5 b)
theorem rO (x:StrsAre vs ts):(∀t∈ts,sok (.str t)=true)->ak w O h vs (ts.map .str):=by
 induction x with
 |nil=>exact fun _=>.nil
 |cons y t _ ih=>exact fun k=>.cons (.str (k y dX)) (ih fun z m=>k z (eh _ m))
theorem tI (B:a5 G s.heap)(p:0<s.toks)(ov:dH O s.heap)(hl:ts.length<64)(r:az G.w O s.heap u (.list (ts.map .str))):dG G A O (call (.builtin "sorted") [u]) s (.list ((dZ ts).map .str)):=by
 refine dG.of B p fun Q E q=>?_;obtain⟨a,vs,rfl,_,la,ra⟩:=r.list_inv;have e:=ra.length;rw[dx]at e;have hs:=sokAll_iff.mp ra.sok;refine sorted_strs (vs:=vs.toList) (by rw[Array.toArray_toList];exact la) (v5 ra) (by rw[e];exact hl) fun out ss' h1 h2 h3=>?_;obtain⟨n,hn⟩:=sortedAll_at s.heap vs.toList out;have es:=vV h2 h3;subst es;have hle:(dZ ts).length=ts.length:=h2.length_eq;have hf:s.heap.get? (s.heap.objs.size+1)=none:=by
  cases e:s.heap.get? (s.heap.objs.size+1)with
  |none=>rfl
  |some o=>exact absurd (Heap.lt_size e) (Nat.not_lt.mpr (Nat.le_succ _))
 exact q _ _ s.toks (fun b o e=>sortedAll_old e) (.list_of (by rw[dx,hle];lia) (ov.new hf) ⟨_,hn,rfl,_,rfl⟩ (fun o e=>by rw[hn]at e;obtain rfl:=aG e;rfl) (rO h1 fun t m=>hs _ (List.mem_map.mpr ⟨t,h2.mem_iff.mp m,rfl⟩)))
end
section
variable {G:GC}{A:Around}{O:a9}{s:Shared}{d:D}
noncomputable def jj:List D->Option (List Int)
 |[]=>some []
 |d::r=>dh d fun i=>(jj r).map (i :: ·)
theorem y6:∀{xs:List D}{ns:List Int},jj xs=some ns->xs=ns.map .int
 |[],ns,h=>aG h▸rfl
 |_::r,ns,h=>by obtain⟨i,rfl,h⟩:=aU h;obtain⟨ms,h1,rfl⟩:=Option.map_eq_some_iff.mp h;rw[y6 h1];rfl
theorem A8 (ns:List Int):preSum (fun i=>ns.getD i 0) ns.length=ns.sum:=by
 have h:∀k,k<=ns.length->preSum (fun i=>ns.getD i 0) k=(ns.take k).sum:=by
  intro k
  induction k with
  |zero=>intro _;rfl
  |succ k ih =>
   intro hk;have e:ns[k]?=some (ns.getD k 0):=by rw[List.getD_eq_getElem?_getD];have:k<ns.length:=hk;simp[this]
   rw[preSum,ih (by exact il ‹_›),List.take_add_one,e,List.sum_append];simp
 rw[h _ (fc _),List.take_length]
theorem ak.ints {ns:List Int}(r:ak w O h vs (ns.map .int)):∀(i:Nat) (v:Value),vs[i]?=some v->∃t,v=Value.int (ns.getD i 0) t:=fun i v e=>by
 have hi:i<ns.length:=by have:=r.length;rw[dx]at this;rw[<- this];exact(List.getElem?_eq_some_iff.mp e).1
 obtain⟨u,e',q⟩:=r.get i (.int (ns.getD i 0)) (by rw[List.getElem?_map,List.getD_eq_getElem?_getD];simp[hi]);rw[e]at e';obtain rfl:=aG e';exact q.int_inv
theorem Bs (B:a5 G s.heap)(p:0<s.toks)(hh:A.handled=none){ns:List Int}(r:az G.w O s.heap u (.list (ns.map .int))):dG G A O (call (.builtin "sum") [u]) s (.int ns.sum):=by
 refine dG.of B p fun Q E q=>?_;obtain⟨a,vs,rfl,_,la,ra⟩:=r.list_inv;have e:=ra.length;simp only[i5,dx]at e;have ha:a<s.heap.objs.size:=by obtain⟨o,ho,_⟩:=id la;exact Heap.lt_size ho
 refine call_sum_walkG (wpAny_pyIter_list la ⟨s.heap.objs.size,_,_,_,_,_,fun i=>ns.getD i 0,rfl,Walks.list (by simpa using hh) _ a (Nat.ne_of_lt ha) vs,⟨⟨_,iV _ rfl,rfl,rfl⟩, ?_⟩, ?_, ?_, ?_⟩)
 .obtain⟨o,ho,r⟩:=la;exact⟨o,gv _ ho,r⟩
 .intro b hb;simp only[List.mem_cons,List.not_mem_nil,or_false]at hb;show b<(s.heap.push _).objs.size;rw[Heap.size_push];rcases hb with rfl|rfl
  .exact Nat.lt_succ_self _
  .exact Nat.lt_succ_of_lt ha
 .intro i v hv;exact ra.ints i v (by simpa using hv)
 .intro h' tk t' hk;have:=q (.int ns.sum t') h' tk (fun b o e'=>hk b o (fun m=>by simp only[List.mem_singleton]at m;rw[m,aD]at e';exact nn e') (gv _ e')) .int;rw[<- A8,<- e]at this;exact this
theorem Fv (bt:Int->Int->Bool)(n:Int)(r:List Int):∀k,k<=r.length ->
  (n::r).getD (argBest (fun i j=>bt ((n::r).getD i 0) ((n::r).getD j 0)) k) 0=(r.take k).foldl (fun m x=>if bt x m=true then x else m) n:=by
 intro k
 induction k with
 |zero=>intro _;rfl
 |succ k ih =>
  intro hk;have ih:=ih (by exact il ‹_›);have hk':k<r.length:=hk;have e:r[k]?=some ((n::r).getD (k+1) 0):=by rw[List.getD_eq_getElem?_getD];simp[hk']
  rw[List.take_add_one,e];simp only[Option.toList_some,List.foldl_append,List.foldl_cons,List.foldl_nil];rw[<- ih,argBest];split <;> rfl
set_option genCtorIdx true in
inductive Bf where
 |len|sum|chr|divmod|sorted
noncomputable def Bf.val:Bf->Value
 |.len=>.builtin "len"
 |.sum=>.builtin "sum"
 |.chr=>.builtin "chr"
 |.divmod=>.builtin "divmod"
 |.sorted=>.builtin "sorted"
def As (f:Bf)(ds:List D):Option D:=match f with
 |.len=>d1 ds fun d=>match d with|.str x=>some (.int x.length)|.list xs=>some (.int xs.length)|.tuple xs=>some (.int xs.length)|_=>none
 |.sum=>d1 ds fun d=>A0 d fun xs=>(jj xs).map fun ns=>.int ns.sum
 |.chr=>d1 ds fun d=>dh d fun i=>if decide (0<=i)&&decide (i<=1114111)then some (.str ⟨#[i.toNat]⟩)else none
 |.divmod=>d2 ds fun a b=>dh a fun a=>dh b fun b=>if b != 0&&decide (b.natAbs.log2<9000)then some (.tuple [.int (a.fdiv b), .int (a.fmod b)])else none
 |.sorted=>d1 ds fun d=>A0 d fun xs=>(gF xs).bind fun ts=>if decide (ts.length<64)then some (.list ((dZ ts).map .str))else none
theorem Ei {x:Str}(hx:sok (.str x)=true){i c:Nat}(e:x.cps[i]?=some c):sok (.str ⟨#[c]⟩)=true:=by
 refine sok_str.mpr ⟨?_,by show #[c].size<=_;simp⟩;have h':x.cps.all (· < 0x110000)=true:=(sok_str.mp hx).1;rw[Array.all_eq_true_iff_forall_mem]at h';have:=h' c (Array.mem_of_getElem? e);show #[c].all (· < 0x110000)=true
 simpa using this
theorem ak.one (r:ak w O h vs [d]):∃v,vs=[v]/\az w O h v d:=by obtain⟨u,us,rfl,a,b⟩:=r.cons_inv;rw[b.nil_inv];exact⟨u,rfl,a⟩
theorem ak.two (r:ak w O h vs [d,e]):∃v u,vs=[v,u]/\az w O h v d/\az w O h u e:=by obtain⟨u,us,rfl,a,b⟩:=r.cons_inv;obtain⟨v,rfl,c⟩:=b.one;exact⟨u,v,rfl,a,c⟩
theorem BV (B:a5 G s.heap)(p:0<s.toks)(ov:dH O s.heap)(hh:A.handled=none)(r:ak G.w O s.heap vs ds)(h:As f ds=some d):dG G A O (call f.val vs) s d:=by
 have e63:(2:Int)^63=9223372036854775808:=by decide
 cases f with
 |len =>
  obtain⟨e,rfl,g⟩:=pe h;clear h;obtain⟨v,rfl,rr⟩:=r.one;clear r;have r:=rr;clear rr;cases e with
  |str x =>
   obtain rfl:=aG g;have:=(sok_str.mp r.sok).2;obtain⟨t,rfl⟩:=r.str_inv;exact dG.of0 B p fun Q E q=>P.len_str (by lia) (q _ _ .int)
  |list xs =>
   obtain rfl:=aG g;have hl:=r.list_len;obtain⟨a,vs,rfl,_,la,ra⟩:=r.list_inv;have e:=ra.length;simp only[i5]at e;exact dG.of0 B p fun Q E q=>len_list la (by lia) (by rw[e];exact q _ _ .int)
  |tuple xs =>
   obtain rfl:=aG g;have hl:=r.tuple_len;obtain⟨a,vs,rfl,la,ra⟩:=r.tuple_inv;have e:=ra.length;simp only[i5]at e;exact dG.of0 B p fun Q E q=>len_tuple la (by lia) (by rw[e];exact q _ _ .int)
  |_=>exact nn g
 |sum =>
  obtain⟨e,rfl,g⟩:=pe h;clear h;obtain⟨xs,rfl,g2⟩:=jp g;clear g;obtain⟨ns,h1,rfl⟩:=Option.map_eq_some_iff.mp g2;obtain⟨v,rfl,rr⟩:=r.one;clear r;have r:=rr;clear rr;rw[y6 h1]at r;exact Bs B p hh r
 |chr =>
  obtain⟨e,rfl,g⟩:=pe h;clear h;obtain⟨i,rfl,g2⟩:=aU g;clear g;obtain⟨c,rfl⟩:=ax g2;obtain⟨v,rfl,rr⟩:=r.one;clear r;have r:=rr;clear rr;obtain⟨t,rfl⟩:=r.int_inv;simp only[eO,jE]at c;refine dG.of0 B p fun Q E q=>chr_of_range c.1 c.2 (q _ _ (.str (sok_str.mpr ⟨?_,by show 1<=_;decide⟩)));simp[PyData.strOk];lia
 |divmod =>
  obtain⟨e,e',rfl,g⟩:=sq h;clear h;obtain⟨a,rfl,g2⟩:=aU g;clear g;obtain⟨b,rfl,g3⟩:=aU g2;clear g2;obtain⟨c,rfl⟩:=ax g3;obtain⟨c1,c2⟩:=cE c;obtain⟨v,u,rfl,r1,r2⟩:=r.two;obtain⟨t,rfl⟩:=r1.int_inv;obtain⟨t',rfl⟩:=r2.int_inv;refine dG.of B p fun Q E q=>divmod_int (by simpa using c1) (q _ _ _ (fun b o e=>gv _ e) (.tuple_of (by simp) ⟨_,iV _ rfl,rfl,_,rfl⟩ ?_)) (.inl (PyProof.noPylong_of_log2 (bJ c2)));exact .cons .int (.cons .int .nil)
 |sorted =>
  obtain⟨e,rfl,g⟩:=pe h;clear h;obtain⟨xs,rfl,g2⟩:=jp g;clear g;obtain⟨ts,h1,g3⟩:=Option.bind_eq_some_iff.mp g2;obtain⟨c,rfl⟩:=ax g3;obtain⟨v,rfl,rr⟩:=r.one;clear r;have r:=rr;clear rr;rw[tJ h1]at r;exact tI B p ov (bJ c) r
set_option genCtorIdx true in
inductive Mt where
 |join|startswith|endswith|find3|count|get|bitlen
noncomputable def Mt.name:Mt->Str
 |.join => "join"
 |.startswith => "startswith"
 |.endswith => "endswith"
 |.find3 => "find"
 |.count => "count"
 |.get => "get"
 |.bitlen => "bit_length"
noncomputable def pj (x y:Str)(i j:Int):Int:=match Builtin.Str.occurrences x y (fromIndex x.length i) (min (fromIndex x.length j) x.length) 1 with|k::_=>(k:Int)|[] => -1
theorem uZ (x y:Str)(i j:Int)(t u v v':Tok):Gives (Builtin.«str.find» ⟨[.str x t, .str y u, .int i v, .int j v'],[]⟩) (.int (pj x y i j)):=by
 show Gives (match Builtin.Str.occurrences x y (fromIndex x.length i) (min (fromIndex x.length j) x.length) 1 with|k::_=>retInt k|[]=>(do rule "str.find.not-found";retInt (-1))) _;unfold pj;cases Builtin.Str.occurrences x y (fromIndex x.length i) (min (fromIndex x.length j) x.length) 1 with
 |nil=>exact .rule (.of_eq rfl)
 |cons k _=>exact .of_eq rfl
noncomputable def d3 (ds:List D)(k:D->D->D->Option D):Option D:=match ds with|[d,e,f]=>k d e f|_=>none
theorem Ch (h:d3 ds k=some r):∃d e f,ds=[d,e,f]/\k d e f=some r:=by
 cases ds with
 |nil=>exact nn h
 |cons d ds=>cases ds with
  |nil=>exact nn h
  |cons e ds=>cases ds with
   |nil=>exact nn h
   |cons f ds=>cases ds with
    |nil=>exact⟨d,e,f,rfl,h⟩
    |cons g ds=>exact nn h
noncomputable def Lp (d:D)(k:List (D × D)->Option D):Option D:=match d with|.dict x=>k x|_=>none
theorem DH (h:Lp d k=some r):∃x,d=.dict x/\k x=some r:=by
 cases d with
 |dict x=>exact⟨x,rfl,h⟩
 |_=>exact nn h
def lg (m:Mt)(o:D)(ds:List D):Option D:=match m with
 |.join=>gN o fun x=>d1 ds fun d=>A0 d fun xs=>match gF xs with
  |some ts=>if JoinOk x ts&&sok (.str (Txt.join x ts))then some (.str (Txt.join x ts))else none
  |none=>none
 |.startswith=>gN o fun x=>d1 ds fun d=>gN d fun y=>some (.bool (Txt.startswith x y))
 |.endswith=>gN o fun x=>d1 ds fun d=>gN d fun y=>some (.bool (Txt.endswith x y))
 |.find3=>gN o fun x=>d3 ds fun a b c=>gN a fun y=>dh b fun i=>dh c fun j=>some (.int (pj x y i j))
 |.count=>match o with
  |.str x=>d1 ds fun d=>gN d fun y=>some (.int (Txt.count x y))
  |.list xs=>d1 ds fun d=>if gc 8 d&&gc 8 (.list xs)then some (.int (xs.countP fun y=>PyData.eqv y d))else none
  |_=>none
 |.get=>Lp o fun kvs=>d2 ds fun a b=>gN a fun x=>gN b fun z=>gN ((lookup (.str x) kvs).getD (.str z)) fun y=>if sok (.str y)then some (.str y)else none
 |.bitlen=>dh o fun a=>match ds with|[]=>some (.int (ib a))|_=>none
theorem lV:∀{ts:List Str}{vs:fO},ak w O h vs (ts.map .str)->∃l:List (Str × Tok),vs=strValues l/\l.map (·.1)=ts
 |[],_,r=>⟨[],r.nil_inv,rfl⟩
 |x::ts,_,r=>by obtain⟨u,us,rfl,a,b⟩:=r.cons_inv;obtain⟨t,rfl⟩:=a.str_inv;obtain⟨l,rfl,rfl⟩:=lV b;exact⟨(x,t)::l,rfl,rfl⟩
theorem yW {α β:Type}{f:α->β}{l:List α}{i:Nat}{y:β}(h:(l.map f)[i]?=some y):∃x,l[i]?=some x/\f x=y:=Option.map_eq_some_iff.mp (List.getElem?_map▸h)
theorem D0 {h:Heap}{es:List DictEntry}{ds:List D}{as:a9}(r:ReadsAll h (es.map (·.key)) ds as){i:Nat}{x:Str}(g:ds[i]?=some (.str x)):∃e t,es[i]?=some e/\e.key=.str x t:=by obtain⟨v,a,hv,r⟩:=r.atAny _ _ g;obtain⟨e,he,rfl⟩:=yW hv;obtain⟨t,hk,_⟩:=reads_str_inv r;exact⟨e,t,he,hk⟩
theorem vi {kvs:List (D × D)}(hk:∀q∈kvs,∃x,q.1=PyData.str x){d:D}(h:d∈kvs.map (·.1)):∃x,d=PyData.str x:=
 (iz h).elim fun q p=>p.2▸hk q p.1
theorem w7 {h:Heap}{es:List DictEntry}{kvs:List (D × D)}{as:a9}(r:ReadsAll h (es.map (·.key)) (kvs.map (·.1)) as)(hk:∀q∈kvs,∃x,q.1=PyData.str x)
  (hp:es.Pairwise fun e f=>∀x t u,e.key=.str x t->f.key≠.str x u):(kvs.map (·.1)).Nodup:=by
 refine List.pairwise_iff_getElem.mpr fun i j h1 hj hij e=>?_;have hq:=List.getElem?_eq_getElem hj;obtain⟨x,hx⟩:=vi hk (List.getElem_mem hj);rw[hx]at hq e;obtain⟨f,t,gf,kf⟩:=D0 r (e▸List.getElem?_eq_getElem h1);obtain⟨g,u,gg,kg⟩:=D0 r hq;obtain⟨li,rfl⟩:=List.getElem?_eq_some_iff.mp gf;obtain⟨lj,rfl⟩:=List.getElem?_eq_some_iff.mp gg;exact List.pairwise_iff_getElem.mp hp i j li lj hij x t u kf kg
theorem tC {h:Heap}{x:Str}{t:Tok}{d:D}{as:a9}(r:Reads h (.str x t) d as):d=.str x:=(Reads.unique r _ _ (.str x t)).1
theorem Dh {w:World}{h:Heap}{es:List DictEntry}{kvs:List (D × D)}{as:a9}(r:ReadsAll h (es.map (·.key)) (kvs.map (·.1)) as)(hh:∀e∈es,∃x t,e.key=.str x t/\e.hash=hashStr w x):∀q∈kvs,∃x,q.1=PyData.str x:=fun q hq=>by obtain⟨i,hi⟩:=List.mem_iff_getElem?.mp hq;obtain⟨v,a,hv,r⟩:=r.atAny i q.1 (by rw[List.getElem?_map,hi];rfl);obtain⟨e,he,rfl⟩:=yW hv;obtain⟨x,t,hk,_⟩:=hh e (qw he);exact⟨x,tC (hk▸r)⟩
abbrev BA (h:Heap)(P:Value->a9->Prop)(kvs:List (D × D)):Prop:=∀a o es n as' bs,h.get? a=some o->o.cls=.type "dict" -> o.data=.dict es n->ReadsAll h (es.toList.map (·.key)) (kvs.map (·.1)) as'->ReadsAll h (es.toList.map (·.val)) (kvs.map (·.2)) bs->P (.ref a) (a::as'++bs)
theorem qC {h:Heap}{kvs:List (D × D)}{v:Value}{as:a9}{P:Value->a9->Prop}(r:Reads h v (.dict kvs) as)(q:BA h P kvs):P v as:=
 Reads.rec (motive_1:=fun v d as _=>∀kvs,d=.dict kvs->BA h P kvs->P v as) (motive_2:=fun _ _ _ _=>True) (fun _ e _=>PyData.noConfusion e) (fun _ _ e _=>PyData.noConfusion e) (fun _ _ _ e _=>PyData.noConfusion e) (fun _ _ _ e _=>PyData.noConfusion e)
  (fun _ _ _ _ _ _ e _=>PyData.noConfusion e) (fun _ _ _ _ _ _ e _=>PyData.noConfusion e) (fun h1 h2 h3 h4 h5 _ _ kvs e q=>by obtain rfl:=PyData.dict.inj e;exact q _ _ _ _ _ _ h1 h2 h3 h4 h5) trivial (fun _ _ _ _=>trivial) r kvs rfl q
theorem mV (r:az G.w O s.heap u (.dict kvs)):∃a bs,u=.ref a/\a∉O/\IsDict G.prog G.w s.heap a kvs bs:=
 r.elim fun as r=>qC (P:=fun u as=>(∀b∈as,b∉O/\ja G.w s.heap b)->∃a bs,u=.ref a/\a∉O/\IsDict G.prog G.w s.heap a kvs bs) r.1 (fun a o es n as' bs h1 h2 h3 h4 h5 y=>by obtain⟨ha,y⟩:=y a dX;obtain⟨lo,ex,hh,hp⟩:=(y o h1).2 es n h3;have hk:=Dh h4 hh;have e:as'=[]:=readsAll_strs_nil _ _ _ h4 fun d=>vi hk;refine⟨a,bs,rfl,ha,IsDict.of0 ⟨lo,o,es,n,h1,ex,h3,e▸h4,h5,hk,w7 h4 hk hp⟩ fun o' es' n' e1 e2 e he x t hkey=>?_⟩;obtain rfl:=aG (h1.symm.trans e1);obtain rfl:=(Data.dict.inj (h3.symm.trans e2)).1;obtain⟨x',t',hk',hh'⟩:=hh e (Array.mem_toList_iff.mpr he);obtain rfl:=(Value.str.inj (hkey.symm.trans hk')).1;exact hh') r.2.1
theorem xw {vs:Array Value}(hu:A.units+100<cLine)(ra:ak G.w O s.heap vs.toList xs)(ru:az G.w O s.heap u d)(c1:gc 8 d=true)(c2:gc 8 (.list xs)=true)(sl:sok (.list xs)=true) :
  ∀y,y∈vs->SeqAt.EqAt A.in1 s y u (PyData.eqv (SeqAt.readOf s.heap y) d):=by
 obtain⟨as,x,_,_⟩:=ra;obtain⟨bs,y,_,sb⟩:=ru;have l1:=iC _ 8 c1 sb;have l2:=iC _ 8 c2 sl;simp only[PyData.canLay0,PyData.depth]at l2;refine SeqAt.items_eqAt x y l2.1 l1.1 ?_;have:=Nat.min_le_right (PyData.depthAll xs) d.depth;have:=l1.2;clear l1 l2 c1 c2 sb sl
 lia
theorem xv {vs:Array Value}(ra:ak G.w O s.heap vs.toList xs)(c2:gc 8 (.list xs)=true)(sl:sok (.list xs)=true):vs.toList.map (SeqAt.readOf s.heap)=xs:=by obtain⟨as,x,_,_⟩:=ra;have l2:=iC _ 8 c2 sl;simp only[PyData.canLay0,PyData.depth]at l2;exact SeqAt.readsAll_map xs _ _ l2.1 x
def qr (G:GC)(A:Around)(O:a9)(s:Shared)(nm:Str)(u:Value)(ds:List D)(d:D):Prop:=∀(pl:Sem Bool)(Q:Value × fO->Shared->Prop)(E:ba),
 (∀id,(∀s2 vs,Ext G s s2->ak G.w O s2.heap vs ds->dG G A O (call (.builtin id) (u::vs)) s2 d)->Q (.builtin id,[u]) s)->wpAny (bC G) A (getMethod u nm pl) Q E s
section
variable {u:Value}{o:D}{ds:List D}
theorem xb {nm:Str}{id:String}{x:Str}(r:az G.w O s.heap u (.str x))(gm:∀{t:Tok}{pl:Sem Bool}{Q:Value × fO->Shared->Prop}{E:ba},Q (.builtin id,[.str x t]) s->wpAny (bC G) A (getMethod (.str x t) nm pl) Q E s)
  (sc:∀{t:Tok}{s2:Shared}{vs:fO},Ext G s s2->ak G.w O s2.heap vs ds->dG G A O (call (.builtin id) (.str x t::vs)) s2 d):qr G A O s nm u ds d:=by
 obtain⟨t,rfl⟩:=r.str_inv;exact fun pl Q E q=>gm (q _ fun s2 vs x2 r=>sc x2 r)
theorem Dz {f:Str->Str->D}{nm:Str}{id:String}(ro:az G.w O s.heap u o)(h:(gN o fun x=>d1 ds fun d=>gN d fun y=>some (f x y))=some d)
  (gm:∀{x:Str}{t:Tok}{pl:Sem Bool}{Q:Value × fO->Shared->Prop}{E:ba},Q (.builtin id,[.str x t]) s->wpAny (bC G) A (getMethod (.str x t) nm pl) Q E s)
  (sc:∀{x y:Str}{t t':Tok}{s2:Shared}{Q:ba}{E:ba},(∀v tk,az G.w O s2.heap v (f x y)->Q v { s2 with toks:=tk })->wpAny (bC G) A (call (.builtin id) [.str x t, .str y t']) Q E s2):qr G A O s nm u ds d :=
 gT (P:=fun o=>az G.w O s.heap u o->qr G A O s nm u ds d) h (fun x g ro=>Cg (P:=fun ds=>qr G A O s nm u ds d) g fun e g=>gT (P:=fun e=>qr G A O s nm u [e] d) g fun y g=>by obtain rfl:=aG g;refine xb ro gm fun x2 r=>?_;obtain⟨v,rfl,rr⟩:=r.one;obtain⟨t',rfl⟩:=rr.str_inv;exact dG.of0 x2.base x2.pos fun Q E q=>sc q) ro
theorem GF (ro:az G.w O s.heap u o)(h:lg .join o ds=some d):qr G A O s "join" u ds d:=
 gT (P:=fun o=>az G.w O s.heap u o->qr G A O s "join" u ds d) h (fun x g ro=>Cg (P:=fun ds=>qr G A O s "join" u ds d) g fun e g=>by
  obtain⟨xs,rfl,g2⟩:=jp g;cases h1:gF xs with
  |none=>rw[h1]at g2;exact nn g2
  |some ts =>
   rw[h1]at g2;obtain⟨c,rfl⟩:=ax g2;obtain⟨c1,c2⟩:=cE c;refine xb ro GM.join fun x2 r=>?_;obtain⟨v,rfl,rr⟩:=r.one;rw[tJ h1]at rr;obtain⟨a,us,rfl,_,la,ra⟩:=rr.list_inv;obtain⟨l,e1,e2⟩:=lV ra;exact dG.of0 x2.base x2.pos fun Q E q=>SC.join (l:=l) (by rw[<- e1];simpa using la) e2 c1 fun t' k=>q _ _ (.str c2)) ro
theorem GD (ro:az G.w O s.heap u o)(h:lg .find3 o ds=some d):qr G A O s "find" u ds d:=
 gT (P:=fun o=>az G.w O s.heap u o->qr G A O s "find" u ds d) h (fun x g ro=>by obtain⟨a,b,c,rfl,g2⟩:=Ch g;refine gT (P:=fun a=>qr G A O s "find" u [a,b,c] d) g2 fun y g=>oH (P:=fun b=>qr G A O s "find" u [.str y,b,c] d) g fun i g=>oH (P:=fun c=>qr G A O s "find" u [.str y, .int i,c] d) g fun j g=>?_;obtain rfl:=aG g;refine xb ro GM.find fun x2 r=>?_;obtain⟨v,us,rfl,r1,r2⟩:=r.cons_inv;obtain⟨v',v'',rfl,r3,r4⟩:=r2.two;obtain⟨t',rfl⟩:=r1.str_inv;obtain⟨t2,rfl⟩:=r3.int_inv;obtain⟨t3,rfl⟩:=r4.int_inv;exact dG.of0 x2.base x2.pos fun Q E q=>call_gives F.slot_str_find (typeIs_str _ _ _) F.entry_str_find (F.args_str_find_4 _ _ _ _) (uZ _ _ _ _ _ _ _ _) (q _ _ .int)) ro
theorem AQ (hu:A.units+100<cLine){xs:List D}{e:D}(ro:az G.w O s.heap u (.list xs))(c1:gc 8 e=true)(c2:gc 8 (.list xs)=true):qr G A O s "count" u [e] (.int (xs.countP fun y=>PyData.eqv y e)):=by
 have so:=ro.sok;have ro':=ro;obtain⟨a,us',rfl,_,la',_⟩:=ro.list_inv;have pl':=ro'.list_bare;obtain⟨o',ho',hc',_⟩:=id la';refine fun pl Q E q=>getMethod_builtin (T:="list") ⟨_,ho',hc'⟩ F.plainAttrs_list PySem.F.slot_list_count PySem.F.type_list_count (fun a' e'=>Value.ref.inj e'▸⟨_,ho',pl' _ ho'⟩) (q _ fun s2 vs x2 r=>?_);obtain⟨v,rfl,rr⟩:=r.one;obtain⟨a2,us,e2,_,la,ra⟩:=(ro'.keep x2.keep).list_inv;obtain rfl:=Value.ref.inj e2;obtain⟨⟨cls,dd,data,sl⟩,ho,rfl,n,rfl⟩:=id la;refine dG.of0 x2.base x2.pos fun Q E q=>call_meets PySem.F.slot_list_count ⟨_,ho,rfl⟩ PySem.F.entry_list_count (PySem.F.args_list_count_2 _ _) (SeqAt.list_countAt a us n dd sl v _) ⟨ho,xw hu ra rr c1 c2 so, ?_⟩;have e1:us.toList.countP (fun y=>PyData.eqv (SeqAt.readOf s2.heap y) e)=xs.countP fun y=>PyData.eqv y e:=by
  conv=>rhs;rw[<- xv ra c2 so,List.countP_map]
  rfl
 rw[e1];exact q _ _ .int
theorem Jg (ro:az G.w O s.heap u o)(h:lg .get o ds=some d):qr G A O s "get" u ds d:=by obtain⟨kvs,rfl,g⟩:=DH h;refine KP (P:=fun ds=>qr G A O s "get" u ds d) g fun e1 e2 g=>gT (P:=fun a=>qr G A O s "get" u [a,e2] d) g fun x g=>gT (P:=fun b=>qr G A O s "get" u [.str x,b] d) g fun z g=>?_;have g:gN ((lookup (.str x) kvs).getD (.str z)) (fun y=>if sok (.str y)then some (.str y)else none)=some d:=g;obtain⟨y,hy,g⟩:=io g;obtain⟨c,rfl⟩:=ax g;obtain⟨a,bs,rfl,_,T⟩:=mV ro;refine fun pl Q E q=>getMethod_dict PySem.F.slot_dict_get PySem.F.type_dict_get T (q _ fun s2 vs x2 r=>?_);obtain⟨a',bs',e',_,T'⟩:=mV (ro.keep x2.keep);obtain rfl:=Value.ref.inj e';obtain⟨v,v',rfl,r1,r2⟩:=r.two;obtain⟨t,rfl⟩:=r1.str_inv;obtain⟨t',rfl⟩:=r2.str_inv;refine dG.of0 x2.base x2.pos fun Q E q=>call_get2_dict T' (.str z t') fun v as hv=>?_;obtain⟨t2,rfl,_⟩:=reads_str_inv (hy▸hv);exact q _ _ (.str c)
end
theorem Dy (hu:A.units+100<cLine){o:D}{ds:List D}(ro:az G.w O s.heap u o)(h:lg m o ds=some d):qr G A O s m.name u ds d:=by
 cases m with
 |join=>exact GF ro h
 |startswith=>exact Dz ro h GM.startswith fun q=>SC.startswith (q _ _ .bool)
 |endswith=>exact Dz ro h GM.endswith fun q=>SC.endswith (q _ _ .bool)
 |find3=>exact GD ro h
 |count =>
  cases o with
  |str x=>exact Dz (o:=.str x) (f:=fun x y=>.int (Txt.count x y)) ro h GM.count fun q=>SC.count (q _ _ .int)
  |list xs =>
   refine Cg (P:=fun ds=>qr G A O s "count" u ds d) (h:d1 ds _=some d) fun e g=>?_;obtain⟨c,rfl⟩:=ax g;obtain⟨c1,c2⟩:=cE c;exact AQ hu ro c1 c2
  |_=>exact nn h
 |get=>exact Jg ro h
 |bitlen =>
  refine oH (P:=fun o=>az G.w O s.heap u o->qr G A O s "bit_length" u ds d) h (fun a g ro=>?_) ro;cases ds with
  |cons x xs=>exact nn g
  |nil =>
   obtain rfl:=aG g;obtain⟨t,rfl⟩:=ro.int_inv;refine fun pl Q E q=>PyProof.Rows.getMethod_int_bit_length (q _ fun s2 vs x2 r=>?_);obtain rfl:=r.nil_inv;exact dG.of0 x2.base x2.pos fun Q E q=>PyProof.Rows.call_int_bit_length (q _ _ .int)
def LS (d:D):Option D:=match d with|.str y=>if sok (.str y)then some (.str y)else none|_=>none
theorem Ey {d r:D}(h:LS d=some r):∃y,d=.str y/\sok (.str y)=true/\r=.str y:=by
 cases d with
 |str y=>exact(ax h).elim fun c e=>⟨y,rfl,c,e.symm⟩
 |_=>exact nn h
def jf (a i:D):Option D:=match a with
 |.list xs=>dh i fun k=>(seqIndex? k xs.length).bind (xs[·]?)
 |.tuple xs=>dh i fun k=>(seqIndex? k xs.length).bind (xs[·]?)
 |.str x=>dh i fun k=>((seqIndex? k x.length).bind (x.cps[·]?)).map fun c=>.str ⟨#[c]⟩
 |.dict kvs=>gN i fun x=>(lookup (.str x) kvs).bind LS
 |_=>none
theorem zx {j:Int}{n m:Nat}(h:(if 0<=j&&j<n then some j.toNat else none)=some m):0<=j/\j=m/\m<n:=by
 by_cases c:(0<=j&&j<n)=true
 .rw[if_pos c]at h;obtain rfl:=aG h;obtain⟨a,b⟩:=cE c;have a:=bJ a;have e:=(Int.toNat_of_nonneg a).symm;exact⟨a,e,Int.ofNat_lt.mp (e▸bJ b)⟩
 .rw[if_neg c]at h;exact nn h
theorem gW {k:Int}{n j:Nat}(h:seqIndex? k n=some j):j<n/\((0<=k/\k=j)\/(k<0/\k+n=j /\ -(n:Int)<=k)):=by
 by_cases h0:k<0
 .have e:=(if_pos h0:(if k<0 then k+(n:Int)else k)=_);obtain⟨a,b,c⟩:=zx (j:=k+n) (by unfold seqIndex? at h;rw[e]at h;exact h);exact⟨c, .inr ⟨h0,b,by clear e h b;lia⟩⟩
 .have e:=(if_neg h0:(if k<0 then k+(n:Int)else k)=_);obtain⟨a,b,c⟩:=zx (j:=k) (by unfold seqIndex? at h;rw[e]at h;exact h);exact⟨c, .inl ⟨a,b⟩⟩
def gA (e:Expr):Bool:=!(tu e fun _ _ _ _=>true)
theorem dm {e:Expr}(h:gA e=true)(o i:Value):subscripted e false o i=operate [o,i] (getItem o i):=by rcases e with⟨⟩|⟨⟩ <;> first|rfl|exact absurd h g6
theorem mT {k:Int}{n j:Nat}(hj:j<n)(hn:n<=16777216)(c:(0<=k/\k=j)\/(k<0/\k+n=j /\ -(n:Int)<=k)) : -(2^63)<=k/\k<2^63:=by
 have hn:(n:Int)<=2^63:=Int.le_trans (Int.ofNat_le.mpr hn) (by decide);rcases c with⟨h0,rfl⟩|⟨h0,_,h4⟩
 .exact⟨Int.le_trans (by decide) h0,Int.lt_of_lt_of_le (Int.ofNat_lt.mpr hj) hn⟩
 .exact⟨Int.le_trans (Int.neg_le_neg hn) h4,Int.lt_trans h0 (by decide)⟩
theorem v6 {value slice:Expr}(hs:gA slice=true){a:Addr}{vs:Array Value}{k:Int}{t:Tok}{j:Nat}{v:Value}(la:s.heap.IsList a vs)(hl:vs.size<=16777216)(h1:seqIndex? k vs.size=some j)(hv:vs[j]?=some v)
  {Q:ba}{E:ba}(q:Q v s):wpAny (bC G) A (subscriptTail value slice (.ref a) (.int k t)) Q E s:=by
 obtain⟨hj,c⟩:=gW h1;obtain⟨b1,b2⟩:=mT hj hl c;refine tail_any la.typeIs PySem.F.slot_list_getitem.lookup ?_ (dm hs _ _);rcases c with⟨h0,h3⟩|⟨h0,h3,h4⟩
 .exact wpAny_getItem_list la h0 b2 (by rw[h3];exact hv) q
 .exact wpAny_getItem_list_neg la h0 h4 b1 (by rw[h3];exact hv) q
set_option tactic.hygienic true in
theorem Br (B:a5 G s.heap)(p:0<s.toks){value slice:Expr}(hs:gA slice=true){a i:D}{u v:Value}(ra:az G.w O s.heap u a)(ri:az G.w O s.heap v i)(h:jf a i=some d) :
  dG G A O (subscriptTail value slice u v) s d:=by
 refine dG.of0 B p fun Q E q=>?_;rcases a with⟨⟩|⟨⟩
 case list xs =>
  obtain⟨k,rfl,h⟩:=aU h;obtain⟨j,h1,h2⟩:=Option.bind_eq_some_iff.mp h;have hl:=ra.list_len;obtain⟨t,rfl⟩:=ri.int_inv;obtain⟨a',vs,rfl,_,la,ra'⟩:=ra.list_inv;have e:=ra'.length;simp only[i5]at e;obtain⟨v,hv,rv⟩:=ra'.get j _ h2;have hv:vs[j]?=some v:=by simpa using hv
  exact v6 hs la (by rw[e];exact hl) (by rw[e];exact h1) hv (q v s.toks rv)
 case tuple xs =>
  obtain⟨k,rfl,h⟩:=aU h;obtain⟨j,h1,h2⟩:=Option.bind_eq_some_iff.mp h;have hl:=ra.tuple_len;obtain⟨t,rfl⟩:=ri.int_inv;obtain⟨a',vs,rfl,la,ra'⟩:=ra.tuple_inv;have e:=ra'.length;simp only[i5]at e;obtain⟨v,hv,rv⟩:=ra'.get j _ h2;have hv:vs[j]?=some v:=by simpa using hv
  obtain⟨hj,c⟩:=gW h1;obtain⟨b1,b2⟩:=mT hj hl c;refine tail_any la.typeIs PySem.F.slot_tuple_getitem.lookup ?_ (dm hs _ _);exact getItem_tuple la b1 b2 (by rw[e];exact h1) hv (q v s.toks rv)
 case str x =>
  obtain⟨k,rfl,h⟩:=aU h;obtain⟨c,h1,rfl⟩:=Option.map_eq_some_iff.mp h;obtain⟨j,h2,h3⟩:=Option.bind_eq_some_iff.mp h1;have hx:=sok_str.mp ra.sok;obtain⟨t,rfl⟩:=ra.str_inv;obtain⟨t',rfl⟩:=ri.int_inv;obtain⟨hj,c'⟩:=gW h2;obtain⟨b1,b2⟩:=mT hj hx.2 c';refine tail_any (typeIs_str s _ t) PySem.F.slot_str_getitem.lookup ?_ (dm hs _ _);refine P.getItem_str ?_ h1 (q _ _ (.str (sok_str.mpr ⟨?_,Nat.le_of_ble_eq_true rfl⟩)))
  .rw[cG (Int.not_lt.mpr b1),cG (Int.not_le.mpr b2)];rfl
  .have hm:=Array.mem_of_getElem? h3;have:=Array.all_eq_true_iff_forall_mem.mp hx.1 c hm
   simpa [PyData.strOk]using this
 case dict kvs =>
  obtain⟨x,rfl,h⟩:=io h;obtain⟨dv,h1,h2⟩:=Option.bind_eq_some_iff.mp h;obtain⟨y,rfl,hy,rfl⟩:=Ey h2;obtain⟨t,rfl⟩:=ri.str_inv;obtain⟨a',bs,rfl,_,lo,vs,hd,hp⟩:=mV ra;obtain⟨v,as,hv,hr⟩:=hp.valueAt_of_lookup PyProof.V.same_str h1;obtain⟨t2,rfl,_⟩:=reads_str_inv hr;exact tail_any hd.typeIs PySem.F.slot_dict_getitem.lookup (wpAny_getItem_of (PySem.strKind_is G.prog G.w x t) hd.mapOf hv (q _ _ (.str hy))) (dm hs _ _)
 all_goals exact nn h
noncomputable def GL:Option D->Option (Option Int)
 |none=>some none
 |some (.int i)=>some (some i)
 |some .none=>some none
 |_=>none
noncomputable def nN {α:Type}(xs:List α)(lo hi st:Option Int):List α:=
 (sliceRange (sliceBounds lo hi st xs.length).1 (sliceBounds lo hi st xs.length).2.1 (sliceBounds lo hi st xs.length).2.2).filterMap (xs[·]?)
theorem oW {lo hi st:Option Int}{n:Nat}(hc:st.getD 1 > 0):0<=(sliceBounds lo hi st n).1/\(sliceBounds lo hi st n).2.1<=n:=by
 unfold sliceBounds;dsimp only;rw[if_pos hc,if_pos hc];constructor
 .cases lo with
  |none=>exact Int.le_refl _
  |some i=>dsimp only;rw[if_pos hc];exact Int.le_max_left _ _
 .cases hi with
  |none=>exact Int.le_refl _
  |some i=>dsimp only;rw[if_pos hc];exact Int.max_le.mpr ⟨Int.natCast_nonneg _,Int.min_le_right _ _⟩
theorem wz {lo hi st:Option Int}{n:Nat}(hc:¬ st.getD 1 > 0):(sliceBounds lo hi st n).1<=(n:Int)-1 /\ -1<=(sliceBounds lo hi st n).2.1:=by
 unfold sliceBounds;dsimp only;rw[if_neg hc,if_neg hc];constructor
 .cases lo with
  |none=>exact Int.le_refl _
  |some i=>dsimp only;rw[if_neg hc];exact Int.max_le.mpr ⟨by lia,Int.min_le_right _ _⟩
 .cases hi with
  |none=>exact Int.le_refl _
  |some i=>dsimp only;rw[if_neg hc];exact Int.le_max_left _ _
theorem wx (lo hi st:Option Int)(n:Nat):(sliceRange (sliceBounds lo hi st n).1 (sliceBounds lo hi st n).2.1 (sliceBounds lo hi st n).2.2).length<=n:=
 sliceRange_length_le _ _ _ _ oW wz
theorem yF {α:Type}(xs:List α)(lo hi st:Option Int):(nN xs lo hi st).length<=xs.length:=
 aJ (List.length_filterMap_le _ _) (wx lo hi st xs.length)
theorem FU {α:Type}{xs:List α}{lo hi st:Option Int}{x:α}(h:x∈nN xs lo hi st):x∈xs:=by obtain⟨i,_,e⟩:=List.mem_filterMap.mp h;exact qw e
theorem ak.picks {w:World}{h:Heap}{vs:fO}{ds:List D}(r:ak w O h vs ds):∀is:aN,ak w O h (is.filterMap (vs[·]?)) (is.filterMap (ds[·]?))
 |[]=>.nil
 |i::is=>by
  have e:=r.length;rw[List.filterMap_cons,List.filterMap_cons];cases hd:ds[i]? with
  |none =>
   have:vs[i]?=none:=by rw[List.getElem?_eq_none_iff]at *;lia
   rw[this];exact r.picks is
  |some d =>
   obtain⟨v,hv,rv⟩:=r.get i d hd;rw[hv];exact .cons rv (r.picks is)
def FS (x:Str)(lo hi st:Option Int):Str:=⟨(nN x.cps.toList lo hi st).toArray⟩
def fS (a:D)(lo hi st:Option D):Option D:=(GL lo).bind fun lo=>(GL hi).bind fun hi=>(GL st).bind fun st=>if st=some 0 then none else match a with
  |.list xs=>some (.list (nN xs lo hi st))
  |.str x=>some (.str (FS x lo hi st))
  |_=>none
theorem mX {w:World}{h:Heap}{v:Value}{od:Option D}{k:Option Int}(r:match od with|none=>v=.none|some d=>az w O h v d)(hp:GL od=some k):IsPart v k:=by
 cases od with
 |none=>obtain rfl:=aG hp;subst r;exact .none
 |some d =>
  cases d with
  |int i=>obtain rfl:=aG hp;obtain⟨t,rfl⟩:=az.int_inv r;exact .int i t
  |none=>obtain rfl:=aG hp;obtain rfl:=az.none_inv r;exact .none
  |_=>exact nn hp
theorem kt {v:Value}{k:Option Int}(p:IsPart v k):∃o:Option (Int × Tok),v=partValue o/\o.map (·.1)=k:=by
 cases p with
 |none=>exact⟨none,rfl,rfl⟩
 |int i t=>exact⟨some (i,t),rfl,rfl⟩
theorem DW {a b:Int}{n:Nat}(h:(if a<b then(b-a)else 0).toNat=n)(hn:n≠0)(h0:0<=a)(h1:b<=n):a=0:=by
 by_cases c:a<b
 .rw[if_pos c]at h;have:=Int.toNat_of_nonneg (Int.sub_nonneg_of_le (Int.le_of_lt c));rw[h]at this;clear h hn c
  lia
 .rw[if_neg c]at h;exact absurd h.symm hn
theorem yb (xs:aN)(a b:Int)(h:(sliceRange a b 1).length=xs.length)(h0:0<=a)(h1:b<=xs.length):(sliceRange a b 1).filterMap (xs[·]?)=xs:=by
 have hl:(sliceRange a b 1)=(List.range (sliceRange a b 1).length).map fun k:Nat=>(a+(k:Int)).toNat:=by unfold sliceRange;simp
 have hlen:(sliceRange a b 1).length=(if a<b then(b-a)else 0).toNat:=by unfold sliceRange;simp
 rw[hl,h];by_cases hn:xs.length=0
 .have:xs=[]:=List.length_eq_zero_iff.mp hn;subst this;rfl
 .obtain rfl:=DW (hlen▸h) hn h0 h1;rw[List.filterMap_map];have:((fun x:Nat=>xs[x]?) ∘ fun k:Nat=>((0:Int)+(k:Int)).toNat)=fun k=>xs[k]?:=by
   funext k;simp
  rw[this];have:=StrLaws.picks xs xs.length 0 (by rw[Nat.zero_add];exact fc _)
  simpa using this
set_option tactic.hygienic true in
theorem tH (B:a5 G s.heap)(p:0<s.toks)(ov:dH O s.heap){value lo hi st:Expr}{e:Expr}{ops:fO}{a:D}{odl odh ods:Option D}{u vl vh vs:Value}{sl:Addr}
  (ra:az G.w O s.heap u a)(hsl:s.heap.IsSliceOf sl vl vh vs)(rl:match odl with|none=>vl=.none|some d=>az G.w O s.heap vl d)(rh:match odh with|none=>vh=.none|some d=>az G.w O s.heap vh d)
  (rs:match ods with|none=>vs=.none|some d=>az G.w O s.heap vs d)(h:fS a odl odh ods=some d)(hs:subscripted e false u (.ref sl)=operate ops (getItem u (.ref sl))) :
  dG G A O (subscriptTail value e u (.ref sl)) s d:=by
 refine aq h fun klo h1 h=>aq h fun khi h2 h=>aq h fun kst h3 h=>?_
 .by_cases hne:kst=some 0
  .exact nn ((if_pos hne).symm.trans h)
  .have h:=(if_neg hne).symm.trans h;have p1:=mX rl h1;have p2:=mX rh h2;have p3:=mX rs h3;cases a with
   |list xs =>
    obtain rfl:=aG h;refine dG.of B p fun Q E q=>?_;have hl:=ra.list_len;obtain⟨a',ws,rfl,_,la,ra'⟩:=ra.list_inv;have e:=ra'.length;simp only[i5]at e;refine tail_any la.typeIs PySem.F.slot_list_getitem.lookup (wpAny_getItem_list_slice la hsl p1 p2 p3 hne ?_ (by rw[aT,e];exact hl)) hs;have hk:∀b' o',s.heap.get? b'=some o'->(s.heap.push { cls:=.type "list",data:=.seq (slicePick ws klo khi kst) }).get? b'=some o':=fun b' o' e=>gv _ e;refine q _ _ _ hk (.list_of (aJ (yF _ _ _ _) hl) (ov.new (aD _)) ⟨_,iV _ rfl,rfl,_,rfl⟩ (kW rfl rfl) ?_);have:=(ra'.picks (sliceRange (sliceBounds klo khi kst ws.size).1 (sliceBounds klo khi kst ws.size).2.1 (sliceBounds klo khi kst ws.size).2.2)).keep (.of hk);unfold nN;rw[<- e];show ak G.w O _ (slicePick ws klo khi kst).toList _;have e9:(slicePick ws klo khi kst).toList=(sliceRange (sliceBounds klo khi kst ws.size).1 (sliceBounds klo khi kst ws.size).2.1 (sliceBounds klo khi kst ws.size).2.2).filterMap (ws.toList[·]?):=by unfold slicePick;simp
    rw[e9];exact this
   |str x =>
    obtain rfl:=aG h;refine dG.of0 B p fun Q E q=>?_;have hx:=sok_str.mp ra.sok;obtain⟨t,rfl⟩:=ra.str_inv;obtain⟨ol,rfl,e1⟩:=kt p1;obtain⟨oh,rfl,e2⟩:=kt p2;obtain⟨os,rfl,e3⟩:=kt p3;have hok:sok (.str (FS x klo khi kst))=true:=by
     refine sok_str.mpr ⟨?_, ?_⟩
     .show(nN x.cps.toList klo khi kst).toArray.all (· < 0x110000)=true;rw[Array.all_eq_true_iff_forall_mem];intro c hc;have hc:=FU (by simpa using hc);exact Array.all_eq_true_iff_forall_mem.mp hx.1 c (by simpa using hc)
     .show(nN x.cps.toList klo khi kst).toArray.size<=_;rw[List.size_toArray];exact aJ (yF _ _ _ _) (by rw[i5];exact hx.2)
    have h0:((os.map (·.1)).getD 1==0)=false:=by
     rw[e3];cases kst with
     |none=>rfl
     |some k=>simpa using fun e:k=0=>hne (by rw[e])
    refine tail_any (typeIs_str s _ t) PySem.F.slot_str_getitem.lookup (wpAny_getItem_str_slice (l:=ol) (u:=oh) (st:=os) hsl h0 ?_) hs;have eidx:slicePicked x ol oh os=sliceRange (sliceBounds klo khi kst x.cps.toList.length).1 (sliceBounds klo khi kst x.cps.toList.length).2.1 (sliceBounds klo khi kst x.cps.toList.length).2.2:=by unfold slicePicked;rw[e1,e2,e3];unfold Builtin.Str.strSliceIndices sliceBounds;rw[i5];rfl
    have epick:(slicePicked x ol oh os).filterMap (x.cps[·]?)=nN x.cps.toList klo khi kst:=by
     rw[eidx];unfold nN
     congr 1
     funext i
     simp
    unfold sliceMade;split
    .rename_i c;obtain⟨c1,c2⟩:=cE c;have c1:=eM c1;have c2:=eM c2;have:FS x klo khi kst=x:=by
      unfold FS;rw[<- epick,eidx];rw[eidx]at c2;have e5:(sliceBounds klo khi kst x.cps.toList.length).2.2=1:=by rw[e3]at c1;exact c1
      rw[e5]at c2 ⊢;obtain⟨hb0,hb1⟩:=oW (lo:=klo) (hi:=khi) (st:=kst) (n:=x.cps.toList.length) (by rw[<- e3,c1];decide);have:=yb x.cps.toList _ _ (by rw[c2];simp[Str.length]) hb0 hb1;have e6:(fun i:Nat=>x.cps[i]?)=fun i=>x.cps.toList[i]?:=by funext i;simp
      rw[e6,this]
     rw[this]at q;exact q _ s.toks (.str (sok_str.mpr hx))
    .refine⟨?_, ?_⟩
     .rw[epick];exact(aT▸(sok_str.mp hok).2)
     .rw[epick];exact q _ _ (.str hok)
   |_=>exact nn h
end
end Internal
section
set_option genSizeOf false
set_option genInjectivity false
namespace Internal
noncomputable def K8 (d:D):Option D:=match d with|.bool _=>some (.bool true)|.int _=>some (.bool false)|_=>none
noncomputable def K9 (d:D):Option D:=match d with|.bool _=>some (.bool true)|.int _=>some (.bool true)|_=>none
noncomputable def NN (ds:List D):Bool:=match ds with
 |[a,b]=>(match a with|.int _=>(match b with|.int c=>c==0|_=>false)|_=>false)
 |_=>false
mutual
inductive E where
 |l (d:D)|v (n:Nat)|g (n:Nat)
 |b (o:Operator)(a b:E)|n (a:E)|w (a:E)
 |q (o:CmpOp)(a b:E)|z (a:E)|o (o:BoolOp)(xs:Es)|e (c a b:E)
 |i (xs:Es)|t (xs:Es)|d (kvs:List (Str × Str))
 |p (elt:E)(gs:Gs)
 |c (f:Nat) (args:Es)|f (f:Bf)(args:Es)|m (m:Mt)(o:E)(args:Es)|r (a:E)(y z:Str)
 |isb (a:E)|isi (a:E)|dcomp (k v:E)(gs:Gs)|ssc (e:E)(gs:Gs)|slen (n:Nat)|ssort (n:Nat)|ocmp (o:CmpOp)(a:E)(n:Nat)
 |s (a i:E)|a (a:E)(lo hi st:Os)
 |olen (n:Nat)|oget (n:Nat) (i:E)|ocall (f n:Nat) (args:Es)
inductive Es where
 |n|c (e:E)(r:Es)
inductive Os where
 |n|y (e:E)
inductive By where
 |e (e:E)|r (args:Es)|enum (e:E)|rev (e:E)
inductive Gs where
 |n|c (tg:aN)(src:By)(ifs:Es)(r:Gs)
end
noncomputable def lK (kv:List (Str × Str))(k v:Str):List (Str × Str):=if kv.any (fun p=>p.1=k)then kv.map (fun p=>if p.1=k then(p.1,v)else p)else kv++[(k,v)]
noncomputable def LR {α:Type}(d:D)(k:Str->Option α):Option α:=match d with|.str x=>k x|_=>none
noncomputable def Nv {α:Type}(d:D)(k:List D->Option α):Option α:=match d with|.tuple x=>k x|_=>none
noncomputable def Nw {α:Type}(l:List D)(k:D->D->Option α):Option α:=match l with|[a,b]=>k a b|_=>none
def zw (d:D):Option (Str × Str):=Nv d fun xs=>Nw xs fun a b=>LR a fun x=>LR b fun y=>some (x,y)
def lQ (kv:List (Str × Str))(d:D):List (Str × Str):=(zw d).elim kv fun p=>lK kv p.1 p.2
def k9 (pre:List D):List (Str × Str):=pre.foldl lQ []
noncomputable def rN (l:List Str)(d:D):List Str:=match d with
 |.str x=>if l.any (· == x)then l else l++[x]
 |_=>l
def qa (pre:List D):List Str:=pre.foldl rN []
def lv (d:D):Bool:=(zw d).elim false fun p=>sok (.str p.1)&&sok (.str p.2)
def sS (d:D):Bool:=match d with|.str k=>sok (.str k)|_=>false
noncomputable def dC (_:By):Bool:=false
def C3 (gs:Gs):Bool:=match gs with|.c _ src _ _=>dC src|.n=>false
def Jk (gs:Gs):Bool:=match gs with|.c _ src _ _=>!dC src|.n=>false
def Lr (gs:Gs):Bool:=match gs with|.c _ src .n .n=>!dC src|_=>false
noncomputable def sT:D->Option (List D)
 |.list xs=>some xs
 |.tuple xs=>some xs
 |.str x=>some (x.cps.toList.map fun c=>.str ⟨#[c]⟩)
 |_=>none
noncomputable def d8 (a b c:Int):Option (List D):=
 if decide (0<c)&&decide (-1073741824<=a)&&decide (a<=1073741824)&&decide (-1073741824<=b)&&decide (b<=1073741824)&&decide (c<=1073741824)&&decide (b-a<=16777216)then
  some ((List.range ((b-a+c-1) / c).toNat).map fun k:Nat=>PyData.int (a+k*c))else none
def oi:List D->Option (List D)
 |[b]=>dh b fun b=>d8 0 b 1
 |[a,b]=>dh a fun a=>dh b fun b=>d8 a b 1
 |[a,b,c]=>dh a fun a=>dh b fun b=>dh c fun c=>d8 a b c
 |_=>none
inductive nT (ds:List D):List D->Prop
 |one (b:Int) (h:d8 0 b 1=some ds):nT ds [.int b]
 |two (a b:Int) (h:d8 a b 1=some ds):nT ds [.int a, .int b]
 |three (a b c:Int) (h:d8 a b c=some ds):nT ds [.int a, .int b, .int c]
theorem uK (h:oi es=some ds):nT ds es:=by
 rcases es with⟨⟩|⟨a,⟨⟩|⟨b,⟨⟩|⟨c,⟨⟩|⟨d,r⟩⟩⟩⟩
 .exact nn h
 .obtain⟨a,rfl,h⟩:=aU h;exact .one a h
 .obtain⟨a,rfl,h⟩:=aU h;obtain⟨b,rfl,h⟩:=aU h;exact .two a b h
 .obtain⟨a,rfl,h⟩:=aU h;obtain⟨b,rfl,h⟩:=aU h;obtain⟨c,rfl,h⟩:=aU h;exact .three a b c h
 .exact nn h
noncomputable def qS (xs:List D):List D:=xs.zipIdx.map fun p=>.tuple [.int p.2,p.1]
noncomputable def bF:aF->aN->List D->aF
 |ρ,n::ns,d::ds=>bF (aF.set ρ n d) ns ds
 |ρ,_,_=>ρ
noncomputable def oN {α:Type}(d:D)(k:List D->Option α):Option α:=match d with|.tuple x=>k x|_=>none
theorem wa (h:oN d k=some r):∃x,d=.tuple x/\k x=some r:=by
 cases d with
 |tuple x=>exact⟨x,rfl,h⟩
 |_=>exact nn h
def bx (ρ:aF)(ns:aN)(d:D):Option aF:=match ns with
 |[n]=>some (aF.set ρ n d)
 |_=>oN d fun xs=>if xs.length=ns.length then some (bF ρ ns xs)else none
inductive rU (ρ:aF)(ρ':aF):aN->D->Prop
 |one (n:Nat) (d:D)(h:ρ'=aF.set ρ n d):rU ρ ρ' [n] d
 |tup (ns:aN)(xs:List D)(h:ns.length≠1)(hl:xs.length=ns.length)(e:ρ'=bF ρ ns xs):rU ρ ρ' ns (.tuple xs)
theorem qL (h:bx ρ ns d=some ρ'):rU ρ ρ' ns d:=by
 have key:ns.length≠1->(oN d fun xs=>if xs.length=ns.length then some (bF ρ ns xs)else none)=some ρ'->rU ρ ρ' ns d:=fun h1 h=>by
  obtain⟨xs,rfl,g⟩:=wa h;by_cases c:xs.length=ns.length
  .rw[if_pos c]at g;exact .tup ns xs h1 c (aG g).symm
  .rw[if_neg c]at g;exact nn g
 rcases ns with⟨⟩|⟨n,⟨⟩|⟨m,r⟩⟩
 .exact key (fun e=>by cases e) h
 .exact .one n d (aG h).symm
 .exact key (fun e=>by cases e) h
theorem Ac (h:ns.length≠1)(hl:xs.length=ns.length):bx ρ ns (.tuple xs)=some (bF ρ ns xs):=by
 rcases ns with⟨⟩|⟨n,⟨⟩|⟨m,r⟩⟩
 .exact if_pos hl
 .exact absurd rfl h
 .exact if_pos hl
def aF.del (ρ:aF)(ns:aN):aF:=ρ.filter fun p=>!ns.contains p.1
noncomputable def j1:Gs->aN
 |.n=>[]
 |.c tg _ _ r=>tg++j1 r
noncomputable def ef (f:D->Option (List D)):List D->Option (List D)
 |[]=>some []
 |x::xs=>(f x).bind fun a=>(ef f xs).bind fun b=>some (a++b)
noncomputable def Ej:Gs->Bool
 |.c _ _ _ .n=>true
 |_=>false
noncomputable def kL:D->Bool
 |.none|.bool _|.int _|.str _=>true
 |_=>false
def xV {β:Type}(o:Option D)(k:List D->Option β):Option β:=o.bind fun d=>oN d k
theorem tP {p:Prop}{r:β}{o:Option D}{k:List D->Option β}(h:xV o k=some r)(q:∀x,o=some (.tuple x)->k x=some r->p):p:=
 aq h fun d e h=>let⟨x,e',h⟩:=wa h;q x (e'▸e) h
structure cU where
 cal:Nat->List D->Option D
 gl:Nat->Option D
 rz:Bool
section
variable (S:cU)
mutual
noncomputable def ev (ρ:aF):E->Option D
 |.l d=>some d
 |.v n=>ρ.get n
 |.g n=>S.gl n
 |.b o a b=>(ev ρ a).bind fun x=>(ev ρ b).bind fun y=>eE o x y
 |.n a=>IY (ev ρ a) fun i=>some (.int (-i))
 |.w a=>IY (ev ρ a) fun i=>some (.int (Builtin.bitNot i))
 |.q o a b=>(ev ρ a).bind fun x=>(ev ρ b).bind fun y=>bH o x y
 |.z a=>(ev ρ a).bind fun x=>(dq x).map fun b=>.bool (!b)
 |.o o xs=>Cz ρ o xs
 |.e c a b=>(evT ρ c).bind fun t=>bif t then ev ρ a else ev ρ b
 |.i xs=>(mK ρ xs).bind fun ds=>if ds.length<=1000 then some (.list ds)else none
 |.t xs=>(mK ρ xs).bind fun ds=>if ds.length<=1000 then some (.tuple ds)else none
 |.d kvs=>some (.dict (kvs.map fun p=>(.str p.1, .str p.2)))
 |.p elt gs=>(le ρ (ρ.del (j1 gs)) (fun ρ'=>ev ρ' elt) gs).bind fun ds=>if(Ej gs || decide (ds.length<=16777216))&&(!C3 gs || cD ds)then some (.list ds)else none
 |.c f args=>(mK ρ args).bind fun ds=>S.cal f ds
 |.f f args=>(mK ρ args).bind fun ds=>As f ds
 |.m m o args=>(ev ρ o).bind fun x=>(mK ρ args).bind fun ds=>lg m x ds
 |.r a y z=>jA (ev ρ a) fun x=>if decide (x.length+(x.length+1)*z.length<=16777216)&&sok (.str (Txt.replace x y z))then some (.str (Txt.replace x y z))else none
 |.isb a=>(ev ρ a).bind K8
 |.isi a=>(ev ρ a).bind K9
 |.dcomp k v gs=>(le ρ (ρ.del (j1 gs)) (fun ρ'=>jA (ev ρ' k) fun a=>jA (ev ρ' v) fun b=>if sok (.str a)&&sok (.str b)then some (.tuple [.str a, .str b])else none) gs).bind fun ds=>if decide (ds.length<=1000)&&Lr gs then some (.dict ((k9 ds).map fun p=>(.str p.1, .str p.2)))else none
 |.ssc e gs=>(le ρ (ρ.del (j1 gs)) (fun ρ'=>jA (ev ρ' e) fun a=>some (.str a)) gs).bind fun ds=>if decide (ds.length<=1000)&&(Jk gs&&decide ((qa ds).length<64))then some (.list ((dZ (qa ds)).map .str))else none
 |.ocmp o a n=>(ev ρ a).bind fun x=>fM (ρ.get n) fun xs=>(bH o x (.list xs)).bind fun d=>if kL d then some d else none
 |.slen n=>xV (ρ.get n) fun xs=>some (.int xs.length)
 |.ssort n=>xV (ρ.get n) fun xs=>(gF xs).bind fun ts=>some (.list ((dZ ts).map .str))
 |.s a i=>(ev ρ a).bind fun x=>(ev ρ i).bind fun y=>jf x y
 |.a a lo hi st=>(ev ρ a).bind fun x=>(CH ρ lo).bind fun l=>(CH ρ hi).bind fun h=>(CH ρ st).bind fun t=>fS x l h t
 |.olen n=>fM (ρ.get n) fun xs=>some (.int xs.length)
 |.oget n i=>fM (ρ.get n) fun xs=>(ev ρ i).bind fun y=>jf (.list xs) y
 |.ocall f n args=>fM (ρ.get n) fun xs=>(mK ρ args).bind fun ds=>(S.cal f (.list xs::ds)).bind fun d=>if kL d then some d else none
noncomputable def evT (ρ:aF):E->Option Bool
 |.z a=>(evT ρ a).map (!·)
 |.o o xs=>ie ρ o xs
 |.e c a b=>(evT ρ c).bind fun t=>bif t then evT ρ a else evT ρ b
 |.l d=>dq d
 |.v n=>(ρ.get n).bind dq
 |.g n=>(S.gl n).bind dq
 |.b o a b=>((ev ρ a).bind fun x=>(ev ρ b).bind fun y=>eE o x y).bind dq
 |.q o a b=>((ev ρ a).bind fun x=>(ev ρ b).bind fun y=>bH o x y).bind dq
 |.ocmp o a n=>((ev ρ a).bind fun x=>fM (ρ.get n) fun xs=>(bH o x (.list xs)).bind fun d=>if kL d then some d else none).bind dq
 |.c f args=>((mK ρ args).bind fun ds=>S.cal f ds).bind dq
 |.f f args=>((mK ρ args).bind fun ds=>As f ds).bind dq
 |.m m o args=>((ev ρ o).bind fun x=>(mK ρ args).bind fun ds=>lg m x ds).bind dq
 |.isb a=>((ev ρ a).bind K8).bind dq
 |.isi a=>((ev ρ a).bind K9).bind dq
 |.s a i=>((ev ρ a).bind fun x=>(ev ρ i).bind fun y=>jf x y).bind dq
 |_=>none
noncomputable def mK (ρ:aF):Es->Option (List D)
 |.n=>some []
 |.c e r=>(ev ρ e).bind fun d=>(mK ρ r).bind fun ds=>some (d::ds)
noncomputable def CH (ρ:aF):Os->Option (Option D)
 |.n=>some none
 |.y e=>(ev ρ e).bind fun d=>some (some d)
noncomputable def Cz (ρ:aF)(o:BoolOp):Es->Option D
 |.n=>none
 |.c e .n=>ev ρ e
 |.c e r=>(ev ρ e).bind fun d=>(dq d).bind fun b=>if(o==.And&&!b) || (o==.Or&&b)then some d else Cz ρ o r
noncomputable def ie (ρ:aF)(o:BoolOp):Es->Option Bool
 |.n=>some (o==.And)
 |.c e r=>(evT ρ e).bind fun b=>if(o==.And&&!b) || (o==.Or&&b)then some b else ie ρ o r
noncomputable def dk (ρ:aF):By->Option (List D)
 |.e a=>(ev ρ a).bind sT
 |.r args=>(mK ρ args).bind oi
 |.enum a=>fM (ev ρ a) fun xs=>some (qS xs)
 |.rev a=>fM (ev ρ a) fun xs=>some xs.reverse
noncomputable def le (ρs ρ:aF)(elt:aF->Option D):Gs->Option (List D)
 |.n=>(elt ρ).map fun d=>[d]
 |.c tg src ifs r=>(dk ρs src).bind fun items=>ef (fun it=>(bx ρ tg it).bind fun ρ'=>(ie ρ' .And ifs).bind fun b=>bif b then le ρ' ρ' elt r else some []) items
end
end
def nk (S:cU)(ρ:aF)(e:E)(gs:Gs):Option (List Str):=(le S ρ (ρ.del (j1 gs)) (fun ρ'=>jA (ev S ρ' e) fun a=>some (.str a)) gs).bind fun ds=>if decide (ds.length<=1000)&&Jk gs then some (qa ds)else none
mutual
inductive St where
 |s (n:Nat) (e:E)|u (ns:aN)(e:E)|aug (n:Nat) (o:Operator)(e:E)
 |newO (n:Nat) (es:Es)|splitO (n:Nat) (a b:E)|compO (n:Nat) (elt:E)(gs:Gs)
 |a (n:Nat) (e:E)|ext (n:Nat) (e:E)|rev (n:Nat)|del (n:Nat) (i:Int)
 |i (c:E)(a b:nU)|l (tg:aN)(src:By)(body:nU)
 |r (e:E)|tryE (body:nU)|tryZ (f:Nat) (args:Es)(n:Nat) (b:Bool)|assert (e:E)|hole|grow (n:Nat) (tg:aN)(body:nU)|setU (n:Nat) (a:E)(g:Gs)(b:E)(h:Gs)
inductive nU where
 |n|c (s:St)(r:nU)
end
inductive gZ where
 |n (ρ:aF)|r (d:D)
noncomputable def pv (f:D->aF->Option gZ):List D->aF->Option gZ
 |[],ρ=>some (.n ρ)
 |d::ds,ρ=>match f d ρ with
  |some (.n ρ')=>pv f ds ρ'
  |o=>o
noncomputable def qA (o:Option gZ)(k:aF->Option gZ):Option gZ:=match o with
 |some (.n ρ)=>k ρ
 |o=>o
noncomputable def ox (f:D->aF->Option gZ)(n:Nat):Nat->Nat->aF->Option gZ
 |0,_,_=>none
 |k+1,i,ρ=>fM (ρ.get n) fun xs=>(xs[i]?).elim (some (.n ρ)) fun d=>qA (f d ρ) (ox f n k (i+1))
noncomputable def qX:Nat:=200000
theorem IQ (hk:0<k)(h:ox f n k i ρ=some o):∃xs,ρ.get n=some (.list xs):=by
 cases k with
 |zero=>exact absurd hk (Nat.lt_irrefl 0)
 |succ k=>exact cZ (show fM (ρ.get n) _=some o from h) fun xs g _=>⟨xs,g⟩
section
variable (S:cU)
mutual
noncomputable def ex (ρ:aF):St->Option gZ
 |.s n e=>(ev S ρ e).map fun d=>.n (aF.set ρ n d)
 |.u ns e=>xV (ev S ρ e) fun xs=>if xs.length=ns.length then some (.n (bF ρ ns xs))else none
 |.aug n o e=>(ρ.get n).bind fun x=>(ev S ρ e).bind fun y=>(sF o x y).map fun d=>.n (aF.set ρ n d)
 |.newO n es=>(mK S ρ es).bind fun ds=>if ds.length<=1000 then some (.n (aF.set ρ n (.list ds)))else none
 |.splitO n a b=>jA (ev S ρ a) fun x=>jA (ev S ρ b) fun y=>if decide (0<y.length)&&sok (.list ((Txt.split x y).map .str))then some (.n (aF.set ρ n (.list ((Txt.split x y).map .str))))else none
 |.compO n elt gs=>fM (ev S ρ (.p elt gs)) fun xs=>some (.n (aF.set ρ n (.list xs)))
 |.a n e=>fM (ρ.get n) fun xs=>(ev S ρ e).bind fun d=>if xs.length<1000000 then some (.n (aF.set ρ n (.list (xs++[d]))))else none
 |.ext n e=>fM (ρ.get n) fun xs=>fM (ev S ρ e) fun ys=>if xs.length+ys.length<1000000 then some (.n (aF.set ρ n (.list (xs++ys))))else none
 |.rev n=>fM (ρ.get n) fun xs=>some (.n (aF.set ρ n (.list xs.reverse)))
 |.del n i=>fM (ρ.get n) fun xs=>(seqIndex? i xs.length).bind fun j=>some (.n (aF.set ρ n (.list (xs.eraseIdx j))))
 |.i c a b=>(evT S ρ c).bind fun t=>bif t then dP ρ a else dP ρ b
 |.l tg src body=>(dk S ρ src).bind fun items=>pv (fun d ρ'=>(bx ρ' tg d).bind fun ρ''=>dP ρ'' body) items ρ
 |.r e=>(ev S ρ e).map .r
 |.tryE body=>dP ρ body
 |.tryZ f args n b=>(mK S ρ args).bind fun ds=>if NN ds&&S.rz then some (.n (aF.set ρ n (.bool b)))else none
 |.assert e=>(evT S ρ e).bind fun t=>bif t then some (.n ρ)else none
 |.hole=>none
 |.grow n tg body=>ox (fun d ρ'=>(bx ρ' tg d).bind fun ρ''=>dP ρ'' body) n qX 0 ρ
 |.setU n a g b h=>(nk S ρ a g).bind fun x=>(nk S ρ b h).bind fun y=>if decide (x.length<=3)&&decide (y.length<=1)then some (.n (aF.set ρ n (.tuple ((y.foldl fh x).map .str))))else none
noncomputable def dP (ρ:aF):nU->Option gZ
 |.n=>some (.n ρ)
 |.c s r=>match ex ρ s with
  |some (.n ρ')=>dP ρ' r
  |o=>o
end
end
structure Fn where
 params:aN
 own:aN
 body:nU
def aV (S:cU)(f:Fn)(ds:List D):Option D:=
 if ds.length=f.params.length then(dP S (bF [] f.params ds) f.body).bind fun o=>match o with|.r d=>some d|.n _=>some .none else none
end Internal
end
namespace Internal
section
def nc (o:Obj):Prop:=(∃vs,o.data=.fields vs)/\o.cls≠.type "code" /\ o.cls≠.none/\o.cls≠.type "list" /\ o.cls≠.type "dict"
def HF (z:Bool)(o:Obj):Prop:=nc o
structure rX (G:GC)(A:Around)(z:Bool)(tg:Expr)(I:Addr)(fp wr:a9)(ds:List D)(vs:fO)(es:List D)(St:Nat->Heap->Prop)(P Md:Nat->Value->Heap->Prop):Prop where
 turns:KTurns G.prog G.w A tg I fp wr ds.length P Md St
 self:∀i (s:Shared)(Q:ba)(E:ba),St i s.heap->Q (.ref I) s->wpAny (bC G) A (pyIter (.ref I)) Q E s
 item:∀O h i v d,ak G.w O h vs es->P i v h->ds[i]?=some d->az G.w O h v d
 solid:∀i h,St i h->∀b∈fp,∀o,h.get? b=some o->gq o
 wrc:∀i h,St i h->∀b∈wr,∀o,h.get? b=some o->HF z o
 ex:∀i h,St i h->∀b∈wr,∃o,h.get? b=some o
inductive KH (G:GC)(A:Around)(z:Bool)(O:a9)(tg:Expr)(ds:List D)(strict:Bool)(s:Shared)(I:Addr)(s':Shared):Prop
 |mk (fp wr:a9)(vs:fO)(es:List D)(St:Nat->Heap->Prop)(P Md:Nat->Value->Heap->Prop)(it:rX G A z tg I fp wr ds vs es St P Md)(st:St 0 s'.heap)(rv:ak G.w O s'.heap vs es)(h1:∀b∈wr,s.heap.get? b=none)
  (h2:∀b∈fp,∃o,s'.heap.get? b=some o)(h3:∀b∈fp,s.heap.get? b=none\/(strict=true->b∉O)\/∃vs,s'.heap.IsTuple b vs)(h4:z=true->∀d∈es,dF d=true)
structure BB (G:GC)(A:Around)(z:Bool)(O:a9)(tg:Expr)(ds:List D)(strict:Bool)(s:Shared)(I:Addr)(s':Shared):Prop where
 ext:Ext G s s'
 len:ds.length<=16777216
 it:KH G A z O tg ds strict s I s'
def Ih (G:GC)(A:Around)(z:Bool)(O:a9)(tg:Expr)(t:Sem Value)(s:Shared)(ds:List D)(strict:Bool):Prop:=
 ∀(Q:ba)(E:ba),(∀I s',BB G A z O tg ds strict s I s'->Q (.ref I) s')->wpAny (bC G) A t (fun x s₁=>wpAny (bC G) A (pyIter x) Q E s₁) E s
theorem o5 {h:Heap}(l:h.IsList a vs){o:Obj}(e:h.get? a=some o):o.cls=.type "list":=by obtain⟨o',e',c,_⟩:=l;rw[e]at e';obtain rfl:=aG e';exact c
theorem FN {h:Heap}(l:h.IsTuple a vs){o:Obj}(e:h.get? a=some o):o.cls=.type "tuple":=by obtain⟨o',e',c,_⟩:=l;rw[e]at e';obtain rfl:=aG e';exact c
theorem J7 (h:o.cls=.type T)(hd:o.data=.fields vs)(h1:T ≠ "code" /\ T ≠ "list" /\ T ≠ "dict"):nc o:=
 ⟨⟨vs,hd⟩,fun e=>h1.1 (by rw[h]at e;exact Value.type.inj e),fun e=>(by rw[h]at e;cases e),fun e=>h1.2.1 (by rw[h]at e;exact Value.type.inj e),fun e=>h1.2.2 (by rw[h]at e;exact Value.type.inj e)⟩
theorem jD (h:o.cls=.type T)(hd:o.data=.fields vs)(h1:T ≠ "code" /\ T ≠ "list" /\ T ≠ "dict"):HF z o:=J7 h hd h1
theorem cA (h:o.cls=.type T):gq o:=.inl (by rw[h];nofun)
def cK (e:Expr):Bool:=(bh e fun _ _=>true) || fX e fun _ _ _=>true
def wn (e:Expr):Bool:=bh e fun _ _=>true
def Fq (e:Expr):Bool:=fX e fun _ _ _=>true
theorem HR {P:Expr->Prop}(h:cK e=true)(q1:∀x p,P (.Name x p))(q2:∀es k p,P (.Tuple es k p)):P e:=
 (Bool.or_eq_true_iff.mp h).elim (fun h=>aA h fun x p _=>q1 x p) fun h=>dK h fun es k p _=>q2 es k p
theorem pI (hn:wn tg=true){it v:Value}{s:Shared}{Q:Unit->Shared->Prop}{E:ba}(h:Q () s):wpAny (bC G) A (letOwnedTupleGo tg it v) Q E s:=by exact aA (P:=fun tg=>wpAny (bC G) A (letOwnedTupleGo tg it v) Q E s) hn fun _ _ _=>bg h
set_option tactic.hygienic true in
theorem pH (hn:cK tg=true){i:Nat}{v:Value}{s:Shared}{Q:Unit->Shared->Prop}{E:ba}(hit:s.heap.IsListIter I l i)(h:Q () s):wpAny (bC G) A (letOwnedTupleGo tg (.ref I) v) Q E s:=by
 refine HR (P:=fun tg=>wpAny (bC G) A (letOwnedTupleGo tg (.ref I) v) Q E s) hn (fun _ _=>bg h) fun es k p=>?_;rcases v with⟨⟩|⟨⟩
 case ref a=>exact wpAny_letOwnedTupleGo_listiter hit h
 all_goals exact bg h
noncomputable def kF:List String:=["enumerate", "zip", "dict_itemiterator", "dict_reverseitemiterator", "odict_iterator", "itertools.zip_longest", "itertools.pairwise"]
set_option tactic.hygienic true in
theorem rf (hn:cK tg=true){o:Obj}{T:String}{vs:Array Value}{v:Value}{s:Shared}{Q:Unit->Shared->Prop}{E:ba}(ho:s.heap.get? I=some o)(hc:o.cls=.type T)(hd:o.data=.fields vs)(hT:kF.contains T=false)(h:Q () s) :
  wpAny (bC G) A (letOwnedTupleGo tg (.ref I) v) Q E s:=by
 refine HR (P:=fun tg=>wpAny (bC G) A (letOwnedTupleGo tg (.ref I) v) Q E s) hn (fun _ _=>bg h) fun es k p=>?_;rcases v with⟨⟩|⟨⟩
 any_goals exact bg h
 rename_i a;unfold letOwnedTupleGo;refine aH (wpAny_load ho ?_);rw[hc,hd];show wpAny _ A (if(kF.contains T&&vs[0]?==some (rawInt a))=true then _ else _) Q E s;rw[hT];exact bg h
section
variable {G:GC}{A:Around}{O:a9}{s:Shared}{tg:Expr}{ds:List D}
theorem AD (hh:A.handled=none)(B:a5 G s.heap)(p:0<s.toks)(hn:cK tg=true)(hlen:ds.length<=16777216)(l:s.heap.IsList a vs)(r:ak G.w O s.heap vs.toList ds)(ha:strict=true->a∉O)
  {Q:ba}{E:ba}(q:∀I s',BB G A false O tg ds strict s I s'->Q (.ref I) s'):wpAny (bC G) A (pyIter (.ref a)) Q E s:=by
 have hk:∀b o,s.heap.get? b=some o->(s.heap.push { cls:=.type "list_iterator",data:=.fields #[.ref a, .int 0 0] }).get? b=some o:=fun b o e=>gv _ e;have hne:a≠s.heap.objs.size:=fun e=>by obtain⟨o,e',_⟩:=l;rw[e,aD]at e';exact nn e'
 have hsz:vs.size=ds.length:=by rw[<- r.length];simp
 have W:=Walks.list (prog:=G.prog) (w:=G.w) (A:=A) hh s.heap.objs.size a hne vs;rw[hsz]at W;refine wpAny_pyIter_list l (q _ _ ⟨.all B hk p,hlen,[s.heap.objs.size,a],[s.heap.objs.size],vs.toList,ds,_,_,_,
  ⟨KTurns.ofWalks W fun i v s' Q' E' st q'=>pH hn st.1 q',W.self,fun O' h i v d r' hP e=>?_,fun i h st b hb o e=>?_,fun i h st b hb o e=>?_,fun i h st b hb=>(by rcases aS hb with rfl;obtain⟨⟨o',e',_⟩,_⟩:=st;exact⟨_,e'⟩)⟩, ?_,r.keep (.of hk),fun b hb=>?_,fun b hb=>?_,fun b hb=>?_,fun q=>Bool.noConfusion q⟩)
 .obtain⟨v',e',r''⟩:=r'.get i d e;have hP:vs[i]?=some v:=hP;rw[Array.getElem?_toList,hP]at e';obtain rfl:=aG e';exact r''
 .rcases bA hb with rfl|hb
  .obtain⟨⟨o',e',c,_⟩,_⟩:=st;rw[e]at e';obtain rfl:=aG e';exact cA c
  .rcases aS hb with rfl
   exact cA (o5 st.2 e)
 .rcases aS hb with rfl
  obtain⟨⟨o',e',c,dd⟩,_⟩:=st;rw[e]at e';obtain rfl:=aG e';exact jD c dd (by decide)
 .exact⟨⟨_,iV _ rfl,rfl,rfl⟩,l.push _⟩
 .rcases aS hb with rfl
  exact aD _
 .rcases bA hb with rfl|hb
  .exact⟨_,iV _ rfl⟩
  .rcases aS hb with rfl
   obtain⟨o,e,_⟩:=l;exact⟨o,hk _ _ e⟩
 .rcases bA hb with rfl|hb
  .exact .inl (aD _)
  .rcases aS hb with rfl
   exact .inr (.inl ha)
theorem w5 (hh:A.handled=none)(B:a5 G s.heap)(p:0<s.toks)(hn:cK tg=true)(hlen:ds.length<=16777216)(l:s.heap.IsTuple a vs)(r:ak G.w O s.heap vs.toList ds) 
  {Q:ba}{E:ba}(q:∀I s',BB G A false O tg ds strict s I s'->Q (.ref I) s'):wpAny (bC G) A (pyIter (.ref a)) Q E s:=by
 have hk:∀b o,s.heap.get? b=some o->(s.heap.push { cls:=.type "tuple_iterator",data:=.fields #[.ref a, .int 0 0] }).get? b=some o:=fun b o e=>gv _ e;have hne:a≠s.heap.objs.size:=fun e=>by obtain⟨o,e',_⟩:=l;rw[e,aD]at e';exact nn e'
 have hsz:vs.size=ds.length:=by rw[<- r.length];simp
 have W:=Walks.tuple (prog:=G.prog) (w:=G.w) (A:=A) hh s.heap.objs.size a hne vs;rw[hsz]at W;refine wpAny_pyIter_tuple l (q _ _ ⟨.all B hk p,hlen,[s.heap.objs.size,a],[s.heap.objs.size],vs.toList,ds,_,_,_,
  ⟨KTurns.ofWalks W fun i v s' Q' E' st q'=>(let⟨o,e,c,dd⟩:=st.1;rf hn e c dd (by decide) q'),W.self,fun O' h i v d r' hP e=>?_,fun i h st b hb o e=>?_,fun i h st b hb o e=>?_,fun i h st b hb=>(by rcases aS hb with rfl;obtain⟨⟨o',e',_⟩,_⟩:=st;exact⟨_,e'⟩)⟩, ?_,r.keep (.of hk),fun b hb=>?_,fun b hb=>?_,fun b hb=>?_,fun q=>Bool.noConfusion q⟩)
 .obtain⟨v',e',r''⟩:=r'.get i d e;have hP:vs[i]?=some v:=hP;rw[Array.getElem?_toList,hP]at e';obtain rfl:=aG e';exact r''
 .rcases bA hb with rfl|hb
  .obtain⟨⟨o',e',c,_⟩,_⟩:=st;rw[e]at e';obtain rfl:=aG e';exact cA c
  .rcases aS hb with rfl
   exact cA (FN st.2 e)
 .rcases aS hb with rfl
  obtain⟨⟨o',e',c,dd⟩,_⟩:=st;rw[e]at e';obtain rfl:=aG e';exact jD c dd (by decide)
 .exact⟨⟨_,iV _ rfl,rfl,rfl⟩,l.push _⟩
 .rcases aS hb with rfl
  exact aD _
 .rcases bA hb with rfl|hb
  .exact⟨_,iV _ rfl⟩
  .rcases aS hb with rfl
   obtain⟨o,e,_⟩:=l;exact⟨o,hk _ _ e⟩
 .rcases bA hb with rfl|hb
  .exact .inl (aD _)
  .rcases aS hb with rfl
   exact .inr (.inr ⟨_,l.push _⟩)
theorem Dc (hh:A.handled=none)(B:a5 G s.heap)(p:0<s.toks)(hn:cK tg=true)(hx:sok (.str x)=true) 
  {Q:ba}{E:ba}(q:∀I s',BB G A false O tg (x.cps.toList.map fun c=>.str ⟨#[c]⟩) strict s I s'->Q (.ref I) s'):wpAny (bC G) A (pyIter (.str x t)) Q E s:=by
 have fin:∀(T:String)(St:Nat->Heap->Prop),(T ≠ "code" /\ T ≠ "list" /\ T ≠ "dict")->kF.contains T=false->Walks G.prog G.w A s.heap.objs.size [s.heap.objs.size] [s.heap.objs.size] x.cps.size (SignAt x) St ->
   (∀i h,St i h↔h.IsStrIter s.heap.objs.size T x t i)->Q (.ref s.heap.objs.size) { s with heap:=s.heap.push { cls:=.type T,data:=.fields #[.str x t, .int 0 0] } }:=by
  intro T St h1 hT W hSt;have hk:∀b o,s.heap.get? b=some o->(s.heap.push { cls:=.type T,data:=.fields #[.str x t, .int 0 0] }).get? b=some o:=fun b o e=>gv _ e;have hsz:x.cps.size=(x.cps.toList.map fun c=>(PyData.str ⟨#[c]⟩)).length:=by simp
  rw[hsz]at W;refine q _ _ ⟨.all B hk p,by rw[dx,i5];exact(sok_str.mp hx).2,[s.heap.objs.size],[s.heap.objs.size],[],[],_,_,_,
   ⟨KTurns.ofWalks W fun i v s' Q' E' st q'=>(let⟨o,e,c,dd⟩:=(hSt _ _).mp st;rf hn e c dd hT q'),W.self,fun O' h i v d r' hP e=>?_,fun i h st b hb o e=>?_,fun i h st b hb o e=>?_,fun i h st b hb=>(by rcases aS hb with rfl;obtain⟨o',e',_⟩:=(hSt i h).mp st;exact⟨_,e'⟩)⟩, ?_, .nil,fun b hb=>?_,fun b hb=>?_,fun b hb=>?_,fun q=>Bool.noConfusion q⟩
  .obtain⟨c,u,e',rfl⟩:=hP;have:(some (PyData.str ⟨#[c]⟩))=some d:=by rw[<- e,List.getElem?_map,Array.getElem?_toList,e'];rfl
   obtain rfl:=aG this;exact .str (Ei hx e')
  .rcases aS hb with rfl
   obtain⟨o',e',c,_⟩:=(hSt i h).mp st;rw[e]at e';obtain rfl:=aG e';exact cA c
  .rcases aS hb with rfl
   obtain⟨o',e',c,dd⟩:=(hSt i h).mp st;rw[e]at e';obtain rfl:=aG e';exact jD c dd h1
  .exact(hSt _ _).mpr ⟨_,iV _ rfl,rfl,rfl⟩
  .rcases aS hb with rfl
   exact aD _
  .rcases aS hb with rfl
   exact⟨_,iV _ rfl⟩
  .rcases aS hb with rfl
   exact .inl (aD _)
 cases ha:x.cps.all (· < 128)
 .exact wpAny_pyIter_wide ha (fin _ _ (by decide) (by decide) (Walks.strWide hh _ x t) fun _ _=>Iff.rfl)
 .exact wpAny_pyIter_ascii ha (fin _ _ (by decide) (by decide) (Walks.strAscii hh _ x t) fun _ _=>Iff.rfl)
theorem pX (hc:0<c)(hs:b-a<=16777216):Builtin.Range.rangeSize a b c=(((b-a+c-1) / c).toNat:Int):=by
 unfold Builtin.Range.rangeSize;rw[if_pos hc];have e:(b-a+c-1) / c=(b-a-1) / c+1:=by rw[show b-a+c-1=(b-a-1)+c from Int.add_right_comm (b-a) c (-1),Int.add_ediv_of_dvd_right (Int.dvd_refl c),Int.ediv_self (Int.ne_of_gt hc)]
 by_cases h:a<b
 .rw[if_pos h,e,Int.toNat_of_nonneg (Int.add_nonneg (Int.ediv_nonneg (Int.le_sub_one_of_lt (Int.sub_pos_of_lt h)) (Int.le_of_lt hc)) (by decide)),Int.add_comm]
 .have:(b-a+c-1) / c<1:=Int.ediv_lt_of_lt_mul hc ((Int.one_mul c).symm▸Int.lt_of_lt_of_le (Int.sub_lt_self (b-a+c) (by decide)) (Int.le_trans (Int.add_le_add_right (Int.sub_nonpos_of_le (Int.not_lt.mp h)) c) (Int.le_of_eq (Int.zero_add c))));rw[if_neg h,Int.toNat_of_nonpos (Int.le_of_lt_add_one this)];rfl
end
end
section
section
variable {G:GC}{A:Around}{O:a9}{s:Shared}{tg:Expr}{ds:List D}
theorem rF {a b c:Int}(h0:0<c)(hs:b-a<=16777216):((b-a+c-1) / c).toNat<=16777216:=by refine Int.toNat_le.mpr (Int.le_of_lt_add_one (Int.ediv_lt_of_lt_mul h0 ?_));refine Int.lt_of_lt_of_le (Int.sub_lt_self (b-a+c) (by decide)) (Int.le_trans (Int.add_le_add_right (Int.le_trans hs ?_) c) (Int.le_of_eq (((Int.add_mul 16777216 1 c).trans (congrArg (16777216*c + ·) (Int.one_mul c))).symm)));exact Int.le_trans (Int.le_of_eq (Int.mul_one 16777216).symm) (Int.mul_le_mul_of_nonneg_left h0 (by decide))
theorem jh {x:Int}(h1 : -1073741824<=x)(h2:x<=2147483648):Builtin.Range.rangeFitsLong x=true:=
 jX ⟨dg (Int.le_trans (by decide) h1),dg (Int.lt_of_le_of_lt h2 (by decide))⟩
theorem vT {a b c:Int}(h0:0<c)(h1 : -1073741824<=a)(h2:a<=1073741824)(h3 : -1073741824<=b)(h4:b<=1073741824)(h5:c<=1073741824)(hs:b-a<=16777216):Builtin.Range.small a b c=true:=by
 have w:(1073741824:Int)<=2147483648:=by decide
 refine jX ⟨jX ⟨jX ⟨jX ⟨jh h1 (Int.le_trans h2 w),jh h3 (Int.le_trans h4 w)⟩,jh (Int.le_trans (by decide) (Int.le_of_lt h0)) (Int.le_trans h5 w)⟩, ?_⟩,Bool.or_eq_true_iff.mpr (.inr ?_)⟩
 .rw[pX h0 hs];exact jh (Int.le_trans (by decide) (Int.natCast_nonneg _)) (Int.le_trans (Int.ofNat_le.mpr (rF h0 hs)) (by decide))
 .rw[if_pos h0];exact jh (Int.le_trans h3 (Int.le_add_of_nonneg_right (Int.sub_nonneg_of_le h0))) (Int.le_trans (Int.add_le_add h4 (Int.le_trans (Int.sub_le_self c (by decide)) h5)) (by decide))
set_option tactic.hygienic true in
theorem ku (hh:A.handled=none)(B:a5 G s.heap)(p:0<s.toks)(hn:wn tg=true){a b c:Int}{t u v:Tok}{r:Addr}(hr:IsRange s.heap r a b c t u v)(h:d8 a b c=some ds){strict:Bool}
  {Q:ba}{E:ba}(q:∀I s',BB G A false O tg ds strict s I s'->Q (.ref I) s'):wpAny (bC G) A (pyIter (.ref r)) Q E s:=by
 unfold d8 at h;split at h <;> cases h;rename_i g;simp only[eO,jE]at g;obtain⟨⟨⟨⟨⟨⟨h0,h1⟩,h2⟩,h3⟩,h4⟩,h5⟩,h6⟩:=g;have hk:∀b' o,s.heap.get? b'=some o->(s.heap.push { cls:=.type "range_iterator",data:=.fields #[rawInt a,rawInt (Builtin.Range.rangeSize a b c),rawInt c] }).get? b'=some o:=fun b o e=>gv _ e;have hlen:((List.range ((b-a+c-1) / c).toNat).map fun k:Nat=>PyData.int (a+k*c)).length<=16777216:=by rw[dx,List.length_range];exact rF h0 h6
 have hsz:((b-a+c-1) / c).toNat=((List.range ((b-a+c-1) / c).toNat).map fun k:Nat=>PyData.int (a+k*c)).length:=by simp
 have W:=Walks.range (prog:=G.prog) (w:=G.w) (A:=A) hh s.heap.objs.size a c ((b-a+c-1) / c).toNat;refine wpAny_pyIter_range hr (vT h0 h1 h2 h3 h4 h5 h6) (q _ _ ⟨.all B hk p,hlen,[s.heap.objs.size],[s.heap.objs.size],[],[],_,_,_,
  ⟨(by have K:=KTurns.ofWalks W fun i v s' Q' E' st q'=>pI hn q';rw[<- hsz];exact K),W.self,fun O' h i v d r' hP e=>?_,fun i h st b hb o e=>?_,fun i h st b hb o e=>?_,fun i h st b hb=>(by rcases aS hb with rfl;exact⟨_,st⟩)⟩, ?_, .nil,fun b hb=>?_,fun b hb=>?_,fun b hb=>?_,fun q=>Bool.noConfusion q⟩)
 .obtain⟨t',rfl⟩:=hP;rw[List.getElem?_map,Option.map_eq_some_iff]at e;obtain⟨k,e,rfl⟩:=e;have:k=i:=by
   rw[List.getElem?_eq_some_iff]at e;obtain⟨_,e⟩:=e
   simpa using e.symm
  subst this;exact .int
 .rcases aS hb with rfl
  have st:h.get? s.heap.objs.size=_:=st;rw[st]at e;obtain rfl:=aG e;exact cA rfl
 .rcases aS hb with rfl
  have st:h.get? s.heap.objs.size=_:=st;rw[st]at e;obtain rfl:=aG e;exact jD rfl rfl (by decide)
 .show(s.heap.push _).get? _=_;rw[pX h0 h6,iV _ rfl];simp
 .rcases aS hb with rfl
  exact aD _
 .rcases aS hb with rfl
  exact⟨_,iV _ rfl⟩
 .rcases aS hb with rfl
  exact .inl (aD _)
theorem Db (hh:A.handled=none)(B:a5 G s.heap)(p:0<s.toks)(hn:wn tg=true)(hlen:ds.length<=16777216){a:Addr}{vs:Array Value}(l:s.heap.IsList a vs)(r:ak G.w O s.heap vs.toList ds){strict:Bool}(ha:strict=true->a∉O)
  {Q:ba}{E:ba}(q:∀I s',BB G A false O tg ds.reverse strict s I s'->Q (.ref I) s') :
  wpAny (bC G) A (call (.type "reversed") [.ref a]) (fun x s₁=>wpAny (bC G) A (pyIter x) Q E s₁) E s:=by
 have hk:∀b o,s.heap.get? b=some o->(s.heap.push (revObj a ((vs.size:Int)-1))).get? b=some o:=fun b o e=>gv _ e;have hne:a≠s.heap.objs.size:=fun e=>by obtain⟨o,e',_⟩:=l;rw[e,aD]at e';exact nn e'
 have hsz:vs.size=ds.reverse.length:=by rw[List.length_reverse,<- r.length];simp
 have W:=Walks.listRev (prog:=G.prog) (w:=G.w) (A:=A) hh s.heap.objs.size a hne vs;have K:=KTurns.ofWalks (target:=tg) W fun i v s' Q' E' st q'=>pI hn q';rw[hsz]at K;refine call_reversed_list l (wpAny_pyIter_revIter (it:=s.heap.objs.size) (l:=a) (i:=(vs.size:Int)-1) ⟨_,iV _ rfl,rfl,rfl⟩ (q _ _ ⟨.all B hk p,by simpa using hlen,[s.heap.objs.size,a],[s.heap.objs.size],vs.toList,ds,_,_,_,
  ⟨K,(by have:=W.self;rw[hsz]at this;exact this),fun O' h i v d r' hP e=>?_,fun i h st b hb o e=>?_,fun i h st b hb o e=>?_,fun i h st b hb=>(by rcases aS hb with rfl;obtain⟨_,⟨o',e',_⟩,_⟩:=st;exact⟨_,e'⟩)⟩, ?_,r.keep (.of hk),fun b hb=>?_,fun b hb=>?_,fun b hb=>?_,fun q=>Bool.noConfusion q⟩))
 .have hi:i<ds.length:=by have:=(List.getElem?_eq_some_iff.mp e).1;simpa using this
  rw[List.getElem?_reverse hi]at e;obtain⟨v',e',r''⟩:=r'.get _ d e;have hP:vs[ds.reverse.length-1-i]?=some v:=hP;rw[List.length_reverse]at hP;rw[Array.getElem?_toList,hP]at e';obtain rfl:=aG e';exact r''
 .obtain⟨_,st1,st2⟩:=st;rcases bA hb with rfl|hb
  .obtain⟨o',e',c,_⟩:=st1;rw[e]at e';obtain rfl:=aG e';exact cA c
  .rcases aS hb with rfl
   exact cA (o5 st2 e)
 .obtain⟨_,st1,st2⟩:=st;rcases aS hb with rfl
  obtain⟨o',e',c,dd⟩:=st1;rw[e]at e';obtain rfl:=aG e';exact jD c dd (by decide)
 .refine⟨gL _,⟨_,iV _ rfl,rfl, ?_⟩,l.push _⟩;simp[revObj,hsz]
 .rcases aS hb with rfl
  exact aD _
 .rcases bA hb with rfl|hb
  .exact⟨_,iV _ rfl⟩
  .rcases aS hb with rfl
   obtain⟨o,e,_⟩:=l;exact⟨o,hk _ _ e⟩
 .rcases bA hb with rfl|hb
  .exact .inl (aD _)
  .rcases aS hb with rfl
   exact .inr (.inl ha)
theorem vd {h:Heap}{e it:Addr}{i:Int}{old:Value}(he:IsEnum h e it i old){o:Obj}(q:h.get? e=some o):∃vs,o.data=.fields vs:=by have he:h.get? e=_:=he;rw[he]at q;obtain rfl:=aG q;exact⟨_,rfl⟩
theorem pC {h:Heap}{e it:Addr}{i:Int}{old:Value}(he:IsEnum h e it i old){o:Obj}(q:h.get? e=some o):o.cls=.type "enumerate":=by have he:h.get? e=_:=he;rw[he]at q;obtain rfl:=aG q;rfl
theorem AL {G:GC}{A:Around}{tg:Expr}(hn:Fq tg=true):∃es k p,tg=.Tuple es k p:=by exact dK (P:=fun tg=>∃es k p,tg=.Tuple es k p) hn fun es k p _=>⟨es,k,p,rfl⟩
theorem AC (hh:A.handled=none)(B:a5 G s.heap)(p:0<s.toks)(hn:Fq tg=true)(hlen:ds.length<=16777216){a:Addr}{vs:Array Value}(l:s.heap.IsList a vs)(r:ak G.w O s.heap vs.toList ds){strict:Bool}(ha:strict=true->a∉O)
  {Q:ba}{E:ba}(q:∀I s',BB G A false O tg (qS ds) strict s I s'->Q (.ref I) s') :
  wpAny (bC G) A (call (.type "enumerate") [.ref a]) (fun x s₁=>wpAny (bC G) A (pyIter x) Q E s₁) E s:=by
 obtain⟨es,k,pp,rfl⟩:=AL (G:=G) (A:=A) hn;have hlt:a<s.heap.objs.size:=by obtain⟨o,e,_⟩:=l;exact Heap.lt_size e
 have hsz:vs.size=(qS ds).length:=by unfold qS;rw[dx,List.length_zipIdx,<- r.length];simp
 refine call_enumerate_list l fun h' he hit hz hk=>?_;have W:=(WalksT.enumerate (prog:=G.prog) (w:=G.w) (A:=A) hh (s.heap.objs.size+1) s.heap.objs.size a (Nat.succ_ne_self _) (Nat.ne_of_lt (Nat.lt_succ_of_lt hlt)) (Nat.ne_of_lt hlt) vs).toU;have K:=KTurns.ofWalksU (elts:=es) (k:=k) (pos:=pp) W;have hself:=W.self;rw[hsz]at K;have nw:s.heap.get? (s.heap.objs.size+1)=none:=by
  cases e:s.heap.get? (s.heap.objs.size+1)with
  |none=>rfl
  |some o=>exact absurd (Heap.lt_size e) (Nat.not_lt.mpr (Nat.le_succ _))
 refine wpAny_pyIter_enum he (q _ _ ⟨.all B hk p,by rw[<- hsz,<- i5,r.length];exact hlen,[s.heap.objs.size+1,s.heap.objs.size,a],[s.heap.objs.size+1,s.heap.objs.size],vs.toList,ds,_,_,_,
  ⟨K,hself,fun O' h i v d r' hP e=>?_,fun i h st b hb o e=>?_,fun i h st b hb o e=>?_,fun i h st b hb=>(by
   obtain⟨⟨old,st0⟩,⟨o',e',_⟩,_⟩:=st;rcases bA hb with rfl|hb
   .exact⟨_,st0⟩
   .rcases aS hb with rfl;exact⟨_,e'⟩)⟩, ?_,r.keep (.of hk),fun b hb=>?_,fun b hb=>?_,fun b hb=>?_,fun q=>Bool.noConfusion q⟩)
 .obtain⟨T,vals,rfl,⟨t,x,hx,rfl⟩,hT⟩:=hP;unfold qS at e;rw[List.getElem?_map,List.getElem?_zipIdx]at e;cases e1:ds[i]? with
  |none=>rw[e1]at e;exact nn e
  |some d' =>
   rw[e1]at e;simp only[Option.map_some,Option.some.injEq,Nat.zero_add]at e;subst e;obtain⟨v',e',r''⟩:=r'.get i d' e1;rw[Array.getElem?_toList,hx]at e';obtain rfl:=aG e';exact .tuple_of (by simp) hT (.cons .int (.cons r'' .nil))
 .obtain⟨⟨old,st0⟩,st1,st2⟩:=st;rcases bA hb with rfl|hb
  .exact cA (pC st0 e)
  .rcases bA hb with rfl|hb
   .obtain⟨o',e',c,_⟩:=st1;rw[e]at e';obtain rfl:=aG e';exact cA c
   .rcases aS hb with rfl
    exact cA (o5 st2 e)
 .obtain⟨⟨old,st0⟩,st1,st2⟩:=st;rcases bA hb with rfl|hb
  .obtain⟨_,dd⟩:=vd st0 e;exact jD (pC st0 e) dd (by decide)
  .rcases aS hb with rfl
   obtain⟨o',e',c,dd⟩:=st1;rw[e]at e';obtain rfl:=aG e';exact jD c dd (by decide)
 .obtain⟨o,e,c⟩:=l;exact⟨⟨.none,he⟩,hit,⟨o,hk _ _ e,c⟩⟩
 .rcases bA hb with rfl|hb
  .exact nw
  .rcases aS hb with rfl
   exact aD _
 .rcases bA hb with rfl|hb
  .exact⟨_,he⟩
  .rcases bA hb with rfl|hb
   .obtain⟨o,e,_⟩:=hit;exact⟨_,e⟩
   .rcases aS hb with rfl
    obtain⟨o,e,_⟩:=l;exact⟨o,hk _ _ e⟩
 .rcases bA hb with rfl|hb
  .exact .inl nw
  .rcases bA hb with rfl|hb
   .exact .inl (aD _)
   .rcases aS hb with rfl
    exact .inr (.inl ha)
theorem De (hh:A.handled=none)(B:a5 G s.heap)(p:0<s.toks){v:Value}{d:D}(r:az G.w O s.heap v d)(h:sT d=some ds)
  (hn:cK tg=true)
  {strict:Bool}{Q:ba}{E:ba}(q:∀I s',BB G A false O tg ds strict s I s'->Q (.ref I) s'):wpAny (bC G) A (pyIter v) Q E s:=by
 cases d with
 |list xs =>
  obtain rfl:=aG h;obtain⟨a,vs,rfl,ha,l,rr⟩:=r.list_inv;exact AD hh B p hn r.list_len l rr (fun _=>ha) q
 |tuple xs =>
  obtain rfl:=aG h;obtain⟨a,vs,rfl,l,rr⟩:=r.tuple_inv;exact w5 hh B p hn r.tuple_len l rr q
 |str x =>
  obtain rfl:=aG h;obtain⟨t,rfl⟩:=r.str_inv;exact Dc hh B p hn r.sok q
 |_=>exact nn h
end
end
section
abbrev bq (G:GC)(A:Around)(x:Expr)(env:Env)(own:dM)(O:a9)(ρ:aF)(d:D):Prop:=∀s,cV G A env own O ρ s->dG G A O (eval x env) s d
abbrev mn (G:GC)(A:Around)(x:Expr)(env:Env)(own:dM)(O:a9)(ρ:aF)(b:Bool):Prop:=∀s,cV G A env own O ρ s->wp G A (isTrue x env (eval x env)) s b
abbrev mf (G:GC)(A:Around)(xs:dN)(env:Env)(own:dM)(O:a9)(ρ:aF)(ds:List D):Prop:=∀s pos,cV G A env own O ρ s->M0 G A O (spliced (backTo pos (starEach xs env))) s ds
section
variable {G:GC}{A:Around}{env:Env}{own:dM}{O:a9}{ρ:aF}{d:D}
theorem BN:bq G A (.Constant .none k pos) env own O ρ .none:=fun s I Q E q=>wpAny_Constant_none (q _ s (.refl I.base I.pos) .none)
theorem BJ:bq G A (.Constant (.bool b) k pos) env own O ρ (.bool b):=fun s I Q E q=>wpAny_Constant_bool (q _ s (.refl I.base I.pos) .bool)
theorem sk:bq G A (.Constant (.int i) k pos) env own O ρ (.int i):=fun s I Q E q=>wpAny_Constant_int (q _ _ ((Ext.refl I.base I.pos).tok (Nat.succ_pos _)) .int)
theorem FB (h:sok (.str x)=true):bq G A (.Constant (.str x) k pos) env own O ρ (.str x):=fun s I Q E q=>wpAny_Constant_str (q _ _ ((Ext.refl I.base I.pos).tok (Nat.succ_pos _)) (.str h))
theorem FH (hn:G.names[n]?=some x)(hk:env.kindOf x=some k)(hkk:k=.local\/k=.cell\/k=.free)(hx:(x==("__classdict__" : Str))=false)(hd:(x==("__debug__" : Str))=false)
  (ho:n∉own.ns)(hg:ρ.get n=some d):bq G A (.Name x pos) env own O ρ d:=fun s I Q E q=>by
 refine wpAny_Name (jN I hn hk hkk hx hg fun v r=>?_) hd;unfold cL at r;rw[if_neg ho]at r;exact q v s (.refl I.base I.pos) r
theorem jM {pos:Pos}{Q:ba}{E:ba}(I:cV G A env own O ρ s)(hk:env.kindOf x=some .globalImplicit)(hd:(x==("__debug__" : Str))=false)(hv:G.mg x=some v)(q:Q v s) :
  wpAny (bC G) A (eval (.Name x pos) env) Q E s:=by
 refine Name_function_global I.envr.fn hk (loadGlobal_global (mg:=G.mg) ?_ hv q) hd;rw[I.envr.gl];exact I.ok.g.at' fun o e=>I.base.keep _ o e
theorem dD {pos:Pos}{Q:ba}{E:ba}(I:cV G A env own O ρ s)(hk:env.kindOf x=some .globalImplicit)(hd:(x==("__debug__" : Str))=false)(hm:G.mg x=none)(hv:bootBuiltins x=some v)
  (hne:x ≠ "__name__") (q:Q v s):wpAny (bC G) A (eval (.Name x pos) env) Q E s:=by
 refine Name_function_global I.envr.fn hk (loadGlobal_builtin (mg:=G.mg) (mb:=G.mb) ?_ hm ?_ ((I.ok.bt x hne).trans hv) q) hd
 .rw[I.envr.gl];exact I.ok.g.at' fun o e=>I.base.keep _ o e
 .rw[I.envr.bi];exact I.ok.b.at' fun o e=>I.base.keep _ o e
theorem Fw (hl:bq G A l env own O ρ a)(hr:bq G A r env own O ρ b)(h:eE o a b=some d):bq G A (.BinOp l o r pos) env own O ρ d:=fun s I Q E q =>
 wpAny_BinOp (hl s I _ _ fun v s1 x1 r1=>hr s1 (I.ext x1) _ _ fun u s2 x2 r2=>mB x2.base x2.pos (I.ext (x1.trans x2)).ov (r1.keep x2.keep) r2 h _ _ fun z s3 x3 r3=>q z s3 ((x1.trans x2).trans x3) r3)
theorem yn (hl:bq G A l env own O ρ (.int i)):bq G A (.UnaryOp .USub l pos) env own O ρ (.int (-i)):=fun s I Q E q =>
 wpAny_UnaryOp (hl s I _ _ fun v s1 x1 r1=>by obtain⟨t,rfl⟩:=r1.int_inv;exact AS x1.base x1.pos _ _ fun z s3 x3 r3=>q z s3 (x1.trans x3) r3)
theorem Fz (hl:bq G A l env own O ρ (.int i)):bq G A (.UnaryOp .Invert l pos) env own O ρ (.int (Builtin.bitNot i)):=fun s I Q E q =>
 wpAny_UnaryOp (hl s I _ _ fun v s1 x1 r1=>by obtain⟨t,rfl⟩:=r1.int_inv;exact AB x1.base x1.pos _ _ fun z s3 x3 r3=>q z s3 (x1.trans x3) r3)
theorem Io (hl:bq G A l env own O ρ a)(h:dq a=some b):bq G A (.UnaryOp .Not l pos) env own O ρ (.bool (!b)):=fun s I Q E q =>
 wpAny_UnaryOp (hl s I _ _ fun v s1 x1 r1=>AY x1.base x1.pos r1 h _ _ fun z s3 x3 r3=>q z s3 (x1.trans x3) r3)
theorem Fy (hu:A.units+100<cLine)(hm:behindInMarks o r=false)(hl:bq G A l env own O ρ a)(hr:bq G A r env own O ρ b)(h:bH o a b=some d):bq G A (.Compare l [o] [r] pos) env own O ρ d:=fun s I Q E q =>
 wpAny_Compare1 (hl s I _ _ fun v s1 x1 r1=>hr s1 (I.ext x1) _ _ fun u s2 x2 r2=>mD x2.base x2.pos hu (r1.keep x2.keep) r2 h _ _ fun z s3 x3 r3=>q z s3 ((x1.trans x2).trans x3) r3) hm
theorem ym (hc:mn G A c env own O ρ b)(hl:b=true->bq G A l env own O ρ d)(hr:b=false->bq G A r env own O ρ d):bq G A (.IfExp c l r pos) env own O ρ d:=fun s I Q E q =>
 wpAny_IfExp (hc s I _ _ fun s1 x1=>by
  cases b
  .exact hr rfl s1 (I.ext x1) _ _ fun z s3 x3 r3=>q z s3 (x1.trans x3) r3
  .exact hl rfl s1 (I.ext x1) _ _ fun z s3 x3 r3=>q z s3 (x1.trans x3) r3)
theorem yo:mf G A [] env own O ρ []:=fun s pos I Q E q=>spliced_nil (q [] s (.refl I.base I.pos) .nil)
theorem uj (hx:bq G A x env own O ρ d)(hxs:mf G A xs env own O ρ ds)(hs:∀env,starEach (x::xs) env=(false,eval x env)::starEach xs env):mf G A (x::xs) env own O ρ (d::ds):=fun s pos I Q E q=>by rw[hs];exact spliced_cons (hx s I _ _ fun v s1 x1 r1=>hxs s1 pos (I.ext x1) _ _ fun vs s2 x2 r2=>q _ s2 (x1.trans x2) (.cons (r1.keep x2.keep) r2))
noncomputable def aY (x:Expr):Bool:=!(x.ctorIdx==22)
theorem cb (h:aY x=true)(xs:dN)(env:Env):starEach (x::xs) env=(false,eval x env)::starEach xs env:=by cases x <;> first|rfl|exact ff h
theorem BM (h:mf G A xs env own O ρ ds)(hl:ds.length<=1000):bq G A (.List xs pos) env own O ρ (.list ds):=fun s I Q E q=>by rw[arm_eval_List];exact aH (wpAny_standAt (aH (h s pos I _ _ fun vs s1 x1 r1=>DC x1.base x1.pos (I.ext x1).ov r1 (by exact qp ‹_› rfl) _ _ fun z s3 x3 r3=>q z s3 (x1.trans x3) r3)))
theorem FG (h:mf G A xs env own O ρ ds)(hl:ds.length<=1000):bq G A (.Tuple xs k pos) env own O ρ (.tuple ds):=fun s I Q E q=>by rw[arm_eval_Tuple];exact aH (wpAny_standAt (aH (h s pos I _ _ fun vs s1 x1 r1=>AU x1.base x1.pos r1 (by exact qp ‹_› rfl) _ _ fun z s3 x3 r3=>q z s3 (x1.trans x3) r3)))
theorem FE (hs:gA slice=true)(ha:bq G A value env own O ρ a)(hi:bq G A slice env own O ρ i)(h:jf a i=some d):bq G A (.Subscript value slice pos) env own O ρ d:=fun s I Q E q =>
 Subscript_ (ha s I _ _ fun v s1 x1 r1=>hi s1 (I.ext x1) _ _ fun u s2 x2 r2=>Br x2.base x2.pos hs (r1.keep x2.keep) r2 h _ _ fun z s3 x3 r3=>q z s3 ((x1.trans x2).trans x3) r3)
def Ie (w:World)(O:a9)(h:Heap)(v:Value):Option D->Prop
 |none=>v=.none
 |some d=>az w O h v d
abbrev mh (G:GC)(A:Around)(x:Option Expr)(env:Env)(own:dM)(O:a9)(ρ:aF)(od:Option D):Prop:=∀s,cV G A env own O ρ s->∀(Q E:ba),
 (∀v s',Ext G s s'->Ie G.w O s'.heap v od->Q v s')->wpAny (bC G) A (evalPart x env) Q E s
theorem A4:mh G A none env own O ρ none:=fun s I Q E q=>bg (q _ s (.refl I.base I.pos) rfl)
theorem A5 (h:bq G A x env own O ρ d):mh G A (some x) env own O ρ (some d):=fun s I Q E q=>h s I _ _ fun v s1 x1 r1=>q v s1 x1 r1
theorem ir (x:Ie G.w O h v od)(k:dS h h'):Ie G.w O h' v od:=by
 cases od with
 |none=>exact x
 |some d=>exact az.keep x k
theorem lN {lo hi st:Option Expr}{p:Pos}{o i:Value}:subscripted (.Slice lo hi st p) false o i=operate (match st with|none=>[i,o]|some _=>[o,i]) (getItem o i):=by cases st <;> rfl
theorem FA {lo hi st:Option Expr}{p pos:Pos}{a:D}{l h' t:Option D}(ha:bq G A value env own O ρ a)(h1:mh G A lo env own O ρ l)(h2:mh G A hi env own O ρ h')(h3:mh G A st env own O ρ t)(h:fS a l h' t=some d) :
  bq G A (.Subscript value (.Slice lo hi st p) pos) env own O ρ d:=fun s I Q E q=>by
 refine Subscript_ (ha s I _ _ fun v s1 x1 r1=>wpAny_Slice (h1 s1 (I.ext x1) _ _ fun u2 s2 x2 r2=>h2 s2 (I.ext (x1.trans x2)) _ _ fun u3 s3 x3 r3=>h3 s3 (I.ext ((x1.trans x2).trans x3)) _ _ fun u4 s4 x4 r4=>?_));have hk:∀b o,s4.heap.get? b=some o->(s4.heap.push { cls:=.type "slice",data:=.fields #[u2,u3,u4] }).get? b=some o:=fun b o e=>gv _ e;have x5:=((x1.trans x2).trans x3).trans x4;have B5:=x5.base.all hk;have p2:=ir (od:=l) (ir (od:=l) r2 (x3.trans x4).keep) (.of hk);have p3:=ir (od:=h') (ir (od:=h') r3 x4.keep) (.of hk);have p4:=ir (od:=t) r4 (.of hk);refine tH (lo:=value) (hi:=value) (st:=value) (s:={ s4 with heap:=s4.heap.push { cls:=.type "slice",data:=.fields #[u2,u3,u4] } }) B5 x5.pos ((I.ext x5).ov.keep (.of hk)) (((r1.keep ((x2.trans x3).trans x4).keep)).keep (.of hk)) (vl:=u2) (vh:=u3) (vs:=u4) ?_
  (by cases l <;> exact p2) (by cases h' <;> exact p3) (by cases t <;> exact p4) h lN _ _ fun z s6 x6 r6=>q z s6 (x5.trans (Ext.trans (.all x5.base hk x5.pos) x6)) r6
 exact⟨_,iV _ rfl,rfl,rfl⟩
end
end
section
structure oP (G:GC)(A:Around)(cal:Nat->List D->Option D):Prop where
 go:∀f x ds d,G.names[f]?=some x->cal f ds=some d->∃a o fd,G.mg x=some (.ref a)/\G.h₀.get? a=some o/\o.data=.func fd /\
  ∀O s vs,a5 G s.heap->0<s.toks->dH O s.heap->ak G.w O s.heap vs ds->dG G A O (call (.ref a) vs) s d
def gY (G:GC)(gl:Nat->Option D):Prop:=∀n x d,G.names[n]?=some x->gl n=some d->∃v,G.mg x=some v/\∀O h,az G.w O h v d
noncomputable def Bf.nm:Bf->Str
 |.len => "len" |.sum => "sum" |.chr => "chr" |.divmod => "divmod" |.sorted => "sorted"
theorem Bf.boot (f:Bf):bootBuiltins f.nm=some f.val:=by cases f <;> decide +kernel
theorem Bf.mem (f:Bf):f.nm∈bZ:=by cases f <;> decide +kernel
theorem g9 (h:x∈bZ):x ≠ "__name__":=fun e=>by subst e;revert h;decide +kernel
theorem g8 (h:x∈bZ):(x==("__debug__" : Str))=false:=by
 cases e:x==("__debug__" : Str)with
 |false=>rfl
 |true=>rw[eM e]at h;revert h;decide +kernel
def cC (xs:dN):Bool:=xs.all aY
theorem di (h:cC xs=true)(pos:Pos)(env:Env):(backTo pos (starEach xs env)).any (·.1)=false:=by
 induction xs with
 |nil=>rfl
 |cons x r ih =>
  obtain⟨h1,h2⟩:=cE (show(aY x&&cC r)=true from h);rw[cb h1];show(false || (backTo pos (starEach r env)).any (·.1))=false;rw[ih h2];rfl
theorem A7 (h:cC xs=true)(pos:Pos)(env:Env):(backTo pos (starEach xs env)).all (fun x=>!x.1)=true:=by
 induction xs with
 |nil=>rfl
 |cons x r ih =>
  obtain⟨h1,h2⟩:=cE (show(aY x&&cC r)=true from h);rw[cb h1];show(true&&(backTo pos (starEach r env)).all (fun x=>!x.1))=true;rw[ih h2];rfl
theorem bl {E:ba}{s:Shared}{f:Value}{xs:dN}{pos:Pos}{env:Env}{Q:Args->Shared->Prop}(hst:cC xs=true)
  (h:wpAny M A (spliced (backTo pos (starEach xs env))) (fun vs s'=>Q ⟨vs,[]⟩ s') E s):wpAny M A (evalArgs f true (backTo pos (starEach xs env)) []) Q E s:=by
 cases xs with
 |nil =>
  show wpAny M A (spliced [] >>= _) Q E s;refine aH (wpAny_mono h (fun vs s' h'=>?_) fun _ _ x=>x);refine aH (bg (wpAny_holding ?_));exact aH (bg (aH (bg (bg h'))))
 |cons x r =>
  obtain⟨h1,h2⟩:=cE (show(aY x&&cC r)=true from hst);rw[cb h1]at h ⊢;exact evalArgs_plain h
section
variable {G:GC}{A:Around}{env:Env}{own:dM}{O:a9}{ρ:aF}{d:D}
theorem BK (F:oP G A cal)(hn:G.names[f]?=some x)(hk:env.kindOf x=some .globalImplicit)(hd:(x==("__debug__" : Str))=false)
  (hst:cC args=true)(ha:mf G A args env own O ρ ds)(h:cal f ds=some d):bq G A (.Call (.Name x np) args [] pos) env own O ρ d:=fun s I Q E q=>by
 obtain⟨a,o,fd,h1,h2,h3,h4⟩:=F.go f x ds d hn h;refine wpAny_Call_Name_kw (jM I hk hd h1 ?_);refine callWith_function_kw (o:=o) (fd:=fd) (bl hst (ha s pos I _ _ fun vs s1 x1 r1=>⟨⟨x1.base.keep _ _ h2,h3⟩, ?_⟩));exact h4 O s1 vs x1.base x1.pos (I.ext x1).ov r1 _ _ fun v s2 x2 r2=>q v s2 (x1.trans x2) r2
theorem Il (hh:A.handled=none)(hk:env.kindOf f.nm=some .globalImplicit)
  (hst:cC args=true)(ha:mf G A args env own O ρ ds)(h:As f ds=some d):bq G A (.Call (.Name f.nm np) args [] pos) env own O ρ d:=fun s I Q E q=>by
 refine wpAny_Call_Name_kw (dD I hk (g8 f.mem) (I.ok.nb _ f.mem) f.boot (g9 f.mem) ?_);have key:∀v,f.val=v->wpAny (bC G) A (evalArgs v true (backTo pos (starEach args env)) []) (fun a s₁=>wpAny (bC G) A (call v ([]++a.pos) a.kw) Q E s₁) E s:=by
  rintro v rfl
  refine bl hst (ha s pos I _ _ fun vs s1 x1 r1=>?_);exact BV x1.base x1.pos (I.ext x1).ov hh r1 h _ _ fun v s2 x2 r2=>q v s2 (x1.trans x2) r2
 cases f
 all_goals exact Calls.callWith_builtin (di hst pos env) (key _ rfl)
def gS (e:Expr):Bool:=!(tj e fun f as ks _=>bh f fun _ _=>bK as (bK ks true))
set_option tactic.hygienic true in
theorem FJ (h:gS o=true)(n:Str)(env:Env)(w:Sem Value):attributeBase o n env w=w:=by
 rcases o with⟨⟩|⟨⟩
 case Call f as ks p =>
  rcases f with⟨⟩|⟨⟩
  case Name id np =>
   rcases as with⟨⟩|⟨⟩
   .rcases ks with⟨⟩|⟨⟩
    .exact absurd h g6
    .rfl
   .rfl
  all_goals rfl
 all_goals rfl
theorem gh {apos pos:Pos}{args:dN}{s:Shared}{Q E:ba}(hb:gS o=true)(hst:cC args=true)(hl:args.length<30)(hp:(apos.endLine==pos.line)=true)
  (h:wpAny (bC G) A (eval o env) (fun u s1=>∀pl,wpAny (bC G) A (getMethod u n pl) (fun r s2=>∃id,r=(.builtin id,[u]) /\
   wpAny (bC G) A (spliced (backTo pos (starEach args env))) (fun vs s3=>wpAny (bC G) A (call (.builtin id) (u::vs)) Q E s3) E s2) E s1) E s) :
  wpAny (bC G) A (eval (.Call (.Attribute o n apos) args [] pos) env) Q E s:=by
 rw[arm_eval_Call,FJ hb];refine aH (wpAny_mono h (fun ov s₁ h₁=>?_) fun _ _ e=>e);refine aH (wpAny_standAt ?_);have hform:methodCallForm (args.length+([]:List Keyword).length) (backTo pos (starEach args env)) (backToKw pos (keywordEach [] env))=true:=by
  show((backTo pos (starEach args env)).all (fun x=>!x.1)&&([]:List (Option Str × Sem Value)).all (fun x=>x.1.isSome)&&decide (args.length+0+0<30))=true;rw[A7 hst]
  simpa using hl
 have hpos:methodCallPos true o env apos pos=pure pos:=by unfold methodCallPos;simp[hp]
 unfold methodCall;rw[hform];refine aH (wpAny_holding (wpAny_mono (h₁ _) (fun r s2 h2=>?_) fun _ _ e=>e));obtain⟨id,rfl,h2⟩:=h2;refine aH (wpAny_of_eq hpos ?_);exact Calls.callWith_builtin (di hst pos env) (bl hst h2)
theorem Im (hu:A.units+100<cLine)(hb:gS o=true)(hst:cC args=true)(hl:args.length<30)(hp:(apos.endLine==pos.line)=true)
  (ho:bq G A o env own O ρ a)(ha:mf G A args env own O ρ ds)(h:lg m a ds=some d):bq G A (.Call (.Attribute o m.name apos) args [] pos) env own O ρ d:=fun s I Q E q =>
 gh hb hst hl hp (ho s I _ _ fun u s1 x1 r1 pl=>Dy hu r1 h pl _ _ fun id hc=>⟨id,rfl,ha s1 pos (I.ext x1) _ _ fun vs s3 x3 r3=>hc s3 vs x3 r3 _ _ fun v s4 x4 r4=>q v s4 ((x1.trans x3).trans x4) r4⟩)
theorem BQ {x y z:Str}{k1 k2:Nat}{p1 p2 apos pos:Pos}(hb:gS o=true)(hp:(apos.endLine==pos.line)=true)(hyz:(y==z)=false)
  (ho:bq G A o env own O ρ (.str x))(h1:x.length+(x.length+1)*z.length<=16777216)(h2:sok (.str (Txt.replace x y z))=true) :
  bq G A (.Call (.Attribute o "replace" apos) [.Constant (.str y) k1 p1, .Constant (.str z) k2 p2] [] pos) env own O ρ (.str (Txt.replace x y z)):=fun s I Q E q =>
 gh hb rfl (show 2<30 by decide) hp (ho s I _ _ fun u s1 x1 r1 pl=>by
  obtain⟨t,rfl⟩:=r1.str_inv;refine GM.replace ⟨_,rfl, ?_⟩;show wpAny _ _ (spliced [(false,eval (.Constant (.str y) k1 p1) env),(false,eval (.Constant (.str z) k2 p2) env)]) _ _ _;refine spliced_cons (wpAny_Constant_str (spliced_cons (wpAny_Constant_str (spliced_nil ?_))));have hp:=x1.pos;have x2:Ext G s1 { s1 with toks:=s1.toks+1+1 }:=(Ext.refl x1.base hp).tok (Nat.succ_pos _);have S:dG G A O (call (.builtin "str.replace") [.str x t, .str y s1.toks, .str z (s1.toks+1)]) { s1 with toks:=s1.toks+1+1 } (.str (Txt.replace x y z)) :=
   dG.of0 x2.base x2.pos fun Q E q=>SC.replace (Nat.ne_of_gt hp) (Nat.succ_ne_zero _) (Nat.ne_of_lt (Nat.lt_succ_self _)) hyz h1 fun t' k=>q _ _ (.str h2)
  exact S _ _ fun v s3 x3 r3=>q v s3 ((x1.trans x2).trans x3) r3)
theorem nV (hk:env.kindOf "isinstance" = some .globalImplicit)(hk2:env.kindOf T=some .globalImplicit)(hs:aY a=true)
  (ha:bq G A a env own O ρ x)(h:(T = "bool" /\ ((∃c,x=.bool c/\b=true)\/(∃i,x=.int i/\b=false)))\/(T = "int" /\ b=true/\((∃c,x=.bool c)\/∃i,x=.int i))) :
  bq G A (.Call (.Name "isinstance" np) [a, .Name T tp] [] pos) env own O ρ (.bool b):=fun s I Q E q=>by
 have hm:("isinstance" : Str)∈bZ:=by decide +kernel
 refine wpAny_Call_Name_kw (dD I hk (g8 hm) (I.ok.nb _ hm) boot_isinstance (g9 hm) ?_);refine Calls.callWith_builtin (di (xs:=[a, .Name T tp]) (show(aY a&&(true&&true))=true by rw[hs];rfl) pos env) (bl (show(aY a&&(true&&true))=true by rw[hs];rfl) ?_);rw[cb hs];refine spliced_cons (ha s I _ _ fun v s1 x1 r1=>?_);have key:∀(T':String),T=Str.ofString T'->T∈bZ->bootBuiltins T=some (.type T')->dG G A O (call (.builtin "isinstance") [v, .type T']) s1 (.bool b) ->
   wpAny (bC G) A (spliced ((false,eval (.Name T tp) env)::[])) (fun vs s2=>wpAny (bC G) A (call (.builtin "isinstance") (v::vs)) Q E s2) E s1:=by
  intro T' _ hm' hb S;exact spliced_cons (dD (I.ext x1) hk2 (g8 hm') (I.ok.nb _ hm') hb (g9 hm') (spliced_nil (S _ _ fun v s2 x2 r2=>q v s2 (x1.trans x2) r2)))
 rcases h with⟨rfl,h⟩|⟨rfl,rfl,h⟩
 .refine key "bool" rfl (by decide +kernel) (by decide +kernel) ?_;rcases h with⟨c,rfl,rfl⟩|⟨i,rfl,rfl⟩
  .obtain rfl:=r1.bool_inv;exact dG.of0 x1.base x1.pos fun Q E q=>IsiPair.bool_bool (q _ s1.toks .bool)
  .obtain⟨t,rfl⟩:=r1.int_inv;exact dG.of0 x1.base x1.pos fun Q E q=>IsiPair.int_bool (q _ _ .bool)
 .refine key "int" rfl (by decide +kernel) (by decide +kernel) ?_;rcases h with⟨c,rfl⟩|⟨i,rfl⟩
  .obtain rfl:=r1.bool_inv;exact dG.of0 x1.base x1.pos fun Q E q=>IsiPair.bool_int (q _ s1.toks .bool)
  .obtain⟨t,rfl⟩:=r1.int_inv;exact dG.of0 x1.base x1.pos fun Q E q=>IsiPair.int_int (q _ s1.toks .bool)
end
end
section
section
variable {G:GC}{A:Around}{env:Env}{own:dM}{O:a9}{ρ:aF}{d:D}
noncomputable def rI (o:BoolOp)(b:Bool):Bool:=(o==.And&&!b) || (o==.Or&&b)
abbrev ua (G:GC)(A:Around)(o:BoolOp)(xs:dN)(env:Env)(own:dM)(O:a9)(ρ:aF)(d:D):Prop:=∀s pos,cV G A env own O ρ s->dG G A O (boolOp pos o (evalEach xs env)) s d
theorem Fx (h:ua G A o xs env own O ρ d):bq G A (.BoolOp o xs pos) env own O ρ d:=fun s I Q E q=>by rw[arm_eval_BoolOp];exact h s pos I Q E q
theorem FL (h:bq G A x env own O ρ d):ua G A o [x] env own O ρ d:=fun s pos I Q E q=>h s I Q E q
theorem BZ (hx:bq G A x env own O ρ a)(ht:dq a=some b)(h1:rI o b=true->a=d)(h2:rI o b=false->ua G A o (y::xs) env own O ρ d) :
  ua G A o (x::y::xs) env own O ρ d:=fun s pos I Q E q=>by
 show wpAny (bC G) A (boolOp pos o (eval x env::eval y env::evalEach xs env)) Q E s;refine aH (hx s I _ _ fun v s1 x1 r1=>aH (wpAny_standAt (aH (wpAny_holding (e7 x1.base x1.pos r1 ht _ _ fun s2 x2=>?_)))));have fin1:a=d->Q v s2:=fun e=>q v s2 (x1.trans x2) (e▸r1.keep x2.keep);have fin2:rI o b=false->wpAny (bC G) A (boolOp pos o (evalEach (y::xs) env)) Q E s2:=fun e=>h2 e s2 pos (I.ext (x1.trans x2)) _ _ fun v s3 x3 r3=>q v s3 ((x1.trans x2).trans x3) r3;cases o <;> cases b <;> first|exact bg (fin1 (h1 rfl))|exact fin2 rfl
def oT (G:GC)(A:Around)(env:Env)(own:dM)(O:a9)(ρ:aF)(o:BoolOp):dN->Bool->Prop
 |[],b=>b=(o==.And)
 |x::xs,b=>∃c,mn G A x env own O ρ c/\(rI o c=true->b=c)/\(rI o c=false->oT G A env own O ρ o xs b)
theorem BG:∀{xs:dN}{b:Bool},oT G A env own O ρ o xs b->∀s,cV G A env own O ρ s->wp G A (allTrue o xs env) s b
 |[],b,h,s,I,Q,E,q=>by have h:b=(o==.And):=h;subst h;exact bg (q s (.refl I.base I.pos))
 |x::xs,b,⟨c,h1,h2,h3⟩,s,I,Q,E,q=>by rw[arm_allTrue_cons];refine aH (h1 s I _ _ fun s1 x1=>?_);have fin1:b=c->Q c s1:=fun e=>e▸q s1 x1;have fin2:rI o c=false->wpAny (bC G) A (allTrue o xs env) Q E s1:=fun e=>BG (h3 e) s1 (I.ext x1) _ _ fun s2 x2=>q s2 (x1.trans x2);cases o <;> cases c <;> first|exact bg (fin1 (h2 rfl))|exact fin2 rfl
theorem qj {E:ba}{s:Shared}(h:Q false s):∀xs:dN,
  wpAny (bC G) A (forIn xs false fun c r=>if r=true then do let ok <- isTrue c env (eval c env);pure (ForInStep.yield ok)else pure (ForInStep.yield r)) Q E s
 |[]=>bg h
 |x::xs=>by rw[List.forIn_cons];exact aH (bg (qj h xs))
theorem v9:∀{xs:dN}{b:Bool},oT G A env own O ρ .And xs b->∀s,cV G A env own O ρ s ->
  wp G A (forIn xs true fun c r=>if r=true then do let ok <- isTrue c env (eval c env);pure (ForInStep.yield ok)else pure (ForInStep.yield r)) s b
 |[],b,h,s,I,Q,E,q=>by have h:b=true:=h;subst h;exact bg (q s (.refl I.base I.pos))
 |x::xs,b,⟨c,h1,h2,h3⟩,s,I,Q,E,q=>by
  rw[List.forIn_cons];refine aH ?_;rw[if_pos rfl];refine aH (h1 s I _ _ fun s1 x1=>bg ?_);cases c with
  |false=>exact qj (by have:=h2 rfl;subst this;exact q s1 x1) xs
  |true=>exact v9 (h3 rfl) s1 (I.ext x1) _ _ fun s2 x2=>q s2 (x1.trans x2)
theorem J0 (h:mn G A x env own O ρ b):mn G A (.UnaryOp .Not x pos) env own O ρ (!b):=fun s I Q E q=>by exact wpAny_isTrue_Not (h s I _ _ fun s1 x1=>q s1 x1)
theorem JY (h:oT G A env own O ρ o xs b):mn G A (.BoolOp o xs pos) env own O ρ b:=fun s I Q E q=>by exact wpAny_isTrue_BoolOp (BG h s I Q E q)
theorem EN (hc:mn G A c env own O ρ a)(hl:a=true->mn G A l env own O ρ b)(hr:a=false->mn G A r env own O ρ b):mn G A (.IfExp c l r pos) env own O ρ b:=fun s I Q E q=>by
 rw[arm_isTrue_IfExp];refine aH (hc s I _ _ fun s1 x1=>?_);cases a
 .exact hr rfl s1 (I.ext x1) _ _ fun s2 x2=>q s2 (x1.trans x2)
 .exact hl rfl s1 (I.ext x1) _ _ fun s2 x2=>q s2 (x1.trans x2)
theorem JZ (hu:A.units+100<cLine)(hm:behindInMarks o r=false)(hl:bq G A l env own O ρ a)(hr:bq G A r env own O ρ b)(h:bH o a b=some d)(ht:dq d=some c) :
  mn G A (.Compare l [o] [r] pos) env own O ρ c:=fun s I Q E q =>
 wpAny_isTrue_Compare1 (hl s I _ _ fun v s1 x1 r1=>hr s1 (I.ext x1) _ _ fun u s2 x2 r2=>mD x2.base x2.pos hu (r1.keep x2.keep) r2 h _ _ fun z s3 x3 r3=>e7 x3.base x3.pos r3 ht _ _ fun s4 x4=>q s4 (((x1.trans x2).trans x3).trans x4)) hm
def zy (e:Expr):Bool:=!(jS e fun o _ _=>DM o .Not true)&&!(e.ctorIdx==0)&&!(e.ctorIdx==5)&&!(e.ctorIdx==15)
set_option tactic.hygienic true in
theorem J1 (hp:zy x=true)(h:bq G A x env own O ρ d)(ht:dq d=some b):mn G A x env own O ρ b:=fun s I Q E q=>by
 refine wpAny_isTrue_value (h s I _ _ fun v s1 x1 r1=>e7 x1.base x1.pos r1 ht _ _ fun s2 x2=>q s2 (x1.trans x2)) ?_;cases x <;> first|rfl|(exact ff hp;done)|skip
 rename_i op _ _;cases op <;> first|rfl|exact ff hp
theorem Dq {xs:List D}{s:Shared}{Q:ba}{E:ba}(I:cV G A env own O ρ s)(hn:G.names[n]?=some x)(hk:env.kindOf x=some k)(hkk:k=.local\/k=.cell\/k=.free)
  (hx:(x==("__classdict__" : Str))=false) (hd:(x==("__debug__" : Str))=false) (ho:n∈own.ns)(hg:ρ.get n=some (.list xs))
  (q:∀a vs,own.at' n=some a->a∈O->xs.length<=16777216->s.heap.PlainList a vs->ak G.w O s.heap vs.toList xs->Q (.ref a) s):wpAny (bC G) A (eval (.Name x pos) env) Q E s:=by
 refine wpAny_Name (jN I hn hk hkk hx hg fun v r=>?_) hd;unfold cL at r;rw[if_pos ho]at r;rcases r with⟨a,vs,ys,y,rfl,m,e,z,l,r⟩|⟨_,_,_,_,e,_⟩
 case inr=>exact nomatch e
 cases e;exact q a vs y m z l r
theorem az.of_scalar (hs:kL d=true)(r:az w O h v d):az w O' h v d:=by
 rcases d with⟨⟩|⟨⟩ <;> first|exact absurd hs g6|skip
 .obtain rfl:=r.none_inv;exact .none
 .obtain rfl:=r.bool_inv;exact .bool
 .obtain⟨t,rfl⟩:=r.int_inv;exact .int
 .have:=r.sok;obtain⟨t,rfl⟩:=r.str_inv;exact .str this
theorem rE (z:xs.length<=16777216)(l:h.PlainList a vs)(r:ak w O h vs.toList xs):az w (O.filter (· != a)) h (.ref a) (.list xs):=
 .list_of z (by simp) l.isList (fun o e=>by obtain⟨n,e'⟩:=l;rw[e]at e';obtain rfl:=aG e';rfl) (r.sub fun b m=>(List.mem_filter.mp m).1)
end
end
section
section
variable {G:GC}{A:Around}{env:Env}{own:dM}{O:a9}{ρ:aF}{d:D}
structure ee (G:GC)(env:Env)(n:Nat)(x:Str):Prop where
 nm:G.names[n]?=some x
 kd:∃k,env.kindOf x=some k/\(k=.local\/k=.cell\/k=.free)
 h1:(x==("__classdict__" : Str))=false
 h2:(x==("__debug__" : Str))=false
theorem iM {xs:List D}{s:Shared}{Q:ba}{E:ba}(N:ee G env n x)(I:cV G A env own O ρ s)(ho:n∈own.ns)(hg:ρ.get n=some (.list xs))
  (q:∀a vs,own.at' n=some a->a∈O->xs.length<=16777216->s.heap.PlainList a vs->ak G.w O s.heap vs.toList xs->Q (.ref a) s):wpAny (bC G) A (eval (.Name x pos) env) Q E s:=by
 obtain⟨k,hk,hkk⟩:=N.kd;exact Dq I N.nm hk hkk N.h1 N.h2 ho hg q
theorem BP (N:ee G env n x)(ho:n∈own.ns)(hg:ρ.get n=some (.list xs))(hk:env.kindOf "len" = some .globalImplicit) :
  bq G A (.Call (.Name "len" np) [.Name x p2] [] pos) env own O ρ (.int xs.length):=fun s I Q E q=>by
 have hm:("len" : Str)∈bZ:=Bf.len.mem;refine wpAny_Call_Name_kw (dD I hk (g8 hm) (I.ok.nb _ hm) Bf.len.boot (g9 hm) ?_);refine Calls.callWith_builtin (di (xs:=[.Name x p2]) rfl pos env) (bl rfl ?_);show wpAny _ _ (spliced [(false,eval (.Name x p2) env)]) _ _ _;refine spliced_cons (iM N I ho hg fun a vs y m z l r=>spliced_nil ?_);have e:=r.length;simp only[i5]at e;have S:dG G A O (call (.builtin "len") [.ref a]) s (.int xs.length):=dG.of0 I.base I.pos fun Q E q=>len_list l.isList (by rw[e];lia) (by rw[e];exact q _ _ .int);exact S _ _ q
theorem Ed {xs:List D}{s:Shared}{Q:ba}{E:ba}(N:ee G env n x)(I:cV G A env own O ρ s)(ho:n∈own.ns)(hg:ρ.get n=some (.tuple xs))
  (q:∀a ss,a∉O->xs=ss.map .str->dz G.w s.heap a ss->ss.length<=4->(∀x∈ss,sok (.str x)=true)->Q (.ref a) s):wpAny (bC G) A (eval (.Name x pos) env) Q E s:=by
 obtain⟨k,hk,hkk⟩:=N.kd;refine wpAny_Name (jN I N.nm hk hkk N.h1 hg fun v r=>?_) N.h2;unfold cL at r;rw[if_pos ho]at r;rcases r with⟨_,_,_,_,_,_,e,_⟩|⟨a,ss,rfl,m,e,l,z1,z2⟩
 .exact nomatch e
 .exact q a ss m (PyData.tuple.inj e) l z1 z2
theorem BO (hs:gA slice=true)(N:ee G env n x)(ho:n∈own.ns)(hg:ρ.get n=some (.list xs))(hi:bq G A slice env own O ρ i)(h:jf (.list xs) i=some d) :
  bq G A (.Subscript (.Name x np) slice pos) env own O ρ d:=fun s I Q E q=>by
 refine Subscript_ (iM N I ho hg fun a vs y m z l r=>hi s I _ _ fun u s2 x2 r2=>?_);obtain⟨k,rfl,h⟩:=aU h;obtain⟨j,h1,h2⟩:=Option.bind_eq_some_iff.mp h;obtain⟨t,rfl⟩:=r2.int_inv;have e:=r.length;simp only[i5]at e;obtain⟨v,hv,rv⟩:=(r.keep x2.keep).get j _ h2;exact v6 hs (bj l x2.keep).isList (by lia) (by rw[e];exact h1) (by simpa using hv) (q v s2 x2 rv)
theorem z9 (F:oP G A cal){np yp pos:Pos}{args:dN}{xs ds:List D}(hn:G.names[f]?=some x)(hk:env.kindOf x=some .globalImplicit)(hd:(x==("__debug__" : Str))=false)
  (hst:cC args=true)(N:ee G env n y)(ho:n∈own.ns)(hg:ρ.get n=some (.list xs))(ha:mf G A args env own O ρ ds)(h:cal f (.list xs::ds)=some d)(hsc:kL d=true) :
  bq G A (.Call (.Name x np) (.Name y yp::args) [] pos) env own O ρ d:=fun s I Q E q=>by
 obtain⟨a,o,fd,h1,h2,h3,h4⟩:=F.go f x _ d hn h;refine wpAny_Call_Name_kw (jM I hk hd h1 ?_);refine callWith_function_kw (o:=o) (fd:=fd) (bl (xs:=.Name y yp::args) hst ?_);show wpAny _ _ (spliced ((false,eval (.Name y yp) env)::backTo pos (starEach args env))) _ _ _;refine spliced_cons (iM N I ho hg fun b vs y m z l r=>ha s pos I _ _ fun us s1 x1 r1=>⟨⟨x1.base.keep _ _ h2,h3⟩, ?_⟩);refine h4 (O.filter (· != b)) s1 _ x1.base x1.pos (fun c m=>(I.ext x1).ov c (List.mem_filter.mp m).1) (.cons (rE z (bj l x1.keep) (r.keep x1.keep)) (r1.sub fun c m=>(List.mem_filter.mp m).1)) _ _ fun v s2 x2 r2=>?_;exact q v s2 (x1.trans x2) (r2.of_scalar hsc)
theorem zv {xs:List D}{a:D}{s:Shared}{v:Value}{Q E:ba}(hu:A.units+100<cLine)(N:ee G env n y)(ho:n∈own.ns)(hg:ρ.get n=some (.list xs))(I:cV G A env own O ρ s)(r1:az G.w O s.heap v a)(h:bH o a (.list xs)=some d)(hs:kL d=true)
  (q:∀z s',Ext G s s'->az G.w O s'.heap z d->Q z s'):wpAny (bC G) A (eval (.Name y yp) env) (fun u s2=>wpAny (bC G) A (compareOp o v u) Q E s2) E s :=
 iM N I ho hg fun b vs _ m z l r=>mD (O:=O.filter (· != b)) I.base I.pos hu (r1.sub fun c m=>(List.mem_filter.mp m).1) (rE z l r) h _ _ fun z s3 x3 r3=>q z s3 x3 (r3.of_scalar hs)
theorem Value.isStrOf_refl (x:Str)(t:Tok):Value.isStrOf x (.str x t)=true:=by simp[Value.isStrOf]
theorem rk {K:Type}[DecidableEq K]:∀(more acc:List (K × Value)),((acc++more).map (·.1)).Nodup->merged acc more=acc++more
 |[],acc,_=>by simp[merged]
 |kv::more,acc,h=>by
  have e:stored acc kv.1 kv.2=acc++[kv]:=by
   delta stored
   rw[if_neg];intro c;obtain⟨q,hq,e⟩:=List.any_eq_true.mp c;have e:=bJ e;rw[List.map_append,List.nodup_append]at h;exact h.2.2 q.1 (List.mem_map_of_mem hq) kv.1 (by simp) e
  show merged (stored acc kv.1 kv.2) more=_;rw[e,rk more (acc++[kv]) (by simpa using h)];simp
def KV (p:Str × Str)(q:Str × Value):Prop:=q.1=p.1/\∃t,q.2=.str p.2 t
inductive HB:List (Str × Str)->List (Str × Value)->Prop
 |nil:HB [] []
 |cons {p q ps qs}:KV p q->HB ps qs->HB (p::ps) (q::qs)
theorem HB.keys (x:HB ps qs):qs.map (·.1)=ps.map (·.1):=by
 induction x with
 |nil=>rfl
 |cons h t ih=>rw[i8,i8,h.1,ih]
theorem xr:∀{keys:List (Option Expr)}{values:dN},(keys.length=kvs.length/\values.length=kvs.length/\∀i:Nat,∀p,kvs[i]?=some p->(∃k pp,keys[i]?=some (some (.Constant (.str p.1) k pp)))/\∃k pp,values[i]?=some (.Constant (.str p.2) k pp)) ->
  ∀pos:Pos,∃pairs:List (Sem Value × Sem Value),(evalEachOpt keys env).zip ((evalEach values env).map fun v=>do let x <- v;standAt pos;pure x)=pairs.map (fun p=>(some p.1,p.2))/\pairs.length=kvs.length /\
   ∀(s:Shared)(Q:List (Value × Value)->Shared->Prop)(E:ba),(∀vs qs tk,Carries (strKind G.prog G.w) vs qs->HB kvs qs->Q vs { s with toks:=tk })->wpAny (bC G) A (evalPairs pairs) Q E s:=by
 induction kvs with
 |nil =>
  intro keys values ⟨h1,h2,_⟩ pos;cases keys <;> cases values <;> simp at h1 h2;exact⟨[],rfl,rfl,fun s Q E q=>bg (q [] [] s.toks trivial .nil)⟩
 |cons p r ih =>
  intro keys values ⟨h1,h2,h3⟩ pos;cases keys with
  |nil=>simp at h1
  |cons ke keys =>
   cases values with
   |nil=>simp at h2
   |cons va values =>
    obtain⟨⟨k,pp,e1⟩,k',pp',e2⟩:=h3 0 p rfl;simp at e1 e2;subst e1 e2;obtain⟨pairs,g1,g2,g3⟩:=ih (keys:=keys) (values:=values) ⟨by simpa using h1,by simpa using h2,fun i q hq=>by simpa using h3 (i+1) q (by simpa using hq)⟩ pos;refine⟨(eval (.Constant (.str p.1) k pp) env,do let x <- eval (.Constant (.str p.2) k' pp') env;standAt pos;pure x)::pairs, ?_,by simp[g2],fun s Q E q=>?_⟩
    .show(some (eval (.Constant (.str p.1) k pp) env),_)::((evalEachOpt keys env).zip ((evalEach values env).map fun v=>do let x <- v;standAt pos;pure x))=_;rw[g1];rfl
    .skip
     refine aH (wpAny_Constant_str (aH (wpAny_holding (aH (wpAny_Constant_str (aH (wpAny_standAt (bg ?_))))))));refine aH (wpAny_holding (g3 _ _ _ fun vs qs tk c kv=>bg ?_));refine q _ ((p.1, .str p.2 (s.toks+1))::qs) tk ⟨?_,rfl,c⟩ (.cons ⟨rfl,_,rfl⟩ kv);exact Value.isStrOf_refl p.1 s.toks
def wG (kvs:List (Str × Str)):Bool:=decide ((kvs.map (·.1)).Nodup)&&decide (0<kvs.length)&&decide (kvs.length<=15)&&sok (.dict (kvs.map fun p=>(.str p.1, .str p.2)))
theorem nH (hp:Pairs (strKind prog w) es qs):∀{ps:List (Str × Str)},HB ps qs ->
  ReadsAll h (es.map (·.key)) (ps.map fun p=>.str p.1) []/\ReadsAll h (es.map (·.val)) (ps.map fun p=>.str p.2) []:=by
 induction hp with
 |nil=>intro ps kv;cases kv;exact⟨.nil, .nil⟩
 |cons h1 h2 h3 ih =>
  intro ps kv;cases kv with
  |cons k kv =>
   obtain⟨a,b⟩:=ih kv;obtain⟨u,hu⟩:=Value.isStrOf_shape h1;obtain⟨k1,t,k2⟩:=k;refine⟨?_, ?_⟩
   .rw[i8,i8,hu,k1];exact ReadsAll.cons (as:=[]) (.str _ _) a
   .rw[i8,i8,h2,k2];exact ReadsAll.cons (as:=[]) (.str _ _) b
theorem xq (hp:Pairs (strKind prog w) es qs):∀f∈es,∃q∈qs,Value.isStrOf q.1 f.key=true:=by
 induction hp with
 |nil=>intro f hf;cases hf
 |cons a b c ih =>
  intro f hf;rcases bA hf with rfl|hf
  .exact⟨_,dX,a⟩
  .obtain⟨q,m,y⟩:=ih f hf;exact⟨q,eh _ m,y⟩
theorem nG (hp:Pairs (strKind prog w) es qs):(qs.map (·.1)).Nodup->es.Pairwise fun e f=>∀x t u,e.key=.str x t->f.key≠.str x u:=by
 induction hp with
 |nil=>intro _;exact .nil
 |cons h1 h2 h3 ih =>
  intro hn;obtain⟨n1,n2⟩:=List.nodup_cons.mp hn;refine List.pairwise_cons.mpr ⟨fun f hf x t u ex fx=>n1 ?_,ih n2⟩;obtain⟨q,m,y⟩:=xq h3 f hf;have e1:=Value.isStrOf_inj _ _ x h1 (ex▸Value.isStrOf_refl _ _);have e2:q.1=x:=Value.isStrOf_inj f.key q.1 x y (fx▸Value.isStrOf_refl _ _);exact List.mem_map.mpr ⟨q,m,e2.trans e1.symm⟩
theorem BL (hs:keys.length=kvs.length/\values.length=kvs.length/\∀i:Nat,∀p,kvs[i]?=some p->(∃k pp,keys[i]?=some (some (.Constant (.str p.1) k pp)))/\∃k pp,values[i]?=some (.Constant (.str p.2) k pp))
  (hd:wG kvs=true):bq G A (.Dict keys values pos) env own O ρ (.dict (kvs.map fun p=>(.str p.1, .str p.2))):=fun s I Q E q=>by
 delta wG at hd
 simp only[eO,jE]at hd;obtain⟨⟨⟨d1,d2⟩,d3⟩,d4⟩:=hd;obtain⟨pairs,g1,g2,g3⟩:=xr (G:=G) (A:=A) (env:=env) hs pos;refine wpAny_with_toks (n:=1) I.pos (wpAny_Dict_pairs (knd:=strKind G.prog G.w) g1 (fun e=>by rw[e]at g2;simp at g2;lia) (by lia) (g3 _ _ _ fun vs qs tk c kv=>⟨qs,c, ?_,fun h' hm hs'=>?_⟩))
 .exact⟨_,_,_,iV _ rfl,⟨rfl,rfl,rfl⟩,rfl,fun e he=>by simp at he, .nil,by simp⟩
 .intro p';have hn:(qs.map (·.1)).Nodup:=by rw[kv.keys];exact d1
  rw[rk qs [] (by simpa using hn),List.nil_append]at hm;obtain⟨o,es,ep,e1,e2,e3,e4,e5,e6⟩:=hm;have hk:∀b o,s.heap.get? b=some o->h'.get? b=some o:=fun b o e=>hs'.extBut b o (fun e'=>by rw[e',aD]at e;exact nn e) (gv _ e);have ex:Ext G s { s with heap:=h',toks:=tk+vs.length }:=.all I.base hk p';refine q _ _ ex ?_;obtain⟨r1,r2⟩:=nH (h:=h') e5 kv;have rd:Reads h' (.ref s.heap.objs.size) (.dict (kvs.map fun p=>(.str p.1, .str p.2))) (s.heap.objs.size::[]++[]):=by
   refine .dict e1 e2.1 e3 ?_ ?_
   .rw[kR];exact r1
   .rw[kR];exact r2
  refine⟨_,rd,fun a m=>?_,d4⟩;rcases bA m with rfl|m
  .refine⟨I.ov.new (aD _),fun o' e'=>?_⟩;rw[e1]at e';obtain rfl:=aG e';refine⟨e2.2.1,fun es' n' q'=>?_⟩;rw[e3]at q';cases q';refine⟨?_,e2,fun e he=>?_,nG e5 hn⟩
   .obtain⟨om,_,_,em,_⟩:=I.ok.g;have:mainGlobals<s.heap.objs.size:=Heap.lt_size (I.base.keep _ _ em);have h1:sysModules<mainGlobals:=by decide
    refine beq_eq_false_iff_ne.mpr fun e=>?_;have h2:sysModules<s.heap.objs.size:=Nat.lt_trans h1 this;rw[<- e]at h2;exact Nat.lt_irrefl _ h2
   .obtain⟨k,k1,k2⟩:=e4 e (Array.mem_toList_iff.mp he);obtain⟨t,ht⟩:=Value.isStrOf_shape k1;exact⟨k,t,ht,k2⟩
  .simp at m
end
end
section
section
variable {G:GC}{A:Around}{env:Env}{own:dM}{O:a9}{ρ:aF}{d:D}
theorem jP (h:G.names.Nodup){n m:Nat}{x:Str}(h1:G.names[n]?=some x)(h2:G.names[m]?=some x):n=m:=by obtain⟨l1,e1⟩:=List.getElem?_eq_some_iff.mp h1;exact(List.getElem?_inj l1 h).mp (h1.trans h2.symm)
theorem dY (h:o.data=.dict es ep):HD o:=⟨fun xs n _ e=>(by rw[h]at e;cases e),fun vs _ e=>(by rw[h]at e;cases e)⟩
theorem lB (h:o.data=.cell v):HD o:=⟨fun xs n _ e=>(by rw[h]at e;cases e),fun vs _ e=>(by rw[h]at e;cases e)⟩
theorem ik (h:o.data=.seq vs n)(hc:o.cls=.type "list"):HD o:=⟨fun xs n e _=>(by rw[hc]at e;exact absurd (Value.type.inj e) (by decide)),fun vs _ e=>(by rw[h]at e;cases e)⟩
theorem Jh (h:nc o):HD o:=by obtain⟨⟨vs,h1⟩,h2,h3,_⟩:=h;exact⟨fun xs n _ e=>(by rw[h1]at e;cases e),fun vs e _=>e.elim h2 h3⟩
theorem aQ (hs:Heap.SameBut a h h'):∀b o,b∉[a]->h.get? b=some o->h'.get? b=some o:=fun b o m e=>hs.extBut b o (fun q=>m (by simp[q])) e
theorem cY (k:∀b o,b∉W->h.get? b=some o->h'.get? b=some o):aL W h h':=fun b o m e _=>k b o m e
theorem dH.but (x:dH O h)(k:aL W h h')(n:∀a∈W,∃o,h'.get? a=some o/\gq o):dH O h':=fun a m=>by
 by_cases c:a∈W
 .exact n a c
 .obtain⟨o,e,q⟩:=x a m;exact⟨o,k a o c e q,q⟩
theorem d5 {k:NameKind}{v:Value}{s:Shared}{W:a9}(I:cV G A env own O ρ s)(nm:G.names[n]?=some x)(hk:env.kindOf x=some k)(hkk:k=.local\/k=.cell)(r:cL G.w own n O s.heap v d)
  (hW:env.locals∈W/\(env.kindOf x=some .cell->∀c,env.cells.lookup x=some c->c∈W)){Q:Unit->Shared->Prop}{E:ba}(q:∀s',bI G W s s'->(∀vs ds,ak G.w O s.heap vs ds->ak G.w O s'.heap vs ds)->cV G A env own O (ρ.set n d) s'->Q () s'):wpAny (bC G) A₂ (storeName env x v) Q E s:=by
 obtain⟨m,hm,hmv⟩:=I.envr.ns;have hi:∀{n' y},G.names[n']?=some y->y=x->n'=n:=fun h e=>jP I.ok.nd (e▸h) nm;have plain_ne:∀{a b vs},s.heap.PlainList a vs->(∃o,s.heap.get? b=some o/\∀vs n,o.data≠.seq vs n)->a∉[b]:=by
  intro a b vs ⟨n,e⟩ ⟨o,e',h⟩ m;rcases aS m with rfl
  rw[e]at e';obtain rfl:=aG e';exact h _ _ rfl
 rcases hkk with rfl|rfl
 .refine wpAny_storeName_local hk hm (fun h' hn' hs'=>?_) (by rw[I.envr.fn];rfl);obtain⟨ol,es,ep,e1,e2,_⟩:=id hm;have ht:bD O [env.locals] s.heap:=fun a ma o e=>by
   rcases aS ma with rfl
   rw[e1]at e;obtain rfl:=aG e;exact⟨dY e2,fun _=>I.envr.lin⟩
  have hkb:aL [env.locals] s.heap h':=cY (aQ hs');have B:a5 G h':=I.base.but (aQ hs') (fun a ma=>by rcases aS ma with rfl;exact I.envr.lfr) fun a ma o e=>(ht a ma o e).1;have ov:dH O h':=I.ov.but hkb fun a ma=>by
   rcases aS ma with rfl
   obtain⟨o,es,ep,e1,e2,_⟩:=hn';exact⟨o,e1, .inr fun vs q=>by rw[e2]at q;cases q⟩
  have hp:∀n a vs,own.at' n=some a->s.heap.PlainList a vs->a∉[env.locals]:=fun n a vs _ l=>plain_ne l ⟨ol,e1,fun vs n q=>by rw[e2]at q;cases q⟩;have cells_ne:∀{c v},s.heap.IsCell c v->c∉[env.locals]:=fun{c v} ⟨o,e,dd⟩ m=>by
   rcases aS m with rfl
   rw[e1]at e;obtain rfl:=aG e;rw[e2]at dd;cases dd
  refine q _ ⟨⟨rfl,rfl⟩,hkb.mono fun a ma=>?_,B,Nat.succ_pos _,fun b mb e=>bw (fun o q=>aQ hs' b o (fun mm=>by rcases aS mm with rfl;exact mb hW.1) q) e⟩ (fun vs ds r=>r.but hkb ht) ⟨I.ok,I.hh,B,Nat.succ_pos _,ov,⟨I.envr.fn,I.envr.gl,I.envr.bi,I.envr.lin,I.envr.lfr,I.envr.oin,I.envr.cin,I.envr.inj, ?_,⟨_,hn', ?_⟩, ?_⟩⟩
  .rcases aS ma with rfl;exact hW.1
  .intro y hy;obtain⟨c,v',e,qc⟩:=I.envr.ce y hy;exact⟨c,v',e,hkb.cell (cells_ne qc) qc⟩
  .intro n' y d' h1 h2 h3;rw[aF.get_set]at h3;by_cases hy:y=x
   .have:=hi h1 hy;subst this;rw[if_pos rfl]at h3;obtain rfl:=aG h3;exact⟨v,by simp[hy],r.but hkb ht (hp _)⟩
   .rw[if_neg (fun e=>hy (by rw[e,nm]at h1;exact(aG h1).symm))]at h3;obtain⟨v',e,r'⟩:=hmv n' y d' h1 h2 h3;exact⟨v',by simp[hy,e],r'.but hkb ht (hp _)⟩
  .intro n' y d' h1 h2 h3;have hy:y≠x:=fun e=>by rw[e,hk]at h2;rcases h2 with h2|h2 <;> cases h2
   rw[aF.get_set,if_neg (fun e=>hy (by rw[e,nm]at h1;exact(aG h1).symm))]at h3;obtain⟨c,v',e,qc,r'⟩:=I.envr.cl n' y d' h1 h2 h3;exact⟨c,v',e,hkb.cell (cells_ne qc) qc,r'.but hkb ht (hp _)⟩
 .obtain⟨c,v0,hc,hq⟩:=I.envr.ce x (.inl hk);refine wpAny_storeName_cell I.envr.fn hk hc hq fun h' hn' hs'=>?_;obtain⟨oc,e1,e2⟩:=id hq;have ht:bD O [c] s.heap:=fun a ma o e=>by
   rcases aS ma with rfl
   rw[e1]at e;obtain rfl:=aG e;exact⟨lB e2,fun _=>(I.envr.cin _ _ hc).1⟩
  have hkb:aL [c] s.heap h':=cY (aQ hs');have B:a5 G h':=I.base.but (aQ hs') (fun a ma=>by rcases aS ma with rfl;exact(I.envr.cin _ _ hc).2) fun a ma o e=>(ht a ma o e).1;have ov:dH O h':=I.ov.but hkb fun a ma=>by
   rcases aS ma with rfl
   obtain⟨o,e1,e2⟩:=hn';exact⟨o,e1, .inr fun vs q=>by rw[e2]at q;cases q⟩
  have hp:∀n a vs,own.at' n=some a->s.heap.PlainList a vs->a∉[c]:=fun n a vs _ l=>plain_ne l ⟨oc,e1,fun vs n q=>by rw[e2]at q;cases q⟩;have loc_ne:env.locals∉[c]:=fun ma=>by
   rcases aS ma with e
   obtain⟨o,es,ep,e3,e4,_⟩:=hm;rw[e,e1]at e3;obtain rfl:=aG e3;rw[e2]at e4;cases e4
  refine q _ ⟨⟨rfl,rfl⟩,hkb.mono fun a ma=>?_,B,I.pos,fun b mb e=>bw (fun o q=>aQ hs' b o (fun mm=>by rcases aS mm with rfl;exact mb (hW.2 hk _ hc)) q) e⟩ (fun vs ds r=>r.but hkb ht) ⟨I.ok,I.hh,B,I.pos,ov,⟨I.envr.fn,I.envr.gl,I.envr.bi,I.envr.lin,I.envr.lfr,I.envr.oin,I.envr.cin,I.envr.inj, ?_,⟨m,hkb.ns loc_ne hm, ?_⟩, ?_⟩⟩
  .rcases aS ma with rfl;exact hW.2 hk _ hc
  .intro y hy;obtain⟨c',v',e,qc⟩:=I.envr.ce y hy;by_cases hcc:c'=c
   .subst hcc;exact⟨_,_,e,hn'⟩
   .exact⟨c',v',e,hkb.cell (by simpa using hcc) qc⟩
  .intro n' y d' h1 h2 h3;have hy:y≠x:=fun e=>by rw[e,hk]at h2;cases h2
   rw[aF.get_set,if_neg (fun e=>hy (by rw[e,nm]at h1;exact(aG h1).symm))]at h3;obtain⟨v',e,r'⟩:=hmv n' y d' h1 h2 h3;exact⟨v',e,r'.but hkb ht (hp _)⟩
  .intro n' y d' h1 h2 h3;rw[aF.get_set]at h3;by_cases hy:y=x
   .have:=hi h1 hy;subst this;rw[if_pos rfl]at h3;obtain rfl:=aG h3;exact⟨c,v,hy▸hc,hn',r.but hkb ht (hp _)⟩
   .rw[if_neg (fun e=>hy (by rw[e,nm]at h1;exact(aG h1).symm))]at h3;obtain⟨c',v',e,qc,r'⟩:=I.envr.cl n' y d' h1 h2 h3;have hcc:c'∉[c]:=fun ma=>by
     rcases aS ma with rfl
     exact hy (I.envr.inj _ _ _ e hc)
    exact⟨c',v',e,hkb.cell hcc qc,r'.but hkb ht (hp _)⟩
inductive oS (G:GC)(env:Env)(own:dM):dN->aN->Prop
 |nil:oS G env own [] []
 |cons {x pos n k es ns}:G.names[n]?=some x->env.kindOf x=some k->(k=.local\/k=.cell)->n∉own.ns->oS G env own es ns->oS G env own (.Name x pos::es) (n::ns)
def Ij (env:Env)(G:GC)(W:a9)(ns:aN):Prop:=env.locals∈W/\∀n∈ns,∀x c,G.names[n]?=some x->env.kindOf x=some .cell->env.cells.lookup x=some c->c∈W
theorem gX (hn:n∉own.ns)(r:az w O h v d):cL w own n O h v d:=by unfold cL;rw[if_neg hn];exact r
theorem ng (I:cV G A env own O ρ s)(nm:G.names[n]?=some x)(hk:env.kindOf x=some k)(hkk:k=.local\/k=.cell)(hno:n∉own.ns)(r:az G.w O s.heap v d)
  (hW:Ij env G W [n]){Q:Unit->Shared->Prop}{E:ba}(q:∀s',bI G W s s'->(∀vs ds,ak G.w O s.heap vs ds->ak G.w O s'.heap vs ds)->cV G A env own O (ρ.set n d) s'->Q () s'):wpAny (bC G) A (assign (.Name x pos) env v) Q E s :=
 wpAny_assign_Name (d5 I nm hk hkk (gX hno r) ⟨hW.1,fun hk c hc=>hW.2 n (by simp) x c nm hk hc⟩ q)
theorem wt:∀{es:dN}{ns:aN},oS G env own es ns->∀{ρ:aF}{vs:fO}{ds:List D}{s:Shared},cV G A env own O ρ s->ak G.w O s.heap vs ds->ds.length=ns.length->Ij env G W ns ->
  ∀{Q:Unit->Shared->Prop}{E:ba},(∀s',bI G W s s'->(∀vs ds,ak G.w O s.heap vs ds->ak G.w O s'.heap vs ds)->cV G A env own O (bF ρ ns ds) s'->Q () s') ->
  wpAny (bC G) A (assignInOrder ((assignEach es env).map (·.2)) vs) Q E s:=by
 intro es ns h
 induction h with
 |nil =>
  intro ρ vs ds s I r hl hW Q E q;obtain rfl:ds=[]:=List.length_eq_zero_iff.mp hl;exact assignInOrder_nil (q s (.refl I.base I.pos) (fun _ _ r=>r) I)
 |cons h1 h2 h3 h4 h5 ih =>
  intro ρ vs ds s I r hl hW Q E q;cases ds with
  |nil=>simp at hl
  |cons d ds =>
   obtain⟨v,vs,rfl,r1,r2⟩:=r.cons_inv;refine assignInOrder_cons (ng (W:=W) I h1 h2 h3 h4 r1 ⟨hW.1,fun m hm=>hW.2 m (by rcases aS hm with rfl;simp)⟩ fun s1 x1 k1 I1=>?_);exact ih I1 (k1 _ _ r2) (by simpa using hl) ⟨hW.1,fun m hm=>hW.2 m (eh _ hm)⟩ fun s2 x2 k2 I2=>q s2 (x1.trans x2) (fun vs ds r=>k2 _ _ (k1 _ _ r)) I2
inductive cN (G:GC)(env:Env)(own:dM):Expr->aN->Prop
 |name {x pos n}:oS G env own [.Name x pos] [n]->cN G env own (.Name x pos) [n]
 |tup {es k pos ns}:oS G env own es ns->2<=ns.length->cN G env own (.Tuple es k pos) ns
set_option tactic.hygienic true in
theorem EH (h:oS G env own es ns):(assignEach es env).length=ns.length/\(assignEach es env).findIdx? (·.1)=none:=by
 induction h with
 |nil=>exact⟨rfl,rfl⟩
 |cons h1 h2 h3 h4 h5 ih =>
  rename_i x pos n k es ns;have e:assignEach (.Name x pos::es) env=(false,assign (.Name x pos) env)::assignEach es env:=rfl;rw[e];refine⟨by simp[ih.1], ?_⟩;rw[List.findIdx?_cons,ih.2];rfl
set_option tactic.hygienic true in
theorem fB (h:cN G env own tg ns)(I:cV G A env own O ρ s)(r:az G.w O s.heap v d)(hb:bx ρ ns d=some ρ')(hW:Ij env G W ns)
  {Q:Unit->Shared->Prop}{E:ba}(q:∀s',bI G W s s'->(∀vs ds,ak G.w O s.heap vs ds->ak G.w O s'.heap vs ds)->cV G A env own O ρ' s'->Q () s'):wpAny (bC G) A (assign tg env v) Q E s:=by
 cases h with
 |name h =>
  cases h with
  |cons h1 h2 h3 h4 h5 => 
   have hb:some (aF.set ρ _ d)=some ρ':=hb;obtain rfl:=aG hb;exact ng I h1 h2 h3 h4 r hW q
 |tup h h2 =>
  rename_i es k pos;have key:∃xs,d=.tuple xs/\xs.length=ns.length/\ρ'=bF ρ ns xs:=by
   rcases qL hb with⟨n,_,_⟩|⟨_,xs,_,hl,e⟩
   .simp at h2
   .exact⟨xs,rfl,hl,e⟩
  obtain⟨xs,rfl,hl,rfl⟩:=key;obtain⟨a,vs,rfl,lt,rr⟩:=r.tuple_inv;have e:=rr.length;simp only[i5]at e;refine wpAny_assign_Tuple I.hh lt ((EH h).1.trans (hl.symm.trans e.symm)) (EH h).2 fun h' hk=>?_;have hk':∀b o,s.heap.get? b=some o->h'.get? b=some o:=fun b o e=>hk b o (fun q=>by rw[q,aD]at e;exact nn e) e;have x0:Ext G s { s with heap:=h' }:=.all (t:=s.toks) I.base hk' I.pos;refine wt h (I.ext x0) (rr.keep x0.keep) hl hW fun s1 x1 k1 I1=>q s1 (x0.sext.trans x1) (fun vs ds r=>k1 _ _ (r.keep x0.keep)) I1
end
end
section
theorem iB (f:Str × NameKind->List (Str × Addr)->Sem (ForInStep (List (Str × Addr))))
  (hf:∀name kind cells,f (name,kind) cells=if kind==.free then(do let a <- cellOf env name;pure (.yield ((name,a)::cells)))else pure (.yield cells)) :
  ∀(names:List (Str × NameKind))(acc:List (Str × Addr)),(∀p∈names,p.2=.free->∃c,env.cells.lookup p.1=some c) ->
   ∃cl,forIn names acc f=pure cl/\(∀p∈cl,p∈acc\/(env.cells.lookup p.1=some p.2/\(p.1, .free)∈names))/\(∀p∈acc,p∈cl)/\∀p∈names,p.2=.free->∃c,(p.1,c)∈cl
 |[],acc,_=>⟨acc,by rw[List.forIn_nil],fun p m=>.inl m,fun p m=>m,by simp⟩
 |(name,kind)::r,acc,h=>by
  rw[List.forIn_cons,hf];by_cases hk:kind=.free
  .subst hk;obtain⟨c,hc⟩:=h (name, .free) dX rfl;have e:cellOf env name=pure c:=by unfold cellOf;rw[hc]
   obtain⟨cl,e1,e2,e3,e4⟩:=iB f hf r ((name,c)::acc) fun p m=>h p (eh _ m);refine⟨cl, ?_,fun p m=>?_,fun p m=>e3 p (eh _ m),fun p m hp=>?_⟩
   .simp -iota only[beq_self_eq_true,if_true,e,pure_bind];exact e1
   .rcases e2 p m with m|m
    .rcases bA m with rfl|m
     .exact .inr ⟨hc,dX⟩
     .exact .inl m
    .exact .inr ⟨m.1,eh _ m.2⟩
   .rcases bA m with rfl|m
    .exact⟨c,e3 _ dX⟩
    .exact e4 p m hp
  .obtain⟨cl,e1,e2,e3,e4⟩:=iB f hf r acc fun p m=>h p (eh _ m);refine⟨cl, ?_,fun p m=>(e2 p m).imp id fun q=>⟨q.1,eh _ q.2⟩,e3,fun p m hp=>?_⟩
   .have:(kind==NameKind.free)=false:=by simpa using hk
    simp -iota only[this,Bool.false_eq_true,if_false,pure_bind];exact e1
   .rcases bA m with rfl|m
    .exact absurd hp hk
    .exact e4 p m hp
theorem wC (h:∀p∈scope.names,p.2=.free->∃c,env.cells.lookup p.1=some c) :
  ∃cl,closureFor scope env=pure cl/\(∀p∈cl,env.cells.lookup p.1=some p.2/\(p.1, .free)∈scope.names)/\∀p∈scope.names,p.2=.free->∃c,(p.1,c)∈cl:=by
 obtain⟨cl,e1,e2,e3,e4⟩:=iB (env:=env) (fun x cells=>if x.2==.free then(do let a <- cellOf env x.1;pure (.yield ((x.1,a)::cells)))else pure (.yield cells)) (fun _ _ _=>rfl) scope.names [] h;refine⟨cl, ?_,fun p m=>by rcases e2 p m with m|m;cases m;exact m,e4⟩;unfold closureFor;rw[<- bind_pure (forIn scope.names [] _)]at e1;rw[<- e1]
theorem bX:∀(names:List (Str × NameKind))(n:Nat) (acc:List (Str × Addr)),cellsFrom n names acc=cellsFrom n names []++acc
 |[],n,acc=>rfl
 |(name,kind)::r,n,acc=>by
  unfold cellsFrom;split
  .rw[bX r (n+1) ((name,n)::acc),bX r (n+1) [(name,n)]];simp
  .exact bX r n acc
set_option tactic.hygienic true in
theorem dU:∀(names:List (Str × NameKind))(n:Nat) (x:Str)(c:Addr),(x,c)∈cellsFrom n names []->(x, .cell)∈names/\n<=c
 |[],n,x,c,m=>by cases m
 |(name,kind)::r,n,x,c,m=>by
  unfold cellsFrom at m;split at m
  .rename_i hk;rw[bX]at m;rcases cy m with m|m
   .obtain⟨a,b⟩:=dU r (n+1) x c m;exact⟨eh _ a,Nat.le_of_succ_le b⟩
   .rcases aS m with e
    cases e;exact⟨by rw[eM hk];exact dX,fc _⟩
  .obtain⟨a,b⟩:=dU r n x c m;exact⟨eh _ a,b⟩
set_option tactic.hygienic true in
theorem bT:∀(names:List (Str × NameKind))(n:Nat) (x:Str),(x, .cell)∈names->∃c,(x,c)∈cellsFrom n names []
 |[],n,x,m=>by cases m
 |(name,kind)::r,n,x,m=>by
  unfold cellsFrom;split
  .rename_i hk;rw[bX];rcases bA m with e|m
   .cases e;exact⟨n,hJ _ (by simp)⟩
   .obtain⟨c,hc⟩:=bT r (n+1) x m;exact⟨c,ij _ hc⟩
  .rename_i hk;rcases bA m with e|m
   .cases e;exact absurd (by rfl:(NameKind.cell==NameKind.cell)=true) hk
   .exact bT r n x m
theorem bU:∀{l:List (Str × α)}{n:Str}{c:α},(n,c)∈l->∃c',l.lookup n=some c'
 |(k,v)::r,n,c,h=>by
  rw[List.lookup_cons];cases hb:n==k with
  |true=>exact⟨_,rfl⟩
  |false =>
   rcases bA h with e|h
   .cases e;simp at hb
   .exact bU h
theorem uu {E:ba}{s:Shared}{scope:Scope}{globals:Addr}{cl:List (Str × Addr)}{qual:Str}{outer:Env}{Q:Env->Shared->Prop}
  (q:Q { scope:=scope,locals:=s.heap.objs.size,globals:=globals,cells:=cellsFrom (s.heap.objs.size+1) scope.names cl,qual:=qual,func:=none,code:=outer.code,frame:=outer.frame,builtins:=outer.builtins }
   { s with heap:=pushCells (s.heap.push { cls:=.type "dict",data:=.dict #[] }) scope.names }) :
  wpAny M A (newFunctionEnv scope globals cl [] qual none .none (some outer)) Q E s:=by
 simp only[newFunctionEnv,Option.isSome_some,if_true];refine aH (wpAny_alloc ?_);refine aH (wpAny_layCells _ (fun name kind cells=>by cases hkc:kind==NameKind.cell <;> simp[hkc]) _ _ _ _ ?_);rw[show({ s with heap:=s.heap.push { cls:=.type "dict",data:=.dict #[] } }:Shared).heap.objs.size=s.heap.objs.size+1 from Heap.size_push ..];exact aH (bg (bg q))
noncomputable def hG (names sc:List (Str × NameKind)):List (Str × NameKind):=names.map fun p=>if p.2==.free&&sc.lookup p.1==some .cell then(p.1, .cell)else p
theorem fE (h:env.scope.kind=.function):(relabel scope env).names=hG scope.names env.scope.names:=by unfold relabel hG;dsimp only;refine List.map_congr_left fun p _=>?_;obtain⟨n,k⟩:=p;dsimp only;rw[h];simp[Env.kindOf]
theorem gV (sc:List (Str × NameKind))(x:Str):∀names:List (Str × NameKind),(hG names sc).lookup x=(names.lookup x).map fun k=>if k==.free&&sc.lookup x==some .cell then .cell else k
 |[]=>rfl
 |(n,k)::r=>by
  show List.lookup x ((if k==.free&&sc.lookup n==some .cell then(n,NameKind.cell)else(n,k))::hG r sc)=_;have ih:=gV sc x r;by_cases c:x=n
  .subst c;by_cases c2:(k==.free&&sc.lookup x==some .cell)=true
   .rw[if_pos c2,List.lookup_cons_self,List.lookup_cons_self];show _=some (if _ then _ else _);rw[if_pos c2]
   .rw[if_neg c2,List.lookup_cons_self,List.lookup_cons_self];show _=some (if _ then _ else _);rw[if_neg c2]
  .have hb:(x==n)=false:=by simpa using c
   by_cases c2:(k==.free&&sc.lookup n==some .cell)=true
   .rw[if_pos c2];simp[List.lookup_cons,hb,ih]
   .rw[if_neg c2];simp[List.lookup_cons,hb,ih]
noncomputable def I0 (nm:List Str)(T:aN)(x:Str):Bool:=T.any fun n=>nm[n]?==some x
def eX (nm:List Str)(sc names:List (Str × NameKind))(T:aN)(p:Str × NameKind):Bool:=match p.2 with
 |.free=>sc.lookup p.1==some .cell || sc.lookup p.1==some .free
 |.local=>names.lookup p.1==some .local&&(p.1==(".0" : Str) || I0 nm T p.1)
 |.cell=>names.lookup p.1==some .cell&&I0 nm T p.1
 |_=>true
def d9 (nm:List Str)(sc names:List (Str × NameKind))(T:aN):Bool:=names.all (eX nm sc names T)&&!nm.contains (".0" : Str)
theorem aF.get_del (ρ:aF)(T:aN)(n:Nat):(aF.del ρ T).get n=if T.contains n then none else ρ.get n:=by
 induction ρ with
 |nil=>simp[aF.del,aF.get]
 |cons p r ih =>
  unfold aF.del at *;rw[List.filter_cons];by_cases c:T.contains p.1=true
  .simp only[c,Bool.not_true,Bool.false_eq_true,if_false];rw[ih,aF.get_cons];by_cases e:n=p.1
   .subst e;simp only[c,if_true]
   .simp[e]
  .have c':T.contains p.1=false:=by simpa using c
   simp only[c',Bool.not_false,if_true];rw[aF.get_cons,ih,aF.get_cons];by_cases e:n=p.1
   .subst e;simp only[c',if_true];simp
   .simp[e]
section
variable {G:GC}{A:Around}{env:Env}{own:dM}{O:a9}{ρ:aF}{d:D}
theorem az.news:∀{N:a9},az w O h v d->(∀a∈N,h.get? a=Option.none)->az w (N++O) h v d
 |[],r,_=>r
 |a::N,r,k=>(r.news (N:=N) fun b m=>k b (eh _ m)).new (k a dX)
theorem ak.news:∀{N:a9},ak w O h vs ds->(∀a∈N,h.get? a=Option.none)->ak w (N++O) h vs ds
 |[],r,_=>r
 |a::N,r,k=>(r.news (N:=N) fun b m=>k b (eh _ m)).new (k a dX)
set_option tactic.hygienic true in
theorem cL.news (r:cL w own n O h v d)(k:∀a∈N,h.get? a=none):cL w own n (N++O) h v d:=by
 unfold cL at *;split at r
 .rename_i q;rw[if_pos q];rcases r with⟨a,vs,xs,y,e,m,q,z,l,r⟩|⟨a,ss,e,m,q,l,z⟩
  .exact .inl ⟨a,vs,xs,y,e,hJ _ m,q,z,l,r.news k⟩
  .obtain⟨o,ho,_⟩:=l.obj;exact .inr ⟨a,ss,e,fun mm=>(cy mm).elim (fun mm=>by rw[k a mm]at ho;exact nn ho) m,q,l,z⟩
 .rename_i q;rw[if_neg q];exact r.news k
theorem gR {h:Heap}(q:h.objs.size<=a):h.get? a=none:=by
 cases e:h.get? a with
 |none=>rfl
 |some o=>exact absurd (Heap.lt_size e) (Nat.not_lt.mpr q)
theorem Ai {scope:Scope}{D:Addr}{h3 h4:Heap}{cenv:Env}(I:cV G A env own O ρ s)(hs:d9 G.names env.scope.names scope.names T=true)(hk:scope.kind=.function)
  (cl1:∀p∈cl,env.cells.lookup p.1=some p.2/\(p.1, .free)∈scope.names)(cl2:∀p∈scope.names,p.2=.free->∃c,(p.1,c)∈cl)
  (hD:s.heap.get? D=none)(k3:∀b o,s.heap.get? b=some o->h3.get? b=some o)(hD3:D<h3.objs.size)(hle:s.heap.objs.size<=h3.objs.size)(e4:h4=pushCells (h3.push { cls:=.type "dict",data:=.dict #[] }) scope.names)
  (hc:cenv.scope=relabel scope env/\cenv.locals=h3.objs.size/\cenv.globals=env.globals/\cenv.cells=cellsFrom (h3.objs.size+1) scope.names cl/\cenv.builtins=env.builtins) :
  ∃N:a9,(∀a∈N,h3.objs.size<=a)/\h3.objs.size∈N /\
   (∀x c,(x, .cell)∈scope.names->cenv.cells.lookup x=some c->c∈N) /\ 
   gM G cenv own (N++D::O) (ρ.del T) h4/\h4.Ns h3.objs.size (fun _=>none)/\(∀x c,cenv.cells.lookup x=some c->c≠D)/\(∀a∈N,∃o,h4.get? a=some o/\gq o):=by
 obtain⟨c1,c2,c3,c4,c5⟩:=hc;have k4:∀b o,h3.get? b=some o->h4.get? b=some o:=fun b o e=>by rw[e4];exact pushCells_keeps _ _ _ _ (gv _ e)
 have ok:=cellsFrom_ok scope.names (h3.push { cls:=.type "dict",data:=.dict #[] }) (h3.objs.size+1) [] ⟨fun _ _ hm=>(nomatch hm),List.Pairwise.nil⟩ (by rw[Heap.size_push];exact fc _);rw[Heap.size_push,<- e4]at ok;rw[bX]at c4;obtain⟨so,dot⟩:=cE hs;have so:∀p∈scope.names,eX G.names env.scope.names scope.names T p=true:=br so;have dot:(".0" : Str)∉G.names:=by simpa using dot
 let oc:=cellsFrom (h3.objs.size+1) scope.names []
 have hoc:∀x c,(x,c)∈oc->h4.IsCell c none/\h3.objs.size+1<=c/\(x, .cell)∈scope.names:=fun x c m=>⟨(ok.empty x c m).1,(ok.empty x c m).2,(dU _ _ _ _ m).1⟩;have hcell:∀x c,cenv.cells.lookup x=some c->(x,c)∈oc\/(x,c)∈cl:=fun x c e=>by rw[c4]at e;exact cy (mem_of_lookup e)
 have free_kind:∀x,(x,NameKind.free)∈scope.names->env.kindOf x=some .cell\/env.kindOf x=some .free:=fun x m=>by
  have:=so _ m
  simpa [eX,Env.kindOf]using this
 have cl_lt:∀x c,(x,c)∈cl->c<s.heap.objs.size:=fun x c m=>by obtain⟨o,e,_⟩:=I.ov c (I.envr.cin _ _ (cl1 _ m).1).1;exact Heap.lt_size e
 have tg_in:∀n x,G.names[n]?=some x->I0 G.names T x=true->T.contains n=true:=fun n x e q=>by
  obtain⟨m,hm,e'⟩:=List.any_eq_true.mp q;have:=jP I.ok.nd e (eM e');subst this
  simpa using hm
 have fr:∀a,h3.objs.size<=a->s.heap.get? a=none:=fun a q=>gR (aJ hle q);have base_fr:∀a,s.heap.get? a=none->G.h₀.get? a=none:=fun a q=>by
  cases e:G.h₀.get? a with
  |none=>rfl
  |some o=>rw[I.base.keep _ _ e]at q;cases q
 have kk:∀b o,s.heap.get? b=some o->h4.get? b=some o:=fun b o e=>k4 b o (k3 b o e);have names_eq:∀x,cenv.kindOf x=(scope.names.lookup x).map fun k=>if k==.free&&env.scope.names.lookup x==some .cell then .cell else k:=by intro x;show cenv.scope.names.lookup x=_;rw[c1,fE I.envr.fn,gV]
 have hns:h4.Ns h3.objs.size (fun _=>none):=by rw[e4];exact(Heap.Ns.new h3 (.type "dict")).keeps (pushCells_keeps _ _)
 have hN:∀a∈h3.objs.size::oc.map (·.2),h3.objs.size<=a:=fun a m=>by
  rcases bA m with rfl|m
  .exact fc _
  .obtain⟨p,hp,rfl⟩:=iz m;exact Nat.le_of_succ_le (hoc p.1 p.2 hp).2.1
 have grow:∀a∈(h3.objs.size::oc.map (·.2))++[D],s.heap.get? a=none:=fun a m=>by
  rcases cy m with m|m
  .exact fr a (hN a m)
  .rcases aS m with rfl;exact hD
 have assoc:((h3.objs.size::oc.map (·.2))++[D])++O=(h3.objs.size::oc.map (·.2))++D::O:=by simp
 have inl:∀a,a∈O->a∈(h3.objs.size::oc.map (·.2))++D::O:=fun a m=>hJ _ (eh _ m);have hinj:∀x y c,cenv.cells.lookup x=some c->cenv.cells.lookup y=some c->x=y:=fun x y c ex ey=>by
  rcases hcell _ _ ex with mx|mx <;> rcases hcell _ _ ey with my|my
  .exact name_of_addr ok.apart mx my
  .have h1:=(hoc _ _ mx).2.1;have h2:=cl_lt _ _ my;exact absurd h2 (Nat.not_lt.mpr (aJ hle (Nat.le_of_succ_le h1)))
  .have h1:=(hoc _ _ my).2.1;have h2:=cl_lt _ _ mx;exact absurd h2 (Nat.not_lt.mpr (aJ hle (Nat.le_of_succ_le h1)))
  .exact I.envr.inj _ _ _ (cl1 _ mx).1 (cl1 _ my).1
 refine⟨h3.objs.size::oc.map (·.2),hN,dX,fun x c m e=>?_,⟨?_, ?_, ?_, ?_, ?_, ?_, ?_,hinj, ?_,⟨_,c2▸hns, ?_⟩, ?_⟩,hns,fun x c e q=>?_,fun a m=>?_⟩
 .obtain⟨c0,h0⟩:=bT _ (h3.objs.size+1) _ m;obtain⟨c',e'⟩:=bU (l:=oc) h0;rw[c4,List.lookup_append]at e;have e:(oc.lookup x).or (cl.lookup x)=some c:=e;rw[e']at e;obtain rfl:=aG e;exact eh _ (List.mem_map_of_mem (f:=(·.2)) (mem_of_lookup e'))
 .rw[c1];exact hk
 .rw[c3];exact I.envr.gl
 .rw[c5];exact I.envr.bi
 .rw[c2];exact ij _ dX
 .rw[c2];exact base_fr _ (fr _ (fc _))
 .exact fun n a e=>inl a (I.envr.oin n a e)
 .intro x c e;rcases hcell _ _ e with m|m
  .exact⟨ij _ (eh _ (List.mem_map_of_mem (f:=(·.2)) m)),base_fr _ (fr _ (Nat.le_of_succ_le (hoc _ _ m).2.1))⟩
  .have:=I.envr.cin _ _ (cl1 _ m).1;exact⟨inl _ this.1,this.2⟩
 .intro x hx;have:∃c,(x,c)∈oc++cl:=by
   rw[names_eq]at hx;cases e:scope.names.lookup x with
   |none=>rw[e]at hx;simp at hx
   |some k =>
    have mk:=mem_of_lookup e;rw[e]at hx;cases k with
    |cell=>obtain⟨c,hc⟩:=bT _ (h3.objs.size+1) _ mk;exact⟨c,ij _ hc⟩
    |free=>obtain⟨c,hc⟩:=cl2 _ mk rfl;exact⟨c,hJ _ hc⟩
    |«local»=>simp at hx
    |globalExplicit=>simp at hx
    |globalImplicit=>simp at hx
  obtain⟨c,hc⟩:=this;obtain⟨c',e'⟩:=bU (l:=cenv.cells) (by rw[c4];exact hc);rcases hcell _ _ e' with m|m
  .exact⟨c',none,e',(hoc _ _ m).1⟩
  .obtain⟨c'',v,e2,q⟩:=I.envr.ce x (free_kind _ (cl1 _ m).2);rw[(cl1 _ m).1]at e2;obtain rfl:=aG e2;exact⟨_,v,e',q.keeps kk⟩
 .intro n x d' h1 h2 h3';rw[names_eq]at h2;cases e:scope.names.lookup x with
  |none=>rw[e]at h2;simp at h2
  |some k =>
   have mk:=mem_of_lookup e;rw[e]at h2;have hkl:k=.local:=by
    cases k with
    |free=>simp only[Option.map_some,Option.some.injEq]at h2;split at h2 <;> cases h2
    |cell=>simp at h2
    |«local»=>rfl
    |globalExplicit=>simp at h2
    |globalImplicit=>simp at h2
   subst hkl;have q:=so _ mk;simp only[eX,eO,Bool.or_eq_true,beq_iff_eq]at q;rcases q.2 with q|q
   .exact absurd (qw (q▸h1)) dot
   .rw[aF.get_del,tg_in n x h1 q]at h3';simp at h3'
 .intro n x d' h1 h2 h3';rw[aF.get_del]at h3';have hT:T.contains n=false:=by
   cases c:T.contains n with
   |false=>rfl
   |true=>rw[c]at h3';simp at h3'
  rw[hT]at h3';have h3':ρ.get n=some d':=by simpa using h3'
  rw[names_eq]at h2;have hmem:(x,NameKind.free)∈scope.names:=by
   cases e:scope.names.lookup x with
   |none=>rw[e]at h2;simp at h2
   |some k =>
    have mk:=mem_of_lookup e;rw[e]at h2;cases k with
    |free=>exact mk
    |cell =>
     have q:=so _ mk;simp only[eX,eO]at q;have:=tg_in n x h1 q.2;rw[hT]at this;exact ff this
    |«local»=>simp at h2
    |globalExplicit=>simp at h2
    |globalImplicit=>simp at h2
  obtain⟨c,hc⟩:=cl2 _ hmem rfl;obtain⟨c',e'⟩:=bU (l:=cenv.cells) (by rw[c4];exact hJ _ hc);rcases hcell _ _ e' with m|m
  .have q:=so _ (hoc _ _ m).2.2;simp only[eX,eO]at q;have:=tg_in n x h1 q.2;rw[hT]at this;exact ff this
  .obtain⟨c2',v,e2,q,r⟩:=I.envr.cl n x d' h1 (free_kind _ hmem) h3';rw[(cl1 _ m).1]at e2;obtain rfl:=aG e2;refine⟨_,v,e',q.keeps kk, ?_⟩;have:=(r.news grow).keep (.of kk);rw[assoc]at this;exact this
 .subst q;rcases hcell _ _ e with m|m
  .exact absurd hD3 (Nat.not_lt.mpr (Nat.le_of_succ_le (hoc _ _ m).2.1))
  .obtain⟨o,e',_⟩:=I.ov c (I.envr.cin _ _ (cl1 _ m).1).1;rw[hD]at e';exact nn e'
 .rcases bA m with rfl|m
  .obtain⟨o,es,ep,e,dd,_⟩:=hns;exact⟨o,e, .inr fun vs q=>by rw[dd]at q;cases q⟩
  .obtain⟨p,hp,rfl⟩:=iz m;obtain⟨o,e,dd⟩:=(hoc p.1 p.2 hp).1;exact⟨o,e, .inr fun vs q=>by rw[dd]at q;cases q⟩
theorem gM.news (x:gM G env own O ρ h)(k:∀a∈N,h.get? a=none):gM G env own (N++O) ρ h where
 fn:=x.fn
 gl:=x.gl
 bi:=x.bi
 lin:=hJ _ x.lin
 lfr:=x.lfr
 oin:=fun n a e=>hJ _ (x.oin n a e)
 cin:=fun y c e=>⟨hJ _ (x.cin y c e).1,(x.cin y c e).2⟩
 inj:=x.inj
 ce:=x.ce
 ns:=let⟨m,a,b⟩:=x.ns;⟨m,a,fun n y d h1 h2 h3=>let⟨v,e,r⟩:=b n y d h1 h2 h3;⟨v,e,r.news k⟩⟩
 cl:=fun n y d h1 h2 h3=>let⟨c,v,e,q,r⟩:=x.cl n y d h1 h2 h3;⟨c,v,e,q,r.news k⟩
end
end
section
noncomputable def EF (ifs:dN)(env:Env):Sem Bool:=forIn ifs true fun c r=>if r=true then do let ok <- isTrue c env (eval c env);pure (ForInStep.yield ok)else pure (ForInStep.yield r)
inductive CK where
 |list (elt:Expr)|set (elt:Expr)|dict (k v:Expr)
noncomputable def CK.expr (c:CK)(gens:List Comprehension)(scope:Scope)(pos:Pos):Expr:=match c with
 |.list elt=>.ListComp elt gens scope pos
 |.set elt=>.SetComp elt gens scope pos
 |.dict k v=>.DictComp k v gens scope pos
theorem CK.clauses (c:CK)(gens:List Comprehension)(scope:Scope)(pos:Pos):clausesOf (c.expr gens scope pos)=gens:=by cases c <;> rfl
noncomputable def CK.emit (c:CK)(D:Addr)(env:Env):Sem Unit:=match c with
 |.list elt=>eval elt env >>= fun x=>call (.builtin "list.append") [.ref D,x] >>= fun _=>pure ()
 |.set elt=>eval elt env >>= fun v=>standAt elt.pos >>= fun _=>call (.builtin "set.add") [.ref D,v] >>= fun _=>pure ()
 |.dict k v=>eval k env >>= fun kv=>holding [kv] (eval v env) >>= fun vv=>standAt { k.pos with endLine:=v.pos.endLine,endCol:=v.pos.endCol } >>= fun _=>holding [kv,vv] (dictSet D kv vv)
def iH (c:CK)(gens:List Comprehension)(scope:Scope)(pos:Pos)(k:Nat)(D:Addr)(env:Env):Sem Unit:=
 match gens[k+1]? with
 |some g'=>eval g'.iter env >>= fun x=>standAt g'.iter.pos >>= fun _=>foldedSetIterable g'.iter env x >>= fun x=>holding [x] (pyIter x) >>= fun it =>
  runOwn (.compStart (c.expr gens scope pos) (k+1) it (.ref D) env) env >>= fun _=>pure ()
 |none=>c.emit D env
theorem ut {A:Around}{E:ba}{s:Shared}{c:CK}{gens:List Comprehension}{scope:Scope}{pos:Pos}{k:Nat}{target iter:Expr}{ifs:dN}{it:Value}{D:Addr}{env:Env}{Q:Fin->Shared->Prop}
  (hg:gens[k]?=some ⟨target,iter,ifs,0⟩)(hg':∀g',gens[k+1]?=some g'->g'.is_async=0)
  (h:wpAny M A (pyNext it) (fun r s1=>match r with
   |none=>Q (.done .next) s1
   |some v=>wpAny M A (letOwnedTupleGo target it v) (fun _ s2=>wpAny M A (assign target env v) (fun _ s3=>wpAny M A (EF ifs env) (fun ok s4 =>
     if ok=true then wpAny M A (iH c gens scope pos k D env) (fun _ s5=>wpAny M A (again (.compLoop (c.expr gens scope pos) k it (.ref D) env)) Q E s5) E s4
     else wpAny M A (again (.compLoop (c.expr gens scope pos) k it (.ref D) env)) Q E s4) E s3) E s2) E s1) E s) :
  wpAny M A (compTurn (c.expr gens scope pos) k it (.ref D) env) Q E s:=by
 have e0:((0:Int) != 0)=false:=rfl;have main:∀(emit:Sem Unit),emit=c.emit D env->wpAny M A (do
   let some g:=gens[k]?|unsupported "internal:comprehension-depth"
   standAt (if g.is_async != 0 then(c.expr gens scope pos).pos else g.iter.pos)
   match<- if g.is_async != 0 then asyncNext it else pyNext it with
   |none=>pure (.done .next)
   |some v =>
    letOwnedTupleGo g.target it v
    assign g.target env v
    let mut ok:=true
    for c in g.ifs do
     if ok then ok <- isTrue c env (eval c env)
    if ok then
     match gens[k+1]? with
     |some g' =>
      let x <- eval g'.iter env
      standAt g'.iter.pos
      let x <- if g'.is_async != 0 then foldedIterable g'.iter x else foldedSetIterable g'.iter env x
      let _ <- runOwn (.compStart (c.expr gens scope pos) (k+1) (<- holding [x] (if g'.is_async != 0 then asyncIter x else pyIter x)) (.ref D) env) env
     |none=>emit
    again (.compLoop (c.expr gens scope pos) k it (.ref D) env)) Q E s:=by
  rintro emit rfl
  rw[hg];simp -iota only[e0,Bool.false_eq_true,if_false];refine aH (wpAny_standAt (aH (wpAny_mono h (fun r s1 h1=>?_) fun _ _ e=>e)));cases r with
  |none=>exact bg h1
  |some v =>
   refine aH (wpAny_mono h1 (fun _ s2 h2=>aH (wpAny_mono h2 (fun _ s3 h3=>aH (wpAny_mono h3 (fun ok s4 h4=>?_) fun _ _ e=>e)) fun _ _ e=>e)) fun _ _ e=>e);cases ok with
   |false=>exact aH (bg h4)
   |true =>
    have h4:wpAny M A (iH c gens scope pos k D env) (fun _ s5=>wpAny M A (again (.compLoop (c.expr gens scope pos) k it (.ref D) env)) Q E s5) E s4:=h4;unfold iH at h4;cases e:gens[k+1]? with
    |none =>
     rw[e]at h4;exact aH h4
    |some g' =>
     rw[e]at h4;have e1:(g'.is_async != 0)=false:=by rw[hg' _ e];rfl
     simp only[if_true,e1,Bool.false_eq_true,if_false];have h5:=aH h4
     simpa only[bind_assoc,pure_bind]using h5
 cases c with
 |list elt=>exact main _ rfl
 |set elt=>exact main _ rfl
 |dict kx vx=>exact main _ rfl
theorem CK.under_start {A:Around}(c:CK):A.under (.compStart (c.expr gens scope pos) k it acc env)=A:=by cases c <;> rfl
theorem CK.under_loop {A:Around}(c:CK):A.under (.compLoop (c.expr gens scope pos) k it acc env)=A:=by cases c <;> rfl
theorem CK.den_start (c:CK) :
  (model prog w).den (.compStart (c.expr gens scope pos) k it acc env)=(compStart (c.expr gens scope pos) k it acc env).onRaise (fun x=>do noteFrame x env;standAt theWindowsPlace):=by cases c <;> rfl
theorem CK.den_loop (c:CK) :
  (model prog w).den (.compLoop (c.expr gens scope pos) k it acc env)=(compTurn (c.expr gens scope pos) k it acc env).onRaise (fun x=>do noteFrame x env;theTreesLotGoes x):=by cases c <;> rfl
theorem i6 {R:Result->Shared->Prop}{s:Shared}{c:CK}{gens:List Comprehension}{scope:Scope}{pos:Pos}{k:Nat}{g:Comprehension}{it acc:Value}{env:Env}
  (hg:gens[k]?=some g)(ha:g.is_async=0)
  (h0:codeAny (model prog w) A (.compLoop (c.expr gens scope pos) k it acc env) R s)
  (h:wpAny (model prog w) A (pyIter it) (fun it' s'=>codeAny (model prog w) A (.compLoop (c.expr gens scope pos) k it' acc env) R s')
   (notedBy (model prog w) A env fun x s'=>R (.error x) s') s) :
  codeAny (model prog w) A (.compStart (c.expr gens scope pos) k it acc env) R s:=by
 refine codeAny_of_tree ?_;rw[c.den_start,c.under_start];refine wpAny_notedAt ?_;unfold compStart;have e1:((clausesOf (c.expr gens scope pos))[k]?).elim false (·.is_async != 0)=false:=by rw[c.clauses,hg];show(g.is_async != 0)=false;rw[ha];rfl
 rw[e1];refine aH (wpAny_askSetting (wpAny_ite_split (fun _=>?_) fun _=>?_))
 .first
   |exact aH (bg (bg (And.intro rfl h0)))
   |exact bg (And.intro rfl h0)
 .refine aH (wpAny_rule ?_);have e2:(clausesOf (c.expr gens scope pos))[k]?=some g:=by rw[c.clauses];exact hg
  rw[e2];exact aH (wpAny_standAt (aH (wpAny_mono h (fun it' s' h'=>bg (And.intro rfl h')) fun _ _ x=>x)))
theorem lD:∀{xs:List D},cD xs=true->∀d∈xs,dF d=true
 |[],_,_,m=>nomatch m
 |x::xs,h,d,m=>by
  obtain⟨h1,h2⟩:=cE (h:(dF x&&cD xs)=true);rcases bA m with rfl|m
  .exact h1
  .exact lD h2 d m
section
variable {w:World}{O:a9}{h h':Heap}{W:a9}
end
theorem aF.get_of_del {ρ:aF}(h:(ρ.del T).get n=some d):ρ.get n=some d:=by
 rw[aF.get_del]at h;by_cases c:T.contains n=true
 .rw[if_pos c]at h;exact nn h
 .rw[if_neg c]at h;exact h
theorem HF.plain (h:HF false o):nc o:=h
theorem nc.turn (hw:∀b∈wr,∀o,h.get? b=some o->nc o):bD O wr h:=fun a m o e=>⟨Jh (hw a m o e),fun l=>by
 obtain⟨⟨_,h1⟩,_,_,h4,h5⟩:=hw a m o e;rcases l with(l|l)|⟨_,_,_,l⟩
 .exact absurd l h4
 .exact absurd l h5
 .rw[h1]at l;cases l⟩
section
variable {G:GC}{A:Around}{env:Env}{own:dM}{O:a9}{ρ:aF}{z:Bool}
theorem cV.iterZ (I:cV G A env own O ρ s)(hw:∀b∈wr,∀o,s.heap.get? b=some o->HF z o)(hz:z=true->∀n d,ρ.get n=some d->dF d=true)(hO:∀b∈wr,b∉O)(h0:∀b∈wr,G.h₀.get? b=none)
  (k:∀b o,b∉wr->s.heap.get? b=some o->h'.get? b=some o)(p:0<tk):cV G A env own O ρ { s with heap:=h',toks:=tk }/\bI G wr s { s with heap:=h',toks:=tk }/\∀vs ds,(z=true->∀d∈ds,dF d=true)->ak G.w O s.heap vs ds->ak G.w O h' vs ds:=by
 have kb:aL wr s.heap h':=cY k;have B:a5 G h':=⟨fun b o e=>k b o (fun q=>by rw[h0 b q]at e;exact nn e) (I.base.keep b o e),I.base.memo.keep fun b o vs e q f=>k b o (fun r=>(by obtain⟨_,h2,h3,_⟩:=hw b r o e;exact q.elim h2 h3)) e⟩;have ov:dH O h':=fun a m=>by obtain⟨o,e,q⟩:=I.ov a m;exact⟨o,k a o (fun m'=>hO a m' m) e,q⟩
 have l1:env.locals∉wr:=fun m=>hO _ m I.envr.lin;have l2:∀y c,env.cells.lookup y=some c->c∉wr:=fun y c e m=>hO _ m (I.envr.cin y c e).1;have l3:∀n a vs,own.at' n=some a->s.heap.PlainList a vs->a∉wr:=fun n a vs e _ m=>hO _ m (I.envr.oin n a e);have sx:bI G wr s { s with heap:=h',toks:=tk }:=⟨⟨rfl,rfl⟩,kb,B,p,fun b m e=>bw (fun o q=>k b o m q) e⟩;have t:bD O wr s.heap:=nc.turn hw;exact⟨⟨I.ok,I.hh,B,p,ov,I.envr.but kb t l1 l2 l3⟩,sx,fun vs ds _ r=>r.but kb t⟩
end
end
section
section
variable {prog:Program}{w:World}{A:Around}{E:ba}{s:Shared}
theorem dz.size (ho:h.get? a=some o)(hd:o.data=.set es ep t)(x:dz w h a ss):es.size=ss.length:=by
 obtain⟨o',es',ep',t',ho',_,hd',_,hp,_,_,_,_,_⟩:=x;rw[ho]at ho';obtain rfl:=aG ho';rw[hd]at hd';injection hd' with e1 e2 e3
 subst e1;have:=hp.length_eq;unfold we at this;rw[dx,i5]at this;exact this
theorem MO.of (x:MO w es):ElemsOf (PySem.strKind prog w) es:=fun e m=>by obtain⟨k,tk,h1,h2⟩:=x e m;exact⟨⟨k,by rw[h1];exact Value.isStrOf_refl k tk,h2⟩,by rw[h1];rfl⟩
theorem EO (hel:ElemsOf (PySem.strKind prog w) es)(x:Str):(we es).any (· == x)=es.any fun e=>(PySem.strKind prog w).is x e.2:=by
 delta we
 rw[List.any_map,Bool.eq_iff_iff,List.any_eq_true,List.any_eq_true];refine exists_congr fun e=>and_congr_right fun m=>?_;obtain⟨⟨k,hk,_⟩,_⟩:=hel e m;obtain⟨t,ht⟩:=Value.isStrOf_shape hk;show(strOf e.2==x)=true↔Value.isStrOf x e.2=true;rw[ht];exact Iff.rfl
theorem sV (t:SetTable)(es:Array (Int × Value))(h:Int)(x:Value):(layNew t es h x).2.1.led=t.led/\((layNew t es h x).2.1.plain=t.plain\/(layNew t es h x).2.1.plain=false):=by
 delta layNew
 cases t.freeSlot h with
 |none=>exact⟨rfl, .inr rfl⟩
 |some p =>
  obtain⟨slot,wd⟩:=p;dsimp only
  delta SetTable.orStandIn
  by_cases c:(t.put slot).1.fits (SetTable.insertAt es (t.put slot).2 (h,x)).size=true
  .rw[if_pos c];exact⟨rfl, .inl rfl⟩
  .rw[if_neg c];exact⟨rfl, .inr rfl⟩
theorem w8 {led plain:Bool}{hs:Array Int}{t:SetTable}{ord:Array Nat}(h:SetTable.laid mask finger moves led plain hs=some (t,ord)):t.led=led/\t.plain=plain:=by
 delta SetTable.laid at h
 cases e:SetTable.layClean mask hs with
 |none=>rw[e]at h;exact nn h
 |some owner =>
  rw[e]at h;have h:=aG h;rw[<- (Prod.mk.inj h).1];exact⟨rfl,rfl⟩
theorem pY (t:SetTable)(es:Array (Int × Value))(wanted:Nat):(relayAll t es wanted).2.1.led=t.led/\((relayAll t es wanted).2.1.plain=t.plain\/(relayAll t es wanted).2.1.plain=false):=by
 delta relayAll
 cases e:t.relaid (es.map (·.1)) wanted with
 |none=>exact⟨rfl, .inr rfl⟩
 |some p =>
  obtain⟨t',ord⟩:=p;obtain⟨k1,k2⟩:=w8 e;dsimp only;by_cases c:(coversAll ord es.size&&t'.fits (ord.filterMap (es[·]?)).size)=true
  .rw[if_pos c];exact⟨k1, .inl k2⟩
  .rw[if_neg c];exact⟨rfl, .inr rfl⟩
theorem zj (h:∀o:Obj,o.isFreed=false->dz w (s.heap.push o) s.heap.objs.size []->Q (.ref s.heap.objs.size) { s with heap:=s.heap.push o }):wpAny (model prog w) A (newSet (.type "set")) Q E s:=by
 refine aH (aH (wpAny_askSetting (bg ?_)));exact aH (wpAny_alloc (bg (h _ rfl ⟨_,#[],0,_,iV _ rfl,⟨rfl,rfl,rfl⟩,rfl,(fun e m=>nomatch m), .nil,by decide,rfl,(by
  cases e:w.params.followText "set-order" with
  |true=>exact .inl rfl
  |false=>exact .inr (by show(!w.params.followText "set-order")=true;rw[e];rfl)), .inl rfl,fun _=>⟨rfl,rfl⟩⟩)))
theorem qd (hm:gp t)(j:Nat):t.slot j=.empty\/∃i,t.slot j=.live i/\j∈t.place.toList:=by
 delta SetTable.slot
 dsimp only;by_cases c:(t.place[SetTable.below t.place j]?==some j)=true
 .rw[if_pos c];refine .inr ⟨_,rfl, ?_⟩;have:=eM c;rw[<- Array.getElem?_toList]at this;exact qw this
 .rw[if_neg c,hm.2];exact .inl rfl
noncomputable def iX (i per:Nat):Nat->Nat × Nat
 |0=>(i,per)
 |k+1=>iX ((i*5+1+per / 32) % 8) (per / 32) k
theorem AH (i per a:Nat):∀b,iX i per (a+b)=iX (iX i per a).1 (iX i per a).2 b:=by
 induction a generalizing i per with
 |zero=>intro b;rw[Nat.zero_add];rfl
 |succ a ih=>intro b;rw[Nat.succ_add];exact ih _ _ b
theorem AJ (i per:Nat):∀k,(iX i per k).2=per / 32^k:=by
 intro k
 induction k generalizing i per with
 |zero=>exact(Nat.div_one per).symm
 |succ k ih=>exact(ih _ _).trans (by rw[Nat.div_div_eq_div_mul,Nat.pow_succ,Nat.mul_comm])
theorem Dl (i per:Nat)(h:i<8):∀k,(iX i per k).1<8:=by
 intro k
 induction k generalizing i per with
 |zero=>exact h
 |succ k ih=>exact ih _ _ (Nat.mod_lt _ (by decide))
theorem AI:∀c<8,∀j<8,∃m,m<8/\(iX c 0 m).1=j:=by
 have e:∀c m,(iX c 0 m).1=(List.range m).foldl (fun c _=>(c*5+1) % 8) c:=by
  intro c m
  induction m generalizing c with
  |zero=>rfl
  |succ m ih =>
   rw[List.range_succ_eq_map,List.foldl_cons,List.foldl_map];exact ih _
 have d:∀c<8,∀j<8,∃m,m<8/\(List.range m).foldl (fun c _=>(c*5+1) % 8) c=j:=by decide +kernel
 exact fun c hc j hj=>let⟨m,h1,h2⟩:=d c hc j hj;⟨m,h1,(e c m).trans h2⟩
theorem yX (hm:gp t):∀(k fuel:Nat) (p:SetTable.Probe),k<fuel->p.more=0->p.j=p.i->t.slot (iX p.i p.perturb k).1=.empty->∃j,SetTable.probe.go t (fun _=>h+1) h fuel p=some (.empty j p.dummy)
 |k,0,p,hk,_,_,_=>absurd hk (Nat.not_lt_zero _)
 |k,fuel+1,p,hk,h0,hj,he=>by
  show∃j,(match t.slot p.j with|.empty=>some (SetTable.Met.empty p.j p.dummy)|.dummy=>SetTable.probe.go t (fun _=>h+1) h fuel (t.advance { p with dummy:=some p.j })|.live i=>if(h+1==h)=true then some (SetTable.Met.candidate p.j i (t.advance p))else SetTable.probe.go t (fun _=>h+1) h fuel (t.advance p))=some (SetTable.Met.empty j p.dummy);rcases qd hm p.j with c|⟨i,c,_⟩
  .rw[c];exact⟨_,rfl⟩
  .rw[c];have hne:¬ ((h+1==h)=true):=fun q=>absurd (eM q) (Int.ne_of_gt (Int.lt_succ h));cases k with
   |zero=>rw[<- hj,show(iX p.j p.perturb 0).1=p.j from rfl,c]at he;cases he
   |succ k =>
    have ea:t.advance p={ p with j:=(p.i*5+1+p.perturb / 32) % 8,more:=0,i:=(p.i*5+1+p.perturb / 32) % 8,perturb:=p.perturb / 32 }:=by have lt:(p.i*5+1+p.perturb / 32) % 8<8:=Nat.mod_lt _ (by decide);unfold SetTable.advance SetTable.leap SetTable.runEnd;rw[h0,if_neg (Nat.lt_irrefl _),hm.1];dsimp only;rw[if_neg (Nat.not_le_of_gt (kS (by decide:7<9) (Nat.le_add_left 9 _))),Nat.sub_self]
    show∃j,(if(h+1==h)=true then _ else _)=_;rw[if_neg hne,ea];exact yX hm k fuel _ (Nat.lt_of_succ_lt_succ hk) rfl rfl he
theorem Gm {l:aN}(h:l.length<=3):∃j,j<8/\j∉l:=by
 have key:∀a b c:Nat,∃j,j<8/\j≠a/\j≠b/\j≠c:=fun a b c=>by
  by_cases h0:0=a\/0=b\/0=c
  .by_cases h1:1=a\/1=b\/1=c
   .by_cases h2:2=a\/2=b\/2=c
    .exact⟨3,by decide,by lia,by lia,by lia⟩
    .exact⟨2,by decide,fun q=>h2 (.inl q),fun q=>h2 (.inr (.inl q)),fun q=>h2 (.inr (.inr q))⟩
   .exact⟨1,by decide,fun q=>h1 (.inl q),fun q=>h1 (.inr (.inl q)),fun q=>h1 (.inr (.inr q))⟩
  .exact⟨0,by decide,fun q=>h0 (.inl q),fun q=>h0 (.inr (.inl q)),fun q=>h0 (.inr (.inr q))⟩
 obtain⟨j,h1,h2,h3,h4⟩:=key (l.getD 0 0) (l.getD 1 0) (l.getD 2 0);refine⟨j,h1,fun m=>?_⟩;obtain⟨i,hi⟩:=List.getElem?_of_mem m;have lt:i<3:=kS (List.getElem?_eq_some_iff.mp hi).1 h;have g:l.getD i 0=j:=by rw[List.getD_eq_getElem?_getD,hi];rfl
 rcases i with _|_|_|i
 .exact h2 g.symm
 .exact h3 g.symm
 .exact h4 g.symm
 .exact absurd lt (Nat.not_lt.mpr (Nat.le_add_left 3 i))
theorem xH {t:SetTable}(hm:gp t)(h3:t.place.size<=3)(h:Int):∃j,t.freeSlot h=some (j,false):=by
 obtain⟨j0,hj,hn⟩:=Gm (l:=t.place.toList) (by rw[i5];exact h3);have e0:t.slot j0=.empty:=(qd hm j0).resolve_right fun⟨_,_,m⟩=>hn m;have hb:SetTable.bits h<2^64:=by
  delta SetTable.bits
  have h1:=Int.emod_lt_of_pos h (show(0:Int)<2^64 by decide);have h2:=Int.emod_nonneg h (show(2^64:Int)≠0 by decide);exact(Int.toNat_lt h2).mpr h1
 have hs:t.probeStart h={ j:=SetTable.bits h % 8,more:=0,i:=SetTable.bits h % 8,perturb:=SetTable.bits h,dummy:=none }:=by
  delta SetTable.probeStart SetTable.runEnd
  have lt:SetTable.bits h % 8<8:=Nat.mod_lt _ (by decide);simp only[hm.1];rw[if_neg (Nat.not_le_of_gt (kS (by decide:7<9) (Nat.le_add_left 9 _))),Nat.sub_self]
 generalize hc:iX (SetTable.bits h % 8) (SetTable.bits h) 13=c;have c1:c.1<8:=hc▸Dl _ _ (Nat.mod_lt _ (by decide)) 13;have c2:c.2=0:=by rw[<- hc,AJ];exact Nat.div_eq_of_lt (kS hb (by decide))
 obtain⟨m,hm8,em⟩:=AI c.1 c1 j0 hj;have:=yX (h:=h) hm (13+m) (10*SetTable.turns t.mask) (t.probeStart h) (by rw[hm.1];show _<10*(7+15);lia) (by rw[hs]) (by rw[hs]) (by rw[hs,AH,hc,c2,em];exact e0);obtain⟨j,ej⟩:=this;refine⟨j, ?_⟩
 delta SetTable.freeSlot SetTable.probe
 rw[ej,hs];rfl
theorem Bl (hm:gp t)(hf:t.fits es.size=true)(h3:es.size<=3)(h:Int)(x:Value):gp (layNew t es h x).2.1:=by
 have hp:t.place.size=es.size:=by delta SetTable.fits at hf;exact eM (cE hf).1
 obtain⟨j,ej⟩:=xH hm (hp▸h3) h
 delta layNew
 rw[ej];dsimp only;have hd:(t.put j).1.dummies=#[]:=by show(if SetTable.has t.dummies j=true then _ else t.dummies)=#[];rw[hm.2];rfl
 have hfit:(t.put j).1.fits (SetTable.insertAt es (t.put j).2 (h,x)).size=true:=by
  have e1:(SetTable.insertAt es (t.put j).2 (h,x)).size=es.size+1:=by rw[<- i5,(SetTable.insertAt_perm ..).length_eq,Array.toList_push,dR,i5];rfl
  have e2:(t.put j).1.place.size=t.place.size+1:=by show(SetTable.insertAt t.place _ j).size=_;rw[<- i5,(SetTable.insertAt_perm ..).length_eq,Array.toList_push,dR,i5];rfl
  delta SetTable.fits SetTable.fill
  rw[e1,e2,hd,hp,show(t.put j).1.mask=7 from hm.1,beq_self_eq_true,Bool.true_and];exact dg (aJ (Nat.succ_le_succ h3) (by decide))
 delta SetTable.orStandIn
 rw[if_pos hfit];exact⟨hm.1,hd⟩
theorem xI (hm:gp t)(hf:t.fits n=true)(h4:n<=4):t.tooFull=false:=by
 have hp:t.place.size=n:=by delta SetTable.fits at hf;exact eM (cE hf).1
 delta SetTable.tooFull SetTable.fill
 rw[hm.1,hm.2,hp];exact cG (Nat.not_le_of_gt (lC (oG 5 (show n+0<=4 from h4)) (by decide)))
theorem vO (hS:dz w s.heap a ss)(hroom:ss.length+1<scanBound)
  (h:∀h' b,Heap.SameBut a s.heap h'->dz w h' a (fh ss x)->Q b { s with heap:=h' }):wpAny (model prog w) A (setAddHashed a (.str x tk) ((PySem.strKind prog w).hash x)) Q E s:=by
 have hsize:=fun{o es ep t} ho hd=>dz.size (o:=o) (es:=es) (ep:=ep) (t:=t) ho hd hS;obtain⟨o,es,ep,t,ho,hex,hd,he0,hp,hb,hf,hl,hpl,hm⟩:=hS;have hel:=he0.of (prog:=prog);have hn:=hsize ho hd;have hkey:(PySem.strKind prog w).is x (.str x tk)=true:=Value.isStrOf_refl x tk;have hany:ss.any (· == x)=es.toList.any fun e=>(PySem.strKind prog w).is x e.2:=by rw[<- EO hel,hp.any_eq]
 unfold setAddHashed setAddHashedIn;refine wpAny_holding (aH (wpAny_setState_of ho hd hf ?_));refine wpAny_ite_split (fun _=>?_) fun c=>absurd (byScan_of rfl hb hel) c;unfold setAddByScan;refine aH (aH (wpAny_rule (aH (wpAny_setScan_of hkey ho hd hf hel ?_))));cases hr:List.findIdx? (fun e=>(PySem.strKind prog w).is x e.2) es.toList with
 |some j =>
  have c:ss.any (· == x)=true:=by rw[hany,List.any_eq_true];obtain⟨hj,hpj,_⟩:=List.findIdx?_eq_some_iff_getElem.mp hr;exact⟨_,List.getElem_mem hj,hpj⟩
  have:=h s.heap false (Heap.SameBut.refl a s.heap) (by unfold fh;rw[if_pos c];exact⟨o,es,ep,t,ho,hex,hd,he0,hp,hb,hf,hl,hpl,hm⟩);exact bg (bg this)
 |none =>
  have c:¬ ss.any (· == x)=true:=by
   rw[hany,List.any_eq_true]
   rintro ⟨e,m,q⟩
   have:=List.findIdx?_eq_none_iff.mp hr e m;rw[q]at this;exact ff this.symm
  have hgw:∀(b:Bool){s₁:Shared}{Q':Unit->Shared->Prop},Q' () s₁->wpAny (model prog w) A (match b with|true=>rule "set.scan.the-table-gave-way" |false=>pure ()) Q' E s₁ :=
   fun b s₁ Q' hq=>by cases b;exact bg hq;exact wpAny_rule hq
  have hperm:=layNew_perm t es ((PySem.strKind prog w).hash x) (.str x tk);have hfits:=layNew_fits t es ((PySem.strKind prog w).hash x) (.str x tk);have hkeep:=sV t es ((PySem.strKind prog w).hash x) (.str x tk);have hsm:=fun h3=>Bl (hm (Nat.le_succ_of_le h3)) hf h3 ((PySem.strKind prog w).hash x) (.str x tk);generalize hL:layNew t es ((PySem.strKind prog w).hash x) (.str x tk)=L at hperm hfits hkeep hsm ⊢;obtain⟨es1,t1,wd,gave⟩:=L;dsimp only at hperm hfits hkeep hsm ⊢;rw[Array.toList_push]at hperm;have hel1:ElemsOf (PySem.strKind prog w) es1.toList:=(hel.push hkey rfl).perm hperm;have he1:MO w es1.toList:=fun e m=>(cy (hperm.mem_iff.mp m)).elim (he0 e) fun m=>by rw[aS m];exact⟨x,tk,rfl,rfl⟩
  have hs1:es1.size=ss.length+1:=by rw[<- i5,hperm.length_eq,dR,i5,hn];rfl
  have hp1:(we es1.toList).Perm (fh ss x):=by unfold fh;rw[if_neg c];refine(hperm.map _).trans ?_;rw[List.map_append];exact hp.append_right _
  have hb1:es1.size<scanBound:=hs1▸hroom;have hm1:es1.size<=4->gp t1:=fun h4=>hsm (by rw[hn];rw[hs1]at h4;exact Nat.le_of_succ_le_succ h4);have tail:∀t2:SetTable,t2.fits es1.size=true->t2.led=t.led->t2.plain=false->(es1.size<=4->gp t2)->wpAny (model prog w) A (do
    storeSet a es1 t2
    if(!wd&&t2.tooFull)=true then do
      (match(relayAll t2 es1 (SetTable.grown es1.size)).2.2 with|true=>rule "set.scan.the-table-gave-way" |false=>pure ())
      storeSet a (relayAll t2 es1 (SetTable.grown es1.size)).1 (relayAll t2 es1 (SetTable.grown es1.size)).2.1
      pure (some true)
     else pure (some true)) (fun r s'=>wpAny (model prog w) A (match r with|some added=>pure added|none=>setAddHashedIn a (.str x tk) ((PySem.strKind prog w).hash x) 99999) Q E s') E s:=fun t2 f2 l2 p2 m2=>by
   refine aH (wpAny_storeSet_of ho hd ?_ (fits_of_scanBound hb1));obtain⟨ho1,_⟩:=SetOf_store (knd:=PySem.strKind prog w) (S':=fun k=>es1.toList.any fun e=>(PySem.strKind prog w).is k e.2) ho hex hd hel1 (fun k=>List.any_eq_true) hb1 f2;have hsb1:=Heap.SameBut.update s.heap a (Obj.putSet es1 t2);by_cases g:(!wd&&t2.tooFull)=true
   .rw[if_pos g];have hp2:=relayAll_perm t2 es1 (SetTable.grown es1.size);have hf2:=relayAll_fits t2 es1 (SetTable.grown es1.size);have hk2:=pY t2 es1 (SetTable.grown es1.size);generalize hR:relayAll t2 es1 (SetTable.grown es1.size)=R at hp2 hf2 hk2 ⊢;obtain⟨es2,t3,gave2⟩:=R;dsimp only at hp2 hf2 hk2 ⊢;have hel2:ElemsOf (PySem.strKind prog w) es2.toList:=hel1.perm hp2;have hz2:es2.size=es1.size:=by rw[<- i5,hp2.length_eq,i5]
    have hb2:es2.size<scanBound:=hz2▸hb1;refine aH (hgw _ (aH (wpAny_storeSet_of ho1 rfl ?_ (fits_of_scanBound hb2))));obtain⟨ho2,_⟩:=SetOf_store (knd:=PySem.strKind prog w) (S':=fun k=>es2.toList.any fun e=>(PySem.strKind prog w).is k e.2) ho1 hex rfl hel2 (fun k=>List.any_eq_true) hb2 hf2;exact bg (bg (h _ true (hsb1.trans (Heap.SameBut.update _ a _)) ⟨_,es2,_,t3,ho2,hex,rfl,fun e m=>he1 e (hp2.mem_iff.mp m),(hp2.map _).trans hp1,hb2,hf2,hl.imp id fun q=>hk2.1.trans (l2.trans q), .inr (hk2.2.elim (fun q=>q.trans p2) id),fun h4=>absurd (cE g).2 (by rw[xI (m2 (hz2▸h4)) f2 (hz2▸h4)];exact g6)⟩))
   .rw[if_neg g];exact bg (bg (h _ true hsb1 ⟨_,es1,_,t2,ho1,hex,rfl,he1,hp1,hb1,f2,hl.imp id fun q=>l2.trans q, .inr p2,m2⟩))
  refine aH (hgw _ ?_);by_cases g:t1.plain=true
  .rw[if_pos g];refine aH ?_;rw[hashByValue_scannable 8 rfl];refine bg ?_;exact tail _ (SetTable.fits_plain_off hfits) hkeep.1 rfl hm1
  .rw[if_neg g];exact aH (bg (tail t1 hfits hkeep.1 (Bool.not_eq_true _▸g) hm1))
end
end
section
theorem slot_seti_next:Slot "set_iterator" "__next__" "set_iterator.__next__":=
 .of (owner:="set_iterator") (n:="__next__") (by rw[typeLookup_type,builtinLookup_eq_fast];kernel_rfl) (by decide +kernel) (by decide +kernel) (by decide +kernel) (.inl (by decide +kernel)) (by rw[isSubtype_type];kernel_rfl)
theorem jy:Slot "set_iterator" "__iter__" "set_iterator.__iter__":=
 .of (owner:="set_iterator") (n:="__iter__") (by rw[typeLookup_type,builtinLookup_eq_fast];kernel_rfl) (by decide +kernel) (by decide +kernel) (by decide +kernel) (.inl (by decide +kernel)) (by rw[isSubtype_type];kernel_rfl)
theorem iU:entryFor table "set_iterator.__next__" = some Builtin.«set_iterator.__next__»:=entryFor_of_tree (by kernel_rfl)
theorem jb (a:Value):argsOk "set_iterator.__next__" ⟨[a],[]⟩:=by unfold argsOk;kernel_rfl
theorem nP:entryFor table "set_iterator.__iter__" = some Builtin.«dict_keyiterator.__iter__»:=entryFor_alias (id':="dict_keyiterator.__iter__") (by kernel_rfl) rfl (by decide +kernel) (by kernel_rfl)
theorem oU (a:Value):argsOk "set_iterator.__iter__" ⟨[a],[]⟩:=by unfold argsOk;kernel_rfl
theorem ph:entryFor table "set.__iter__" = some Builtin.«frozenset.__iter__»:=entryFor_alias (id':="frozenset.__iter__") (by kernel_rfl) rfl (by decide +kernel) (by kernel_rfl)
section
variable {prog:Program}{w:World}{A:Around}{E:ba}{s:Shared}
noncomputable abbrev qb (first:Value)(i:Nat)(S:Addr)(n ep:Nat):Obj:={ cls:=.type "set_iterator",data:=.fields #[first,rawInt i, .ref S,rawInt n,rawInt ep] }
theorem km:∀(l:List α)(i:Nat) (h:i<l.length),(l[i]::l.eraseIdx i).Perm l
 |x::r,0,_=>.refl _
 |x::r,i+1,h=>(List.Perm.swap ..).trans ((km r i (Nat.lt_of_succ_lt_succ h)).cons x)
theorem zX:∀(n:Nat) (xs:List α){s:Shared}{Q:List α->Shared->Prop},n=xs.length->(∀ys dr,ys.Perm xs->Q ys { s with drawn:=dr })->wpAny (model prog w) A (drawOrder n xs) Q E s
 |0,xs,s,Q,e,h=>by obtain rfl:xs=[]:=List.length_eq_zero_iff.mp e.symm;exact bg (h [] s.drawn .nil)
 |n+1,[],_,_,e,_=>nomatch e
 |n+1,x::r,s,Q,e,h=>by refine aH (fun Γ p hΓ=>?_);unfold choose;rw[Sem.wp_choose];refine⟨Nat.succ_ne_zero _, ?_⟩;have hi:=Nat.mod_lt ((model prog w).w.draws .order (s.drawn.get .order)) (Nat.succ_pos r.length);generalize (model prog w).w.draws .order (s.drawn.get .order) % (r.length+1)=i at hi;refine bg (M:=model prog w) (A:=A) ?_ Γ p hΓ;rw[List.getElem?_eq_getElem (show i<(x::r).length from hi)];refine aH (zX n ((x::r).eraseIdx i) (by rw[List.length_eraseIdx,if_pos (show i<(x::r).length from hi)];exact Nat.succ.inj e) fun ys dr p=>bg ?_);exact h _ dr ((p.cons _).trans (km (x::r) i hi))
structure mi (h:Heap)(S:Addr)(es:Array (Int × Value))(ep:Nat)(t:SetTable):Prop where
 ob:∃o,h.get? S=some o/\o.data=.set es ep t
 fit:t.fits es.size=true
theorem mi.at (x:mi h S es ep t)(e:∀o,h.get? S=some o->h'.get? S=some o):mi h' S es ep t:=
 let⟨o,ho,hd⟩:=x.ob;⟨⟨o,e o ho,hd⟩,x.fit⟩
noncomputable def MS (nx:Nat)(first:Value):Value:=match first with|.int _ _=>rawInt nx|_=>first
def wo (prog:Program)(w:World)(s:Shared)(S:Addr)(first:Value)(i ep:Nat)(es:Array (Int × Value))(x:Value)(nx:Nat):Prop:=
 (∃slot:Nat,first=rawInt slot/\∀{A':Around}{E':ba}{Q':Option (Value × Nat)->Shared->Prop},Q' (some (x,nx)) s->wpAny (model prog w) A' (setNext S slot i ep) Q' E' s) \/
  ∃T o c,∃vs:Array Value,∃p:Nat,∃hh:Int,first=.ref T/\s.heap.get? T=some o/\o.data=.seq vs c/\vs[i]?=some (rawInt p)/\es[p]?=some (hh,x)
def wm (prog:Program)(w:World)(s:Shared)(S:Addr)(first:Value)(i ep:Nat):Prop:=
 (∃slot:Nat,first=rawInt slot/\∀{A':Around}{E':ba}{Q':Option (Value × Nat)->Shared->Prop},Q' none s->wpAny (model prog w) A' (setNext S slot i ep) Q' E' s) \/
  ∃T o c,∃vs:Array Value,first=.ref T/\s.heap.get? T=some o/\o.data=.seq vs c/\vs[i]?=none
theorem G5 (hi:s.heap.get? I=some (qb first i S n ep))(hS:mi s.heap S es ep t)(hn:es.size=n)
  (hx:wo prog w s S first i ep es x nx)
  (hQ:∀h',(∀b o,b≠I->s.heap.get? b=some o->h'.get? b=some o)->(h'.get? I=some (qb (MS nx first) (i+1) S n ep))->Q (some x) { s with heap:=h' }):wpAny (model prog w) A (pyNext (.ref I)) Q E s:=by
 obtain⟨o,ho,hd⟩:=hS.ob;have hT:s.TypeIs (.ref I) "set_iterator":=⟨_,hi,rfl⟩;unfold pyNext;refine aH (wpAny_attempt (wpAny_callSpecial?_slot (name:=Str.ofString "__next__") hT slot_seti_next (wpAny_call_entry slot_seti_next hT iU ?_ (jb _))));unfold Builtin.«set_iterator.__next__»;refine aH (bg ?_);refine aH (wpAny_fieldsOf hi rfl ?_);refine aH (wpAny_setEntries_of ho hd hS.fit ?_);dsimp only;rw[if_neg (show¬ ((es.size:Int) != (n:Int))=true by rw[hn];simp)];have fin:∀(h1:Heap)(y:Value),(∀b o,b≠I->s.heap.get? b=some o->h1.get? b=some o)->h1.get? I=some (qb y i S n ep)->y=MS nx first ->
   ∀{E':ba},wpAny (model prog w) A.in1 (setField (.ref I) 1 (rawInt (i+1)) >>= fun _=>ret x) (fun f s'=>∃v,f=.done (.ret v)/\wpAny (model prog w) A (pure (some v)) Q E s') E' { s with heap:=h1 }:=fun h1 y k e ey E'=>by
  refine aH (wpAny_setField_rec (s:={ s with heap:=h1 }) e (by simp) fun h2 e2 sb=>bg ⟨x,rfl,bg (hQ h2 (fun b o m q=>sb.extBut b o m (k b o m q)) ?_)⟩);subst ey;exact e2
 rcases hx with⟨slot,rfl,H⟩|⟨T,o',c,vs,p,hh,rfl,hT',hd',hv,he⟩
 .show wpAny _ _ (setNext S (slot:Int).toNat (i:Int).toNat (ep:Int).toNat >>= _) _ _ _;rw[mY,mY,mY];refine aH (H ?_);refine aH (wpAny_setField_rec hi (by simp) fun h1 e1 sb=>?_);exact fin h1 (rawInt nx) (fun b o m q=>sb.extBut b o m q) e1 rfl
 .show wpAny _ _ (seqItems? (.ref T) >>= _) _ _ _;refine aH (wpAny_seqItems hT' hd' ?_);dsimp only;rw[mY,hv];show wpAny _ _ (setNextDrawn S (p:Int).toNat (ep:Int).toNat >>= _) _ _ _;rw[mY,mY];refine aH ?_;unfold setNextDrawn;refine aH (wpAny_setState_of ho hd hS.fit ?_);dsimp only;rw[if_neg (show¬ (ep != ep)=true by simp),he];exact bg (fin s.heap (.ref T) (fun _ _ _ q=>q) hi rfl)
theorem zK {h1:Heap}{Q:Option Value->Shared->Prop}{P:PySem.Fin->Shared->Prop}(hh:A.handled=none)(k:∀b o,b≠I->s.heap.get? b=some o->h1.get? b=some o)
  (hQ:∀h',(∀b o,b≠I->s.heap.get? b=some o->h'.get? b=some o)->Q none { s with heap:=h' }) :
  wpAny (model prog w) A.in1 (newExc (.type "StopIteration") [] >>= fun e=>raiseNew e) P (fun e s'=>wpAny (model prog w) A (do if<- isInstance e (.type "StopIteration")then pure none else throw e) Q E s') { s with heap:=h1 }:=by
 refine aH ?_;simp only[newExc,newTuple];refine aH (wpAny_newObj_type ?_ (by size_fits));refine aH (m:=firstArgMember _ _) (wpAny_of_eq (a:=Value.none) (by first|rfl|(simp only[firstArgMember];rfl)) ?_);refine wpAny_newObj_type ?_ (by size_fits);refine aH (wpAny_handled ?_);rw[show A.in1.handled=none from hh];refine aH (bg (wpAny_throw ?_));refine aH (wpAny_isInstance (T:="StopIteration") (b:=true) ⟨_,iV _ rfl,rfl⟩ isSubtype_stop ?_);exact bg (hQ _ fun b o m e=>gv _ (gv _ (k b o m e)))
theorem G4 {i n ep:Nat}{es:Array (Int × Value)}{t:SetTable}{Q:Option Value->Shared->Prop}(hh:A.handled=none)(hi:s.heap.get? I=some (qb first i S n ep))(hS:mi s.heap S es ep t)(hn:es.size=n)
  (hx:wm prog w s S first i ep)
  (hQ:∀h',(∀b o,b≠I->s.heap.get? b=some o->h'.get? b=some o)->Q none { s with heap:=h' }):wpAny (model prog w) A (pyNext (.ref I)) Q E s:=by
 obtain⟨o,ho,hd⟩:=hS.ob;have hT:s.TypeIs (.ref I) "set_iterator":=⟨_,hi,rfl⟩;unfold pyNext;refine aH (wpAny_attempt (wpAny_callSpecial?_slot (name:=Str.ofString "__next__") hT slot_seti_next (wpAny_call_entry slot_seti_next hT iU ?_ (jb _))));unfold Builtin.«set_iterator.__next__»;refine aH (bg ?_);refine aH (wpAny_fieldsOf hi rfl ?_);refine aH (wpAny_setEntries_of ho hd hS.fit ?_);dsimp only;rw[if_neg (show¬ ((es.size:Int) != (n:Int))=true by rw[hn];simp)];rcases hx with⟨slot,rfl,H⟩|⟨T,o',c,vs,rfl,hT',hd',hv⟩
 .show wpAny _ _ (setNext S (slot:Int).toNat (i:Int).toNat (ep:Int).toNat >>= _) _ _ _;rw[mY,mY,mY];refine aH (H ?_);refine aH (wpAny_setField_rec hi (by simp) fun h1 e1 sb=>?_);exact zK hh (fun b o m q=>sb.extBut b o m q) hQ
 .show wpAny _ _ (seqItems? (.ref T) >>= _) _ _ _;refine aH (wpAny_seqItems hT' hd' ?_);dsimp only;rw[mY,hv];refine aH (wpAny_setField_rec hi (by simp) fun h1 e1 sb=>?_);refine aH (wpAny_setField_rec (s:={ s with heap:=h1 }) e1 (by simp) fun h2 e2 sb2=>?_);exact zK (s:=s) hh (fun b o m q=>sb2.extBut b o m (sb.extBut b o m q)) hQ
theorem lM (hby:w.params.followText "set-order" = true)(hS:mi s.heap S es ep t)(h:Q (((pickOrder (w.params.setOrder S ep) es)[i]?).map fun e=>(e.2,slot)) s) :
  wpAny (model prog w) A (setNext S slot i ep) Q E s:=by
 obtain⟨o,ho,hd⟩:=hS.ob;unfold setNext;refine aH (wpAny_setState_of ho hd hS.fit ?_);unfold setsByText;refine aH (aH (wpAny_askSetting (bg ?_)));dsimp only;rw[if_pos (show(model prog w).w.params.followText "set-order" = true from hby),if_neg (show¬ (ep != ep)=true by simp)];refine aH ?_;unfold setWalk;refine aH (wpAny_setState_of ho hd hS.fit ?_);unfold setsByText;refine aH (aH (wpAny_askSetting (bg ?_)));dsimp only;rw[if_pos (show(model prog w).w.params.followText "set-order" = true from hby)];refine aH (wpAny_askSetting (bg ?_));exact bg h
theorem jx (hby:w.params.followText "set-order" = false)(hS:mi s.heap S es ep t)(hl:t.led=true)(h1:es.size<=1)
  (h:Q (match es[SetTable.below t.place slot]?,t.place[SetTable.below t.place slot]? with|some (_,x),some j=>some (x,j+1)|_,_=>none) s) :
  wpAny (model prog w) A (setNext S slot i ep) Q E s:=by
 obtain⟨o,ho,hd⟩:=hS.ob;unfold setNext;refine aH (wpAny_setState_of ho hd hS.fit ?_);unfold setsByText;refine aH (aH (wpAny_askSetting (bg ?_)));dsimp only;rw[if_neg (show¬ (model prog w).w.params.followText "set-order" = true by rw[show(model prog w).w.params.followText "set-order" = false from hby];exact g6)];refine wpAny_ite_split (fun c=>absurd (show(!t.plain&&decide (es.size > 1))=true from c) (by rw[cG (Nat.not_lt.mpr h1),Bool.and_false];exact g6)) (fun _=>?_);refine aH ?_;show wpAny _ _ (if(!t.led&&!es.isEmpty)=true then unsupported "set:maker-not-led" else pure ()) _ _ _;rw[hl];exact bg (bg h)
theorem A6 {α:Type}{next:Nat->Nat}{n k:Nat}{l:List α}{out:Array α}{x:α}(h:l[next k % l.length]?=some x):pickOrder.go next (n+1) k l out=pickOrder.go next n (k+1) (l.eraseIdx (next k % l.length)) (out.push x):=by show(match l[next k % l.length]? with|some x=>pickOrder.go next n (k+1) (l.eraseIdx (next k % l.length)) (out.push x)|none=>out)=_;rw[h]
theorem lJ (next:Nat->Nat):∀(n k:Nat) (l:List α)(out:Array α),n=l.length->(pickOrder.go next n k l out).toList.Perm (out.toList++l)
 |0,k,l,out,e=>by obtain rfl:l=[]:=List.length_eq_zero_iff.mp e.symm;rw[List.append_nil];exact .refl _
 |n+1,k,[],out,e=>nomatch e
 |n+1,k,x::l,out,e=>by have hi:next k % (x::l).length<(x::l).length:=Nat.mod_lt _ (Nat.succ_pos _);rw[A6 (List.getElem?_eq_getElem hi)];generalize next k % (x::l).length=i at hi ⊢;refine(lJ next n (k+1) ((x::l).eraseIdx i) _ (by rw[List.length_eraseIdx,if_pos hi];exact Nat.succ.inj e)).trans ?_;rw[Array.toList_push,List.append_assoc];exact(km (x::l) i hi).append_left _
theorem jv (next:Nat->Nat)(xs:Array α):(pickOrder next xs).toList.Perm xs.toList:=by unfold pickOrder;exact(lJ next xs.size 0 xs.toList #[] (i5).symm).trans (.of_eq rfl)
inductive yi (prog:Program)(w:World)(A:Around)(S:Addr)(ss:List Str)(s:Shared):ba
 |mk (I:Addr)(s':Shared)(fp:a9)(vals:fO)(St:Nat->Heap->Prop)(hn:s.heap.get? I=none)(hfp:∀b∈fp,b=S\/s.heap.get? b=none)(hfe:∀b∈fp,∃o,s'.heap.get? b=some o)(W:Walks prog w A I fp [I] vals.length (fun i v=>vals[i]?=some v) St)(st:St 0 s'.heap)
  (hv:∃ts,StrsAre vals ts/\ts.Perm ss)(hk:∀b o,s.heap.get? b=some o->s'.heap.get? b=some o)(hs:s'.gens=s.gens/\s'.os=s.os/\s'.toks=s.toks):yi prog w A S ss s (.ref I) s'
theorem m9 {es es':List (Int × Value)}(hel:ElemsOf (PySem.strKind prog w) es)(hp:(we es).Perm ss)(p:es'.Perm es):∃ts,StrsAre (es'.map (·.2)) ts/\ts.Perm ss:=by
 refine⟨we es', ?_,(p.map _).trans hp⟩;unfold we;have e:(es'.map fun e=>strOf e.2)=(es'.map (·.2)).map strOf:=by rw[kR];rfl
 rw[e];refine strsAre_map _ fun v m=>?_;obtain⟨e,me,rfl⟩:=iz m;obtain⟨⟨k,hk,_⟩,_⟩:=hel e (p.mem_iff.mp me);obtain⟨t,ht⟩:=Value.isStrOf_shape hk;exact⟨k,t,ht⟩
theorem Bj (ho:s.heap.get? I=some o)(hc:o.cls=.type "set_iterator")(h:Q (.ref I) s):wpAny (model prog w) A (pyIter (.ref I)) Q E s:=by have hT:s.TypeIs (.ref I) "set_iterator":=⟨o,ho,hc⟩;refine wpAny_pyIter_slot hT jy (wpAny_call_entry jy hT nP ?_ (oU _));show wpAny _ _ (ret (.ref I)) _ _ s;exact bg ⟨_,rfl, "set_iterator",_,hT,slot_seti_next.lookup,h⟩
theorem wg {es:Array (Int × Value)}{t:SetTable}{fp:a9}{vals:fO}(F:Nat->Value)(X:Heap->Prop)(hh:A.handled=none)(hI:I∈fp)(hS:S∈fp)(hIS:S≠I)(hn:es.size=n)
  (hX:∀h h',X h->(∀b∈fp,b≠I->∀o,h.get? b=some o->h'.get? b=some o)->X h')
  (Hi:∀(i:Nat) (x:Value)(s:Shared),vals[i]?=some x->mi s.heap S es ep t->X s.heap->∃nx,F (i+1)=MS nx (F i)/\wo prog w s S (F i) i ep es x nx)
  (Hd:∀s:Shared,mi s.heap S es ep t->X s.heap->wm prog w s S (F vals.length) vals.length ep) :
  Walks prog w A I fp [I] vals.length (fun i v=>vals[i]?=some v) (fun i h=>h.get? I=some (qb (F i) i S n ep)/\mi h S es ep t/\X h) where
 sub:=fun b hb=>by rw[aS hb];exact hI
 frame:=fun i h h' st hk=>⟨hk I hI _ st.1,st.2.1.at (hk S hS),hX h h' st.2.2 fun b m _ o e=>hk b m o e⟩
 item:=fun i s Q E hi st hQ=>by obtain⟨x,hx⟩:∃x,vals[i]?=some x:=⟨_,List.getElem?_eq_getElem hi⟩;obtain⟨nx,e1,e2⟩:=Hi i x s hx st.2.1 st.2.2;refine G5 st.1 st.2.1 hn e2 fun h' k1 k2=>hQ x h' s.toks hx ⟨e1▸k2,st.2.1.at fun o e=>k1 S o hIS e,hX _ _ st.2.2 fun b _ m o e=>k1 b o m e⟩ fun b o m e=>k1 b o (fun q=>m (List.mem_singleton.mpr q)) e
 done:=fun s Q E st hQ=>G4 hh st.1 st.2.1 hn (Hd s st.2.1 st.2.2) fun h' k=>hQ h' s.toks fun b o m e=>k b o (fun q=>m (List.mem_singleton.mpr q)) e
 self:=fun i s Q E st hQ=>Bj st.1 rfl hQ
theorem oE (f:α->β)(l:List α)(i:Nat)(h:(l.map f)[i]?=some x):∃a,l[i]?=some a/\f a=x:=by rw[List.getElem?_map]at h;exact Option.map_eq_some_iff.mp h
theorem iF {t:SetTable}(h:t.fits n=true):t.place.size=n:=by unfold SetTable.fits at h;exact eM (cE h).1
theorem qJ (j k:Nat):SetTable.below #[j] k=if j<k then 1 else 0:=by show(if 0<1 then(if #[j].getD ((0+1) / 2) k<k then SetTable.below.go #[j] k 0 ((0+1) / 2+1) 1 else SetTable.below.go #[j] k 0 0 ((0+1) / 2))else 0)=_;rw[if_pos Nat.one_pos];rfl
theorem A9 (es:Array (Int × Value)):((List.range es.size).map fun i=>es[i]?.getD (0, .none))=es.toList:=by refine List.ext_getElem (by simp) fun i h1 h2=>?_;simp at h1;simp[h1]
theorem xu (hh:A.handled=none){S:Addr}{ss:List Str}{Q:ba}(hS:dz w s.heap S ss)(h:∀v s',yi prog w A S ss s v s'->Q v s'):wpAny (model prog w) A (pyIter (.ref S)) Q E s:=by
 obtain⟨o,es,ep,t,ho,hex,hd,he0,hp,hb,hf,hl,hpl,_⟩:=hS;have hel:=he0.of (prog:=prog);have hT:s.TypeIs (.ref S) "set":=⟨o,ho,hex.1⟩;have hSl:=Heap.lt_size ho;have D:mi s.heap S es ep t:=⟨⟨o,ho,hd⟩,hf⟩;refine wpAny_pyIter_slot hT PySem.F.slot_set_iter (wpAny_call_entry PySem.F.slot_set_iter hT ph ?_ (PySem.F.args_set_iter_1 _));unfold Builtin.«frozenset.__iter__» Builtin.Frozenset.slot0 Builtin.Frozenset.sizeOf setDrawn;refine aH (aH (bg (bg ?_)));refine aH (aH (wpAny_setEntries_of ho hd hf (bg ?_)));refine aH (aH (wpAny_setState_of ho hd hf ?_));unfold setsByText;refine aH (aH (wpAny_askSetting (bg (bg ?_))));dsimp only;have hge:∀b,s.heap.objs.size<=b->s.heap.get? b=none:=fun b q=>gR q;have tail:∀(first:Value)(s1:Shared),s1.heap.get? S=some o->yi prog w A S ss s (.ref s1.heap.objs.size) { s1 with heap:=s1.heap.push (qb first 0 S es.size ep) } ->
   wpAny (model prog w) A.in1 (do let e <- setEpoch S;let v <- newFields "set_iterator" [first,rawInt 0, .ref S,rawInt es.size,rawInt e];ret v) (fun fin s'=>∃v,fin=.done (.ret v)/\∃T' r,s'.TypeIs v T'/\typeLookup (.type T') (Str.ofString "__next__")=pure (some r)/\Q v s') E s1:=fun first s1 k it=>by
  refine aH (wpAny_setEpoch_of k hd hf ?_);refine aH (wpAny_newObj_type (bg ⟨_,rfl, "set_iterator",_,⟨_,iV _ rfl,rfl⟩,slot_seti_next.lookup,h _ _ it⟩))
 have k1:∀ob:Obj,∀b o',s.heap.get? b=some o'->(s.heap.push ob).get? b=some o':=fun ob b o' e=>gv _ e;have plain:∀(vals:fO)(F:Nat->Value),(∃ts,StrsAre vals ts/\ts.Perm ss)->F 0=rawInt 0 ->
   (∀(i:Nat) (x:Value)(s:Shared),vals[i]?=some x->mi s.heap S es ep t->∃nx,F (i+1)=MS nx (F i)/\wo prog w s S (F i) i ep es x nx)->(∀s:Shared,mi s.heap S es ep t->wm prog w s S (F vals.length) vals.length ep) ->
   yi prog w A S ss s (.ref s.heap.objs.size) { s with heap:=s.heap.push (qb (rawInt 0) 0 S es.size ep) }:=fun vals F hv e0 Hi Hd=>by
  refine .mk _ _ [s.heap.objs.size,S] vals _ (aD _) (fun b m=>?_) (fun b m=>?_) (wg F (fun _=>True) hh dX (.tail _ (.head _)) (Nat.ne_of_lt hSl) rfl (fun _ _ _ _=>trivial) (fun i x s e d _=>Hi i x s e d) fun s d _=>Hd s d) ⟨by rw[e0];exact iV _ rfl,D.at fun o e=>k1 _ S o e,trivial⟩ hv (k1 _) ⟨rfl,rfl,rfl⟩
  .rcases bA m with rfl|m
   .exact .inr (aD _)
   .exact .inl (aS m)
  .rcases bA m with rfl|m
   .exact⟨_,iV _ rfl⟩
   .rw[aS m];exact⟨o,k1 _ S o ho⟩
 cases hby:w.params.followText "set-order" with
 |true =>
  rw[if_neg (show¬ (!(model prog w).w.params.followText "set-order" && _)=true by rw[show(model prog w).w.params.followText "set-order" = true from hby];exact g6)];refine aH (bg (tail _ s ho ?_));have pp:=jv (w.params.setOrder S ep) es;refine plain ((pickOrder (w.params.setOrder S ep) es).toList.map (·.2)) (fun _=>rawInt 0) (m9 hel hp pp) rfl (fun i x s' e d=>⟨0,rfl, .inl ⟨0,rfl,fun{A' E' Q'} q=>lM hby d ?_⟩⟩) fun s' d=>.inl ⟨0,rfl,fun{A' E' Q'} q=>lM hby d ?_⟩
  .obtain⟨e1,e2,e3⟩:=oE _ _ _ e;rw[<- Array.getElem?_toList,e2];subst e3;exact q
  .rw[<- Array.getElem?_toList,Dm (by rw[dx];exact fc _)];exact q
 |false =>
  by_cases h1:es.size<=1
  .refine wpAny_ite_split (fun c=>absurd (show(!(model prog w).w.params.followText "set-order" && (!t.plain&&decide (es.size > 1)))=true from c) (by rw[cG (Nat.not_lt.mpr h1),Bool.and_false,Bool.and_false];exact g6)) fun _=>?_;refine aH (bg (tail _ s ho ?_));have led:=hl.resolve_left (by rw[hby];exact g6);have hpl:=iF hf;have none_at:∀k,es.size<=k->es[k]?=none:=fun k q=>Array.getElem?_eq_none q;refine plain (es.toList.map (·.2)) (fun i=>if i=0 then rawInt 0 else rawInt ((t.place.getD 0 0+1:Nat):Int)) (m9 hel hp (.refl _)) rfl (fun i x s' e d=>?_) fun s' d=>?_
   .obtain⟨⟨hh',x'⟩,e2,e3⟩:=oE _ _ _ e;subst e3;have hi:i<es.size:=by rw[<- i5];exact(List.getElem?_eq_some_iff.mp e2).1
    obtain rfl:i=0:=Nat.lt_one_iff.mp (kS hi h1);obtain⟨j0,hj⟩:=Array.size_eq_one_iff.mp (hpl.trans (Nat.le_antisymm h1 hi));refine⟨t.place.getD 0 0+1,rfl, .inl ⟨0,rfl,fun{A' E' Q'} q=>jx hby d led h1 ?_⟩⟩;rw[hj,qJ,if_neg (Nat.not_lt_zero _),<- Array.getElem?_toList,e2];rw[hj]at q;exact q
   .rw[dx,i5];rcases Nat.eq_zero_or_pos es.size with z|z
    .rw[z];refine .inl ⟨0,rfl,fun{A' E' Q'} q=>jx hby d led h1 ?_⟩;rw[none_at _ (by rw[z];exact gL _)];exact q
    .have z:=Nat.le_antisymm h1 z;obtain⟨j0,hj⟩:=Array.size_eq_one_iff.mp (hpl.trans z);rw[z,hj];refine .inl ⟨j0+1,rfl,fun{A' E' Q'} q=>jx hby d led h1 ?_⟩;rw[hj,qJ,if_pos (Nat.lt_succ_self _),none_at _ (Nat.le_of_eq z)];exact q
  .have h1:=Nat.lt_of_not_le h1;have hpl:=hpl.resolve_left (Nat.ne_of_gt (Nat.lt_of_succ_lt h1));refine wpAny_ite_split (fun _=>?_) fun c=>absurd (show(!(model prog w).w.params.followText "set-order" && (!t.plain&&decide (es.size > 1)))=true by rw[show(model prog w).w.params.followText "set-order" = false from hby,hpl,dg h1];rfl) c;refine aH (zX es.size (List.range es.size) (List.length_range).symm fun ys dr p=>?_);have hys:ys.length=es.size:=p.length_eq.trans List.length_range;refine aH (wpAny_newTuple ?_ (by rw[dx,hys];exact fits_of_scanBound hb));generalize htup:({ cls:=.type "tuple",data:=.seq (ys.map fun i:Nat=>rawInt i).toArray }:Obj)=tup;have hfr:tup.isFreed=false:=by rw[<- htup];rfl
   have hsz:(s.heap.push tup).objs.size=s.heap.objs.size+1:=Heap.size_push ..;have hp2:(ys.map fun i=>es[i]?.getD (0, .none)).Perm es.toList:=(p.map _).trans (.of_eq (A9 es));refine tail _ { s with drawn:=dr,heap:=s.heap.push tup } (k1 _ S o ho) ?_;refine .mk _ _ [(s.heap.push tup).objs.size,s.heap.objs.size,S] ((ys.map fun i=>es[i]?.getD (0, .none)).map (·.2)) _ (hge _ (by show _<=(s.heap.push tup).objs.size;rw[hsz];exact Nat.le_succ _)) (fun b m=>?_) (fun b m=>?_)
    (wg (fun _=>.ref s.heap.objs.size) (fun h=>h.get? s.heap.objs.size=some tup) hh dX (.tail _ (.tail _ (.head _))) (by rw[hsz];exact Nat.ne_of_lt (Nat.lt_succ_of_lt hSl)) rfl (fun h h' x k=>k _ (.tail _ (.head _)) (by rw[hsz];exact Nat.ne_of_lt (Nat.lt_succ_self _)) _ x) (fun i x s' e d X=>?_) fun s' d X=>?_)
    ⟨iV _ rfl,D.at fun o e=>gv _ (k1 _ S o e),gv _ (iV _ hfr)⟩ (m9 hel hp hp2) (fun b o' e=>gv _ (k1 _ b o' e)) ⟨rfl,rfl,rfl⟩
   .rcases bA m with rfl|m
    .exact .inr (hge _ (by rw[hsz];exact Nat.le_succ _))
    .rcases bA m with rfl|m
     .exact .inr (aD _)
     .exact .inl (aS m)
   .rcases bA m with rfl|m
    .exact⟨_,iV _ rfl⟩
    .rcases bA m with rfl|m
     .exact⟨_,gv _ (iV _ hfr)⟩
     .rw[aS m];exact⟨o,gv _ (k1 _ S o ho)⟩
   .obtain⟨⟨hh',x'⟩,e2,e3⟩:=oE _ _ _ e;subst e3;obtain⟨q,e4,e5⟩:=oE _ _ _ e2;have hq:q<es.size:=List.mem_range.mp (p.mem_iff.mp (qw e4));rw[Array.getElem?_eq_getElem hq]at e5;refine⟨0,rfl, .inr ⟨_,tup,0,(ys.map fun i:Nat=>rawInt i).toArray,q,hh',rfl,X,by rw[<- htup], ?_,by rw[Array.getElem?_eq_getElem hq];exact congrArg some e5⟩⟩;rw[List.getElem?_toArray,List.getElem?_map,e4];rfl
   .refine .inr ⟨_,tup,0,(ys.map fun i:Nat=>rawInt i).toArray,rfl,X,by rw[<- htup], ?_⟩;rw[List.getElem?_toArray,Dm (by rw[dx,dx,dx];exact fc _)]
theorem CU (hT:s.TypeIs (.ref r) "set")(h:Q false s):wpAny (model prog w) A (Builtin.List.listLengthHint (.ref r)) Q E s:=by
 unfold Builtin.List.listLengthHint;refine aH (wpAny_specialOf hT PySem.F.slot_set_len.lookup ?_);generalize hid:("set.__len__" : String)=id0
 wp_delta
 rw[show splitId id0=some ("set", "__len__")from by subst hid;decide +kernel];subst hid;refine aH (wpAny_isInstance (T:="set") (b:=true) hT (by rw[isSubtype_type];kernel_rfl) ?_);refine wpAny_ite_split (fun hab=>absurd hab (by decide)) (fun _=>?_);refine wpAny_ite_split (fun _=>?_) (fun hab=>absurd (by decide +kernel) hab);refine aH (wpAny_typeOf hT ?_);exact bg h
theorem ur (hh:A.handled=none)(hS:dz w s.heap S ss)(hl:ss.length<=1000)
  (h:∀vals s',(∃ts,StrsAre vals ts/\ts.Perm ss)->(∀b o,s.heap.get? b=some o->s'.heap.get? b=some o)->(s'.gens=s.gens/\s'.os=s.os/\s.toks<=s'.toks)->Q vals s'):wpAny (model prog w) A (collect (.ref S)) Q E s:=by
 obtain⟨o,ho,hc,hds,hdn⟩:=hS.obj;have hSl:=Heap.lt_size ho;have hh1:A.in1.handled=none:=hh;unfold collect;refine aH (wpAny_runValue (codeAny_builtin entry_proto_collect' ?_));rw[Around.under_plainId PySem.F.plain_proto_collect _];show wpAny _ A.in1 (newList [] >>= fun l=>again (.builtin "list.__iadd__" ⟨[l, .ref S],[]⟩)) _ _ s;refine aH (wpAny_newObj_type ?_);refine bg ⟨plainId_quiet PySem.F.plain_list_iadd _,codeAny_builtin entry_list_iadd' ?_⟩;rw[Around.under_plainId PySem.F.plain_list_iadd _];show wpAny _ A.in1 (Builtin.List.listExtendWith (.ref s.heap.objs.size) (.ref S) (.ref s.heap.objs.size)) _ _ _;have hL:(s.heap.push { cls:=.type "list",data:=.seq ([]:fO).toArray }).get? s.heap.objs.size=some { cls:=.type "list",data:=.seq #[] }:=iV _ rfl;generalize hH1:s.heap.push { cls:=.type "list",data:=.seq ([]:fO).toArray }=h1 at hL ⊢;have k1:∀b o,s.heap.get? b=some o->h1.get? b=some o:=fun b o e=>by rw[<- hH1];exact gv _ e
 have hS1:dz w h1 S ss:=hS.at (k1 S);have hLS:s.heap.objs.size≠S:=Nat.ne_of_gt hSl;unfold Builtin.List.listExtendWith;refine aH (wpAny_typeOf (T:="set") ⟨o,k1 S o ho,hc⟩ ?_);have e1:Builtin.List.listSameRef (.ref s.heap.objs.size) (.ref S)=false:=by simp[Builtin.List.listSameRef,hLS]
 have e2:(Value.type "set" == Value.type "list")=false:=by decide
 have e3:(Value.type "set" == Value.type "tuple")=false:=by decide
 simp -iota only[e1,e2,e3,Bool.or_false,Bool.false_eq_true,if_false];refine aH (xu (A:=A.in1) (s:={ s with heap:=h1 }) hh hS1 fun v s2 it=>?_);obtain⟨I,s2,fp,vals,St,hIn,hfp,hfe,W,st,hv,hk,hs⟩:=it;have hT2:s2.TypeIs (.ref S) "set":=⟨o,hk S o (k1 S o ho),hc⟩;refine aH (wpAny_holding (CU hT2 ?_));have hL2:=hk _ _ hL;have hlen:vals.length=ss.length:=by obtain⟨ts,q1,q2⟩:=hv;rw[q1.len_eq,q2.length_eq]
 have hLf:s.heap.objs.size∉fp:=fun m=>by
  rcases hfp _ m with q|q
  .exact hLS q
  .rw[show h1.get? s.heap.objs.size=none from q]at hL;exact nn hL
 have key:∀(s3:Shared)(c₁:Nat),St 0 s3.heap->(∀b o,s.heap.get? b=some o->s3.heap.get? b=some o)->s3.gens=s.gens/\s3.os=s.os/\s.toks<=s3.toks->s3.heap.get? s.heap.objs.size=some { cls:=.type "list",data:=.seq #[] c₁ } ->
   codeAny (model prog w) A (.builtin "list.extend.loop" ⟨[.ref s.heap.objs.size, .ref I, .ref s.heap.objs.size],[]⟩) (fun r s'=>match r with
    |.ok (.ret v)=>wpAny (model prog w) A (match v with
     |.ref a=>do
      let o <- load a
      match o.data with
      |.seq xs _=>pure xs.toList
      |_=>unsupported "internal:collect"
     |_=>unsupported "internal:collect") Q E s'
    |.ok _=>False
    |.error e=>E e s') s3:=fun s3 c₁ st3 k3 e3 hL3=>by
  refine codeAny_extend_loopS W.toS (by rw[hlen];exact fits_of_scanBound (lC hl (by decide))) _ hLf _ vals.length 0 s3 #[] c₁ rfl (gL _) st3 hL3 (ItemsOf.nil _) fun s' acc' c' hm hL' hacc=>?_;refine aH (wpAny_load hL' (bg ?_));have ea:acc'.toList=vals:=by
   refine List.ext_getElem? fun j=>?_;rw[Array.getElem?_toList];cases e:acc'[j]? with
   |some x=>exact(hacc.2 j x e).symm
   |none=>exact(Dm (by rw[<- hacc.1];exact Array.getElem?_eq_none_iff.mp e)).symm
  rw[ea];refine h vals s' hv (fun b o e=>hm.heap b o (fun m=>?_) (k3 b o e)) ⟨hm.gens.trans e3.1,hm.os.trans e3.2.1,aJ e3.2.2 hm.toks⟩;rcases bA m with rfl|m
  .rw[aD]at e;exact nn e
  .rw[aS m]at e;have:=k1 _ _ e;rw[show h1.get? I=none from hIn]at this;exact nn this
 have k2:∀b o,s.heap.get? b=some o->s2.heap.get? b=some o:=fun b o e=>hk b o (k1 b o e);have e2:s2.gens=s.gens/\s2.os=s.os/\s.toks<=s2.toks:=⟨hs.1,hs.2.1,Nat.le_of_eq hs.2.2.symm⟩;refine wpAny_ite_split (fun _=>?_) (fun _=>bg ⟨plainId_quiet PySem.F.plain_extend_loop _,key s2 _ st k2 e2 hL2⟩);refine aH (wpAny_rule ?_);refine aH ?_;show wpAny _ _ (updateSeq s.heap.objs.size (·.push .none) >>= fun _=>updateSeq s.heap.objs.size (·.pop)) _ _ _;refine aH (wpAny_updateSeq hL2 rfl ?_);have hL3:=Heap.get?_update_self (Obj.mapSeq (·.push Value.none)) hL2 rfl;refine wpAny_updateSeq (hz:=by seq_fits) hL3 rfl ?_;have hL4:=Heap.get?_update_self (Obj.mapSeq (·.pop)) hL3 rfl;have oth:∀b o,b≠s.heap.objs.size->s2.heap.get? b=some o->((s2.heap.update s.heap.objs.size (Obj.mapSeq (·.push Value.none))).update s.heap.objs.size (Obj.mapSeq (·.pop))).get? b=some o:=fun b o n e =>
  (Heap.get?_update_other _ _ n.symm).trans ((Heap.get?_update_other _ _ n.symm).trans e)
 refine bg ⟨plainId_quiet PySem.F.plain_extend_loop _,key _ _ (W.frame 0 _ _ st fun b m o e=>oth b o (fun q=>hLf (q▸m)) e) (fun b o e=>oth b o (Nat.ne_of_lt (Heap.lt_size e)) (k2 b o e)) e2 hL4⟩
theorem xK (hh:A.handled=none)(hS:dz w s.heap S ss)(hl:ss.length<64)
  (h:∀D s' (out:Array Value) e,StrsAre out.toList (dZ ss)->s.heap.get? D=none->s'.heap.get? D=some (seqObj "list" out e)->(∀b o,s.heap.get? b=some o->s'.heap.get? b=some o)->(s'.gens=s.gens/\s'.os=s.os/\s.toks<=s'.toks)->Q (.ref D) s') :
  wpAny (model prog w) A (call (.builtin "sorted") [.ref S]) Q E s:=by
 refine Calls.call_function_entry kind_sorted plain_sorted entry_sorted (args_sorted1 _) ?_;unfold Builtin.«sorted»;refine aH (m:=checkCount "sorted" 1 1 _) (bg ?_);refine aH (ur (A:=A.in1) hh hS (aJ (il hl) (by decide)) fun vals s1 hv k e=>?_);obtain⟨ts,h1,h2⟩:=hv;have hlen:vals.length<64:=by rw[h1.len_eq,h2.length_eq];exact hl
 refine aH (wpAny_newList ?_ (aJ (il hlen) (by decide)));have hoL:(s1.heap.push (seqObj "list" vals.toArray 0)).get? s1.heap.objs.size=some (seqObj "list" vals.toArray 0):=iV _ rfl;have fr:s.heap.get? s1.heap.objs.size=none:=bw (fun o e=>k _ o e) (aD _);refine aH (wpAny_holding (wpAny_call_entry slot_list_sort ⟨_,hoL,rfl⟩ entry_list_sort (list_sort_treeK PyProof.Rows.strKind_oneLt hoL h1.keysOf (fun v₁ v₂ rest q=>keyKind_strs (by rw[<- q];exact h1)) hlen fun st' a1 a2=>⟨_,rfl, ?_⟩) (args_list_sort _)));obtain⟨ss',b1,b2,b3⟩:=sorted_out_str h1 a1 a2;obtain⟨e',he⟩:=sortedHeap_at (vs:=vals) (out:=(arrOf st').map (·.2)) hoL;rw[vV (b2.trans h2) b3]at b1;refine bg ⟨_,rfl,h _ _ _ e' b1 fr he (fun b o q=>?_) e⟩;have lt:=Heap.lt_size (k b o q);rw[sortedHeap_old (Nat.ne_of_lt lt) (by rw[Heap.size_push];exact Nat.lt_succ_of_lt lt)];exact gv _ (k b o q)
end
end
section
inductive SV:List (Str × Value)->List (Str × Str)->Prop
 |nil:SV [] []
 |cons {k v t a b}:SV a b->SV ((k, .str v t)::a) ((k,v)::b)
theorem SV.keys (x:SV a b):a.map (·.1)=b.map (·.1):=by
 induction x with
 |nil=>rfl
 |cons _ ih=>rw[i8,i8,ih]
theorem SV.append (x:SV a b)(y:SV c d):SV (a++c) (b++d):=by
 induction x with
 |nil=>exact y
 |cons _ ih=>exact .cons ih
theorem SV.upd (x:SV a b):SV (a.map fun kv=>if kv.1=k then(kv.1, .str v t)else kv) (b.map fun p=>if p.1=k then(p.1,v)else p):=by
 induction x with
 |nil=>exact .nil
 |@cons k' v' t' a b _ ih =>
  rw[i8,i8];by_cases c:k'=k
  .rw[if_pos c,if_pos c];exact .cons ih
  .rw[if_neg c,if_neg c];exact .cons ih
theorem uh:∀{a:List (Str × α)}{b:List (Str × β)},a.map (·.1)=b.map (·.1)->a.any (fun p=>decide (p.1=k))=b.any (fun p=>decide (p.1=k))
 |[],[],_=>rfl
 |[],_::_,e=>by cases e
 |_::_,[],e=>by cases e
 |p::a,q::b,e=>by rw[i8,i8]at e;obtain⟨e1,e2⟩:=List.cons.inj e;rw[List.any_cons,List.any_cons,e1,uh e2]
theorem SV.put (x:SV a b):SV (stored a k (.str v t)) (lK b k v):=by
 unfold stored lK;rw[uh x.keys];by_cases c:b.any (fun p=>decide (p.1=k))=true
 .rw[if_pos c,if_pos c];exact x.upd
 .rw[if_neg c,if_neg c];exact x.append (.cons .nil)
theorem DY:(lK b k v).length<=b.length+1:=by
 unfold lK;by_cases c:b.any (fun p=>decide (p.1=k))=true
 .rw[if_pos c,dx];exact Nat.le_succ _
 .rw[if_neg c,dR];exact fc _
theorem SV.len (x:SV a b):a.length=b.length:=by
 have:=congrArg List.length x.keys
 rwa [dx,dx]at this
theorem Bo (kv:List (Str × Str))(d:D):(lQ kv d).length<=kv.length+1:=by
 unfold lQ;cases zw d with
 |some p=>exact DY
 |none=>exact Nat.le_succ _
theorem qT:∀(pre:List D)(kv:List (Str × Str)),(pre.foldl lQ kv).length<=kv.length+pre.length
 |[],_=>fc _
 |d::pre,kv=>aJ (qT pre _) ((aJ (Nat.add_le_add_right (Bo kv d) _) (Nat.le_of_eq (Nat.add_assoc _ 1 _ |>.trans (congrArg (kv.length + ·) (Nat.add_comm 1 _))))))
theorem Bp (l:List Str)(d:D):(rN l d).length<=l.length+1:=by
 cases d with
 |str x =>
  show(if l.any (· == x)then l else l++[x]).length<=_;by_cases c:l.any (· == x)=true
  .rw[if_pos c];exact Nat.le_succ _
  .rw[if_neg c,dR];exact fc _
 |_=>exact Nat.le_succ _
theorem qV:∀(pre:List D)(l:List Str),(pre.foldl rN l).length<=l.length+pre.length
 |[],_=>fc _
 |d::pre,l=>aJ (qV pre _) (by rw[sW];have:=Bp l d;lia)
section
variable {G:GC}{c:CK}{O:a9}{h h':Heap}{Dd:Addr}{pre:List D}
def bz (G:GC)(c:CK)(O:a9)(h:Heap)(Dd:Addr)(pre:List D):Prop:=match c with
 |.list _=>∃vs:Array Value,h.PlainList Dd vs/\ak G.w O h vs.toList pre
 |.dict _ _=>(∃kvs:List (Str × Value),h.DictOf (PySem.strKind G.prog G.w) Dd kvs/\SV kvs (k9 pre))/\pre.all lv=true/\(Dd==sysModules)=false
 |.set _=>dz G.w h Dd (qa pre)/\pre.all sS=true
noncomputable def pJ (c:CK):Nat:=match c with
 |.list _=>16777216
 |_=>1000
theorem bz.obj (x:bz G c O h Dd pre):∃o,h.get? Dd=some o/\HD o/\gq o:=by
 cases c with
 |list elt=>obtain⟨vs,⟨n,e⟩,_⟩:=x;exact⟨_,e,ik rfl rfl, .inl nofun⟩
 |dict kx vx=>obtain⟨⟨kvs,⟨o,es,ep,e,c,d,_⟩,_⟩,_⟩:=x;exact⟨o,e,dY d, .inl (by rw[c.1];nofun)⟩
 |set elt =>
  obtain⟨o,e,c,⟨es,ep,t,d⟩,_⟩:=x.1.obj;exact⟨o,e,⟨fun xs n _ q=>(by rw[d]at q;cases q),fun vs _ q=>(by rw[d]at q;cases q)⟩, .inl (by rw[c];nofun)⟩
theorem bz.move (x:bz G c O h Dd pre)(e:∀o,h.get? Dd=some o->h'.get? Dd=some o)(r:∀vs,ak G.w O h vs pre->ak G.w O h' vs pre):bz G c O h' Dd pre:=by
 cases c with
 |list elt=>obtain⟨vs,⟨n,q⟩,y⟩:=x;exact⟨vs,⟨n,e _ q⟩,r _ y⟩
 |dict kx vx=>obtain⟨⟨kvs,q,y⟩,z⟩:=x;exact⟨⟨kvs,q.at e,y⟩,z⟩
 |set elt=>exact⟨x.1.at e,x.2⟩
theorem bz.sub (x:bz G c O h Dd pre)(k:∀a∈O',a∈O):bz G c O' h Dd pre:=by
 cases c with
 |list elt=>obtain⟨vs,q,y⟩:=x;exact⟨vs,q,y.sub k⟩
 |dict kx vx=>exact x
 |set elt=>exact x
theorem bz.keep (x:bz G c O h Dd pre)(k:dS h h'):bz G c O h' Dd pre:=by obtain⟨o,e,_,q⟩:=x.obj;exact x.move (fun o' e'=>by rw[e]at e';obtain rfl:=aG e';exact k _ _ e q) fun vs r=>r.keep k
theorem bz.but (x:bz G c O h Dd pre)(k:aL W h h')(hn:bD O W h)(m:Dd∉W):bz G c O h' Dd pre:=by obtain⟨o,e,_,q⟩:=x.obj;exact x.move (fun o' e'=>by rw[e]at e';obtain rfl:=aG e';exact k _ _ m e q) fun vs r=>r.but k hn
end
end
section
section
variable {G:GC}{A:Around}{z:Bool}{env:Env}{own:dM}{O:a9}{ρ:aF}{d:D}
theorem cV.iter (I:cV G A env own O ρ s)(hw:∀b∈wr,∀o,s.heap.get? b=some o->HF false o)(hO:∀b∈wr,b∉O)(h0:∀b∈wr,G.h₀.get? b=none)
  (k:∀b o,b∉wr->s.heap.get? b=some o->h'.get? b=some o)(p:0<tk):cV G A env own O ρ { s with heap:=h',toks:=tk }/\bD O wr s.heap/\bI G wr s { s with heap:=h',toks:=tk }:=by
 obtain⟨a,b,_⟩:=I.iterZ (z:=false) hw (fun q=>Bool.noConfusion q) hO h0 k p;exact⟨a,nc.turn fun b m o e=>(hw b m o e).plain,b⟩
def kZ (G:GC)(A:Around)(c:CK)(gens:List Comprehension)(scope:Scope)(pos:Pos)(k:Nat)(ifs:dN)(Dd:Addr)(env:Env)(K:Shared->Prop)(E:ba)(s:Shared):Prop:=
 wpAny (bC G) A (EF ifs env) (fun ok s4=>if ok=true then wpAny (bC G) A (iH c gens scope pos k Dd env) (fun _ s5=>K s5) E s4 else K s4) E s
def rV (G:GC)(A:Around)(c:CK)(body:(Shared->Prop)->(Value->Shared->Prop)->Shared->Prop)(env:Env)(own:dM)(O W:a9)(Dd:Addr)(ρ:aF)(out:List D):Prop:=
 ∀(s:Shared)(pre:List D),cV G A env own O ρ s->bz G c O s.heap Dd pre->pre.length+out.length<=pJ c ->
  ∀(K:Shared->Prop)(E:ba),(∀s',bI G W s s'->cV G A env own O ρ s'->bz G c O s'.heap Dd (pre++out)->K s')->body K E s
theorem nl (h:ef f (x::xs)=some out):∃a b,f x=some a/\ef f xs=some b/\out=a++b:=
 aq h fun a h1 h=>aq h fun b h2 h=>⟨a,b,h1,h2,(aG h).symm⟩
inductive Hy (G:GC)(A:Around)(c:CK)(env:Env)(own:dM)(O wW:a9)(Dd:Addr)(ρ:aF)(St:Nat->Heap->Prop)(f:D->Option (List D))(ds es out pre:List D)(vs:fO)(s:Shared)(n:Nat)(s':Shared):Prop
 |mk (i:Nat) (a b:List D)(hi:i<=ds.length)(hn:n=ds.length+1-i)(hgb:ef f (ds.drop i)=some b)(hab:out=a++b)(sx:bI G wW s s')(Iv':cV G A env own O ρ s')(st':St i s'.heap)(rv':ak G.w O s'.heap vs es)
  (ac':bz G c O s'.heap Dd (pre++a))
theorem Aj {tg:aN}{I Dd:Addr}{fp wr WC W:a9}{ds es:List D}{vs:fO}{St:Nat->Heap->Prop}{P Md:Nat->Value->Heap->Prop}
  {f:D->Option (List D)}{out pre:List D}{s:Shared}{R:Result->Shared->Prop}
  (hg:gens[k]?=some ⟨target,iter,ifs,0⟩)(hg':∀g',gens[k+1]?=some g'->g'.is_async=0)
  (ht:cN G env own target tg)(hno:∀n∈tg,ρ.get n=none)(hWC:Ij env G WC tg)(hDW:Dd∉WC)(hsub:∀a∈WC,a∈W)
  (it:rX G A z target I fp wr ds vs es St P Md)(st:St 0 s.heap)(rv:ak G.w O s.heap vs es)(hfp:∀b∈fp,b∉W)(hwO:∀b∈wr,b∉O)(hw0:∀b∈wr,G.h₀.get? b=none)(hfe:∀b∈fp,∃o,s.heap.get? b=some o)
  (hDO:Dd∈O)(hWO:∀a∈W,a∈O)(hWM:∀s pre,cV G A env own O ρ s->bz G c O s.heap Dd pre->bD O W s.heap)
  (hbody:∀x ρ' a,x∈ds->bx ρ tg x=some ρ'->f x=some a->rV G A c (kZ G A c gens scope pos k ifs Dd env) env own O W Dd ρ' a)(hf:ef f ds=some out)(hf':∀x∈ds,(f x).isSome->∃ρ',bx ρ tg x=some ρ')
  (hsub':∀x ρ',bx ρ tg x=some ρ'->∀n d,ρ.get n=some d->ρ'.get n=some d)
  (hz:z=true->(∀n d,ρ.get n=some d->dF d=true)/\(∀d∈es,dF d=true)/\∀d∈pre++out,dF d=true)
  (Iv:cV G A env own O ρ s)(ac:bz G c O s.heap Dd pre)(hlen:pre.length+out.length<=pJ c)
  (q:∀s',bI G (wr++W) s s'->cV G A env own O ρ s'->bz G c O s'.heap Dd (pre++out)->R (.ok .next) s') :
  codeAny (bC G) A (.compLoop (c.expr gens scope pos) k (.ref I) (.ref Dd) env) R s:=by
 have T:=it.turns;refine codeAny_loop (by cases c <;> rfl)
  (Hy G A c env own O (wr++W) Dd ρ St f ds es out pre vs s) (fun n s' hI=>?_) (ds.length+1)
  ⟨0,[],out,gL _,rfl,by simpa using hf,rfl, .refl Iv.base Iv.pos,Iv,st,rv,by simpa using ac⟩
 obtain⟨i,a,b,hi,rfl,hgb,hab,sx,Iv',st',rv',ac'⟩:=hI;rw[c.den_loop,c.under_loop];refine wpAny_noted (ut hg hg' ?_);by_cases hlt:i<ds.length
 .refine wpAny_with_toks (n:=1) Iv'.pos (T.item i _ _ _ hlt st' fun v h1 tk hMd hk1 p1=>?_);refine wpAny_with_toks (n:=1) p1 (T.go i v _ _ _ hMd fun h2 hP st2 hk2 p2=>?_);have hk:∀b o,b∉wr->s'.heap.get? b=some o->h2.get? b=some o:=fun b o m e=>hk2 b o m (hk1 b o m e);obtain⟨Iv2,sx2,t2⟩:=Iv'.iterZ (fun b m=>it.wrc i _ st' b m) (fun q=>(hz q).1) hwO hw0 hk p2;have rv2:ak G.w O h2 vs es:=t2 _ _ (fun q=>(hz q).2.1) rv';have hDwr:Dd∉wr:=fun m=>hwO _ m hDO;have ac2:bz G c O h2 Dd (pre++a):=ac'.move (fun o e=>hk _ o hDwr e) fun vs=>t2 _ _ fun q d m=>(hz q).2.2 d (by rw[hab,<- List.append_assoc];exact ij _ m);have hx:ds[i]?=some ds[i]:=List.getElem?_eq_getElem hlt;have ri:=it.item O h2 i v _ rv2 hP hx;have hdrop:ds.drop i=ds[i]::ds.drop (i+1):=List.drop_eq_getElem_cons hlt;rw[hdrop]at hgb;obtain⟨a1,b1,hfa,hgb1,rfl⟩:=nl hgb;have hmem:ds[i]∈ds:=List.getElem_mem hlt;obtain⟨ρ',hb⟩:=hf' _ hmem (by rw[hfa];rfl);refine fB ht Iv2 ri hb hWC fun s3 x3 k3 Iv3=>?_;have frame:∀(t t':Shared),(∀j,St j t.heap->aL W t.heap t'.heap->St j t'.heap):=fun t t' j hst hkb =>
   T.frame j _ _ hst fun b hb o e=>hkb b o (hfp b hb) e (it.solid j _ hst b hb o e)
  have st3:=frame { s' with heap:=h2,toks:=tk } s3 _ st2 (x3.keep.mono hsub);have rv3:=k3 _ _ rv2;have ac3:bz G c O s3.heap Dd (pre++a):=by obtain⟨o,e,_,sd⟩:=ac2.obj;exact ac2.move (fun o' e'=>by rw[e]at e';obtain rfl:=aG e';exact x3.keep _ _ hDW e sd) fun vs r=>k3 _ _ r
  have hl1:out.length=a.length+(a1.length+b1.length):=by rw[hab];simp
  have hbd:=hbody _ ρ' a1 hmem hb hfa s3 (pre++a) Iv3 ac3 (by rw[dR];exact aJ (Nat.le_of_eq (Nat.add_assoc _ _ _)) (aJ (Nat.add_le_add_left (by rw[hl1];exact Nat.add_le_add_left (nr _ _) _) _) hlen));have fin:∀s5,bI G W s3 s5->cV G A env own O ρ' s5->bz G c O s5.heap Dd (pre++a++a1) ->
    (∃m,m<ds.length+1-i/\Hy G A c env own O (wr++W) Dd ρ St f ds es out pre vs s m s5):=fun s5 x5 Iv5 ac5=>by
   have tW:bD O W s3.heap:=hWM s3 (pre++a) ⟨Iv3.ok,Iv3.hh,Iv3.base,Iv3.pos,Iv3.ov,Iv3.envr.weaken (hsub' _ _ hb)⟩ ac3;refine⟨ds.length+1-(i+1),Nat.sub_lt_sub_left (Nat.lt_succ_of_lt hlt) (Nat.lt_succ_self i),i+1,a++a1,b1,hlt,rfl,hgb1,by rw[hab];simp, ?_,⟨Iv5.ok,Iv5.hh,Iv5.base,Iv5.pos,Iv5.ov,Iv5.envr.weaken (hsub' _ _ hb)⟩,frame s3 s5 _ st3 x5.keep,rv3.but x5.keep tW,by simpa using ac5⟩;exact sx.trans (((sx2.mono fun a m=>ij _ m).trans (x3.mono fun a m=>hJ _ (hsub a m))).trans (x5.mono fun a m=>hJ _ m))
  exact hbd _ _ fun s5 x5 Iv5 ac5=>bg ⟨by cases c <;> rfl,fin s5 x5 Iv5 ac5⟩
 .have hi':i=ds.length:=Nat.le_antisymm hi (Nat.not_lt.mp hlt);subst hi';have hb0:b=[]:=by rw[List.drop_length]at hgb;obtain rfl:=aG hgb;rfl
  subst hb0;refine wpAny_with_toks (n:=1) Iv'.pos (T.done _ _ _ st' fun h1 tk hk p1=>?_);obtain⟨Iv2,sx2,t2⟩:=Iv'.iterZ (fun b m=>it.wrc _ _ st' b m) (fun q=>(hz q).1) hwO hw0 hk p1;have hDwr:Dd∉wr:=fun m=>hwO _ m hDO;rw[List.append_nil]at hab;subst hab;exact q _ (sx.trans (sx2.mono fun a m=>ij _ m)) Iv2 (ac'.move (fun o e=>hk _ o hDwr e) fun vs=>t2 _ _ fun q=>(hz q).2.2)
end
end
section
section
variable {G:GC}{A:Around}{z:Bool}{env:Env}{own:dM}{O:a9}{ρ:aF}{d:D}{tg:Expr}{ds:List D}
theorem BB.after (x:Ext G s s1)(g:BB G A z O tg ds strict s1 I s'):BB G A z O tg ds strict s I s':=
 ⟨x.trans g.ext,g.len,let⟨fp,wr,vs,es,St,P,Md,a,b,c,d,e,f,i⟩:=g.it;⟨fp,wr,vs,es,St,P,Md,a,b,c,fun b m=>x.back b (d b m),e,fun b m=>(f b m).imp (x.back b) id,i⟩⟩
def kT (G:GC)(A:Around)(z:Bool)(iter:Expr)(env:Env)(own:dM)(O:a9)(ρ:aF)(tg:Expr)(ds:List D)(strict:Bool):Prop:=∀s,cV G A env own O ρ s->Ih G A z O tg (eval iter env) s ds strict
theorem LQ (h:bq G A iter env own O ρ d)(hd:sT d=some ds)(hn:cK tg=true):kT G A false iter env own O ρ tg ds strict:=fun s I Q E q =>
 h s I _ _ fun v s1 x1 r1=>De I.hh x1.base x1.pos r1 hd hn fun I' s' g=>q I' s' (g.after x1)
theorem G8 (hk:env.kindOf "reversed" = some .globalImplicit)(hst:aY iter=true)(h:bq G A iter env own O ρ (.list ds))(hn:wn tg=true):kT G A false (.Call (.Name "reversed" np) [iter] [] pos) env own O ρ tg ds.reverse strict:=fun s I Q E q=>by
 have hm:("reversed" : Str)∈bZ:=by decide +kernel
 refine wpAny_Call_Name_kw (dD I hk (g8 hm) (I.ok.nb _ hm) (show bootBuiltins "reversed" = some (.type "reversed") by decide +kernel) (g9 hm) ?_);refine PyProof.Rows.callWith_type (di (xs:=[iter]) (show(aY iter&&true)=true by rw[hst];rfl) pos env) (bl (show(aY iter&&true)=true by rw[hst];rfl) ?_);rw[cb hst];refine spliced_cons (h s I _ _ fun v s1 x1 r1=>spliced_nil ?_);have hl:=r1.list_len;obtain⟨a,vs,rfl,ha,l,rr⟩:=r1.list_inv;exact Db I.hh x1.base x1.pos hn hl l rr (fun _=>ha) fun I' s' g=>q I' s' (g.after x1)
theorem Ev (hk:env.kindOf "enumerate" = some .globalImplicit)(hst:aY iter=true)(h:bq G A iter env own O ρ (.list ds))(hn:Fq tg=true):kT G A false (.Call (.Name "enumerate" np) [iter] [] pos) env own O ρ tg (qS ds) strict:=fun s I Q E q=>by
 have hm:("enumerate" : Str)∈bZ:=by decide +kernel
 refine wpAny_Call_Name_kw (dD I hk (g8 hm) (I.ok.nb _ hm) (show bootBuiltins "enumerate" = some (.type "enumerate") by decide +kernel) (g9 hm) ?_);refine PyProof.Rows.callWith_type (di (xs:=[iter]) (show(aY iter&&true)=true by rw[hst];rfl) pos env) (bl (show(aY iter&&true)=true by rw[hst];rfl) ?_);rw[cb hst];refine spliced_cons (h s I _ _ fun v s1 x1 r1=>spliced_nil ?_);have hl:=r1.list_len;obtain⟨a,vs,rfl,ha,l,rr⟩:=r1.list_inv;exact AC I.hh x1.base x1.pos hn hl l rr (fun _=>ha) fun I' s' g=>q I' s' (g.after x1)
set_option tactic.hygienic true in
theorem Bm (hk:env.kindOf "range" = some .globalImplicit)(hst:cC args=true)(h:mf G A args env own O ρ es)(hr:oi es=some ds)(hn:wn tg=true):kT G A false (.Call (.Name "range" np) args [] pos) env own O ρ tg ds strict:=fun s I Q E q=>by
 have hm:("range" : Str)∈bZ:=by decide +kernel
 refine wpAny_Call_Name_kw (dD I hk (g8 hm) (I.ok.nb _ hm) (show bootBuiltins "range" = some (.type "range") by decide +kernel) (g9 hm) ?_);refine PyProof.Rows.callWith_type (di hst pos env) (bl hst (h s pos I _ _ fun vs s1 x1 r1=>?_));show wpAny (bC G) A (call (.type "range") vs) _ E s1;have hk':∀o,∀b o',s1.heap.get? b=some o'->(s1.heap.push o).get? b=some o':=fun o b o' e=>gv _ e;have c3:∀{a b c:Int},d8 a b c=some ds->Builtin.divisionGoesByPylong (b-a) c=false/\c≠0:=by
  intro a b c h;unfold d8 at h;split at h
  .rename_i g;simp only[eO,jE]at g;obtain⟨⟨⟨⟨⟨⟨h0,h1⟩,h2⟩,h3⟩,h4⟩,h5⟩,h6⟩:=g;refine⟨PyProof.noPylong_of_log2 ?_,Int.ne_of_gt h0⟩;have:c.natAbs<2^31:=Int.ofNat_lt.mp ((Int.natAbs_of_nonneg (Int.le_of_lt h0)).symm▸Int.lt_of_le_of_lt h5 (by decide));exact kS ((Nat.log2_lt (Int.natAbs_ne_zero.mpr (Int.ne_of_gt h0))).mpr this) (by decide)
  .exact nn h
 rcases uK hr with⟨b,hr⟩|⟨a,b,hr⟩|⟨a,b,c,hr⟩
 .obtain⟨v,rfl,r⟩:=r1.one;obtain⟨t,rfl⟩:=r.int_inv;refine call_range_1 ?_;have x2:Ext G s1 { s1 with heap:=s1.heap.push { cls:=.type "range",data:=.fields #[.int 0 s1.toks, .int b t, .int 1 (s1.toks+1)] },toks:=s1.toks+1+1 }:=.all x1.base (hk' _) (Nat.succ_pos _);exact ku I.hh x2.base x2.pos hn (IsRange.new _ _ _ _ _ _ _) hr fun I' s' g=>q I' s' (g.after (x1.trans x2))
 .obtain⟨v,v',rfl,r,r'⟩:=r1.two;obtain⟨t,rfl⟩:=r.int_inv;obtain⟨t',rfl⟩:=r'.int_inv;refine call_range_2 ?_;have x2:Ext G s1 { s1 with heap:=s1.heap.push { cls:=.type "range",data:=.fields #[.int a t, .int b t', .int 1 s1.toks] },toks:=s1.toks+1 }:=.all x1.base (hk' _) (Nat.succ_pos _);exact ku I.hh x2.base x2.pos hn (IsRange.new _ _ _ _ _ _ _) hr fun I' s' g=>q I' s' (g.after (x1.trans x2))
 .obtain⟨v,us,rfl,r,rr⟩:=r1.cons_inv;obtain⟨v',v'',rfl,r',r''⟩:=rr.two;obtain⟨t,rfl⟩:=r.int_inv;obtain⟨t',rfl⟩:=r'.int_inv;obtain⟨t'',rfl⟩:=r''.int_inv;have:=c3 hr;refine call_range_3 this.2 ?_ (.inl this.1);have x2:Ext G s1 { s1 with heap:=s1.heap.push { cls:=.type "range",data:=.fields #[.int a t, .int b t', .int c t''] },toks:=s1.toks }:=.all x1.base (hk' _) x1.pos;exact ku I.hh x2.base x2.pos hn (IsRange.new _ _ _ _ _ _ _) hr fun I' s' g=>q I' s' (g.after (x1.trans x2))
end
end
section
section
variable {G:GC}{A:Around}{z:Bool}{env:Env}{own:dM}{O WC:a9}{ρ:aF}{d:D}{Dd:Addr}{c:CK}{elt:Expr}{gens:List Comprehension}{scope:Scope}{pos:Pos}{k:Nat}{out:List D}
theorem qk (I:cV G A env own O ρ s)(h:∀a∈W,a=env.locals\/∃x,(env.kindOf x=some .cell\/env.kindOf x=some .free)/\env.cells.lookup x=some a):bD O W s.heap:=fun a ma o e=>by
 rcases h a ma with rfl|⟨x,hx,hc⟩
 .obtain⟨m,⟨o',es,ep,e1,e2,_⟩,_⟩:=I.envr.ns;rw[e1]at e;obtain rfl:=aG e;exact⟨dY e2,fun _=>I.envr.lin⟩
 .obtain⟨c,v,e3,⟨o',e1,e2⟩⟩:=I.envr.ce x hx;rw[hc]at e3;obtain rfl:=aG e3;rw[e1]at e;obtain rfl:=aG e;exact⟨lB e2,fun _=>(I.envr.cin _ _ hc).1⟩
structure hV (G:GC)(env:Env)(own:dM)(O WC:a9)(Dd:Addr):Prop where
 dO:Dd∈O
 d0:G.h₀.get? Dd=none
 dl:env.locals≠Dd
 dc:∀x c,env.cells.lookup x=some c->c≠Dd
 dw:∀n a,own.at' n=some a->a≠Dd
 wO:∀a∈WC,a∈O
 wD:Dd∉WC
 wc:∀a∈WC,a=env.locals\/∃x,(env.kindOf x=some .cell\/env.kindOf x=some .free)/\env.cells.lookup x=some a
theorem hV.turn (a:hV G env own O WC Dd)(s:Shared)(pre:List D)(I:cV G A env own O ρ s)(h:bz G c O s.heap Dd pre):bD O (Dd::WC) s.heap:=fun b m o e=>by
 rcases bA m with rfl|m
 .obtain⟨o',e',mu,_⟩:=h.obj;rw[e']at e;obtain rfl:=aG e;exact⟨mu,fun _=>a.dO⟩
 .exact qk I a.wc b m o e
abbrev eN (G:GC)(A:Around)(c:CK)(gens:List Comprehension)(scope:Scope)(pos:Pos)(k:Nat)(env:Env)(own:dM)(O WC:a9)(Dd:Addr)(ρ:aF)(out:List D):Prop:=
 rV G A c (fun K E s=>wpAny (bC G) A (iH c gens scope pos k Dd env) (fun _ s5=>K s5) E s) env own O (Dd::WC) Dd ρ out
theorem hV.put (a:hV G env own O WC Dd)(I:cV G A env own O ρ s)(x1:Ext G s s1)(ac:bz G c O s1.heap Dd pre)(hs':Heap.SameBut Dd s1.heap h')(tk':0<tk)(ho:∃o,h'.get? Dd=some o/\gq o) :
  bI G (Dd::WC) s { s1 with heap:=h',toks:=tk }/\cV G A env own O ρ { s1 with heap:=h',toks:=tk }/\aL [Dd] s1.heap h'/\bD O [Dd] s1.heap:=by
 have I1:=I.ext x1;obtain⟨o0,e0,mu,_⟩:=ac.obj;have ht:bD O [Dd] s1.heap:=fun b m o e=>by
  rcases aS m with rfl
  rw[e0]at e;obtain rfl:=aG e;exact⟨mu,fun _=>a.dO⟩
 have kb:aL [Dd] s1.heap h':=cY (aQ hs');have B:a5 G h':=x1.base.but (aQ hs') (fun b m=>by rcases aS m with rfl;exact a.d0) fun b m o e=>(ht b m o e).1;have sx:bI G (Dd::WC) s1 { s1 with heap:=h',toks:=tk }:=⟨⟨rfl,rfl⟩,kb.mono fun b m=>by rcases aS m with rfl;exact dX,B,tk',fun b m e=>bw (fun o q=>aQ hs' b o (fun mm=>m (by rcases aS mm with rfl;exact dX)) q) e⟩;refine⟨x1.sext.trans sx,⟨I.ok,I.hh,B,tk',I1.ov.but kb fun b m=>?_,I1.envr.but kb ht (fun m=>a.dl (aS m)) (fun y c e m=>a.dc y c e (aS m)) fun n b _ e _ m=>a.dw n b e (aS m)⟩,kb,ht⟩;rcases aS m with rfl
 exact ho
theorem Az (a:hV G env own O WC Dd)(hg:gens[k+1]?=none)(he:bq G A elt env own O ρ d):eN G A (.list elt) gens scope pos k env own O WC Dd ρ [d]:=fun s pre I ac hl K E q=>by unfold iH;rw[hg];obtain⟨vs,pl,rp⟩:=id ac;have e1:=rp.length;simp only[i5]at e1;have hl:pre.length+1<=16777216:=hl;refine aH (he s I _ _ fun v s1 x1 r1=>aH (wpAny_list_append_plain (bj pl x1.keep) (fun h' pl' hs'=>bg ?_) (by rw[aT,e1];exact il ‹_›)));obtain⟨sx,I',kb,ht⟩:=a.put (c:=.list elt) I x1 (ac.keep x1.keep) hs' x1.pos (let⟨n,e⟩:=pl';⟨_,e, .inl nofun⟩);refine q _ sx I' ⟨vs.push v,pl', ?_⟩;rw[Array.toList_push];exact((rp.keep x1.keep).but kb ht).append (.cons (r1.but kb ht) .nil)
theorem FK (ht:oT G A env own O ρ .And ifs b)(h1:b=true->eN G A c gens scope pos k env own O WC Dd ρ out)(h2:b=false->out=[]) :
  rV G A c (kZ G A c gens scope pos k ifs Dd env) env own O (Dd::WC) Dd ρ out:=fun s pre I ac hl K E q=>by
 unfold kZ;refine v9 ht s I _ _ fun s1 x1=>?_;cases b with
 |true=>exact h1 rfl s1 pre (I.ext x1) (ac.keep x1.keep) hl K E fun s' x' I' ac'=>q s' (x1.sext.trans x') I' ac'
 |false =>
  have:=h2 rfl;subst this;exact q s1 x1.sext (I.ext x1) (by rw[List.append_nil];exact ac.keep x1.keep)
noncomputable def jo (e:Expr):Bool:=!(e.ctorIdx==7)
theorem jK (h:jo e=true)(env:Env)(x:Value):foldedSetIterable e env x=pure x:=by cases e <;> first|rfl|exact ff h
structure ub (G:GC)(A:Around)(env:Env)(own:dM)(O WC:a9)(Dd:Addr)(c:CK)(gens:List Comprehension)(scope:Scope)(pos:Pos)(k:Nat)(target iter:Expr)(ifs:dN)(tg:aN)(ρ:aF)(f:D->Option (List D))(ds:List D):Prop where
 hg:gens[k]?=some ⟨target,iter,ifs,0⟩
 hg':∀g',gens[k+1]?=some g'->g'.is_async=0
 ht:cN G env own target tg
 hno:∀n∈tg,ρ.get n=none
 hWC:Ij env G WC tg
 body:∀x ρ' a,x∈ds->bx ρ tg x=some ρ'->f x=some a->rV G A c (kZ G A c gens scope pos k ifs Dd env) env own O (Dd::WC) Dd ρ' a
 bind:∀x∈ds,(f x).isSome->∃ρ',bx ρ tg x=some ρ'
theorem nL:∀(ns:aN)(ds:List D)(ρ:aF)(n:Nat),n∉ns->(bF ρ ns ds).get n=ρ.get n
 |[],_,_,_,_=>rfl
 |m::ns,[],_,_,_=>rfl
 |m::ns,d::ds,ρ,n,h=>by show(bF _ ns ds).get n=_;rw[nL ns ds _ n (fun q=>h (eh _ q)),aF.get_set,if_neg (fun e=>h (by rw[e];exact dX))]
theorem qM (h:bx ρ tg x=some ρ')(n:Nat)(hn:n∉tg):ρ'.get n=ρ.get n:=by
 rcases qL h with⟨m,_,rfl⟩|⟨_,xs,_,_,rfl⟩
 .rw[aF.get_set,if_neg (fun e=>hn (by rw[e];exact dX))]
 .exact nL _ _ _ _ hn
theorem ub.loop (g:ub G A env own O WC Dd c gens scope pos k target iter ifs tg ρ f ds)(a:hV G env own O WC Dd){I:Addr}{fp wr:a9}{vs:fO}{es:List D}{St:Nat->Heap->Prop}{P Md:Nat->Value->Heap->Prop}
  (it:rX G A z target I fp wr ds vs es St P Md){s:Shared}{pre:List D}{R:Result->Shared->Prop}(st:St 0 s.heap)(rv:ak G.w O s.heap vs es)(hfp:∀b∈fp,b∉Dd::WC)(hwO:∀b∈wr,b∉O)(hw0:∀b∈wr,G.h₀.get? b=none)(hfe:∀b∈fp,∃o,s.heap.get? b=some o)
  (hz:z=true->(∀n d,ρ.get n=some d->dF d=true)/\(∀d∈es,dF d=true)/\∀d∈pre++out,dF d=true)(hf:ef f ds=some out)(Iv:cV G A env own O ρ s)(ac:bz G c O s.heap Dd pre)(hlen:pre.length+out.length<=pJ c)
  (q:∀s',bI G (wr++Dd::WC) s s'->cV G A env own O ρ s'->bz G c O s'.heap Dd (pre++out)->R (.ok .next) s') :
  codeAny (bC G) A (.compStart (c.expr gens scope pos) k (.ref I) (.ref Dd) env) R s:=by
 have L:codeAny (bC G) A (.compLoop (c.expr gens scope pos) k (.ref I) (.ref Dd) env) R s :=
  Aj (W:=Dd::WC) g.hg g.hg' g.ht g.hno g.hWC a.wD (fun b m=>eh _ m) it st rv hfp hwO hw0 hfe a.dO (fun b m=>(bA m).elim (fun e=>e▸a.dO) (a.wO b)) (fun s pre I h=>a.turn s pre I h) g.body hf g.bind
   (fun x ρ' hb n d hn=>by rw[qM hb n (fun m=>by rw[g.hno n m]at hn;exact nn hn)];exact hn) hz Iv ac hlen q
 exact i6 g.hg rfl L (it.self 0 s _ _ st L)
theorem wZ {tg:aN}{f:D->Option (List D)}{ds:List D}(a:hV G env own O WC Dd)(g:ub G A env own O WC Dd c gens scope pos (k+1) target iter ifs tg ρ f ds)(hs:kT G A false iter env own O ρ target ds true)(hns:jo iter=true)
  (hf:ef f ds=some out):eN G A c gens scope pos k env own O WC Dd ρ out:=fun s pre I ac hl K E q=>by
 unfold iH;rw[g.hg];refine aH (wpAny_mono (hs s I (fun it s'=>wpAny (bC G) A (runOwn (.compStart (c.expr gens scope pos) (k+1) it (.ref Dd) env) env >>= fun _=>pure ()) (fun _ s5=>K s5) E s') E ?_) (fun x s1 h1=>?_) fun _ _ e=>e)
 .intro I' s' got;obtain⟨fp,wr,vs',es,St,P,Md,it,st,rv,h1,h2,h3,_⟩:=got.it;have I1:=I.ext got.ext;have hW:=a.turn s' pre I1 (ac.keep got.ext.keep);have hWO:∀b∈Dd::WC,b∈O:=fun b m=>(bA m).elim (fun e=>e▸a.dO) (a.wO b);refine aH (wpAny_runOwn (g.loop a it st rv (fun b m mW=>?_) (fun b m mO=>?_) (fun b m=>?_) h2 (fun q=>Bool.noConfusion q) hf I1 (ac.keep got.ext.keep) hl fun s2 x2 I2 ac2=>bg ?_))
  .rcases h3 b m with h|h|⟨us,h⟩
   .obtain⟨o,e,_⟩:=I.ov b (hWO b mW);rw[h]at e;exact nn e
   .exact h rfl (hWO b mW)
   .obtain⟨o,e,c,n,hd⟩:=h;exact(hW b mW o e).1.1 _ _ c hd
  .obtain⟨o,e,_⟩:=I.ov b mO;rw[h1 b m]at e;exact nn e
  .exact bw (fun o e=>I.base.keep b o e) (h1 b m)
  .refine q s2 ?_ I2 ac2;have x3:=got.ext.sext.trans x2;refine⟨x3.same,fun b o m e c=>x3.keep b o (fun mm=>?_) e c,x3.base,x3.pos,fun b m e=>?_⟩
   .rcases cy mm with mm|mm
    .rw[h1 b mm]at e;exact nn e
    .exact m mm
   .by_cases mm:b∈wr
    .exact h1 b mm
    .exact x3.back b (fun q=>(cy q).elim mm m) e
 .refine aH (wpAny_standAt (aH (wpAny_of_eq (jK hns env x) (aH (wpAny_holding h1)))))
end
end
section
section
variable {G:GC}{A:Around}{z:Bool}{env:Env}{own:dM}{O:a9}{ρ:aF}{d:D}{out:List D}
noncomputable def Bw (scope:Scope)(cenv:Env):a9:=cenv.locals::scope.names.filterMap fun p=>if p.2==.cell then cenv.cells.lookup p.1 else none
theorem sU {scope:Scope}{cenv:Env}(hfn:env.scope.kind=.function)(hs:d9 nm env.scope.names scope.names T=true)(hc:cenv.scope=relabel scope env)(m:(x,NameKind.cell)∈scope.names):cenv.kindOf x=some .cell:=by obtain⟨so,_⟩:=cE hs;have q:=br so _ m;simp only[eX,eO,beq_iff_eq]at q;show cenv.scope.names.lookup x=_;rw[hc,fE hfn,gV,q.1];rfl
noncomputable def CK.new (c:CK):Sem Value:=match c with
 |.list _=>newList []
 |.set _=>newSet (.type "set")
 |.dict _ _=>newDict
theorem CK.new_ok {c:CK}{s:Shared}{E:ba}(hs:(s.heap.objs.size==sysModules)=false)(h:∀o:Obj,o.isFreed=false->(∀O,bz G c O (s.heap.push o) s.heap.objs.size [])->Q (.ref s.heap.objs.size) { s with heap:=s.heap.push o }):wpAny (bC G) A c.new Q E s:=by
 cases c with
 |list elt=>exact wpAny_newObj_type (h _ rfl fun O=>⟨#[],⟨0,iV _ rfl⟩, .nil⟩) (by size_fits)
 |dict kx vx=>exact wpAny_newObj_type (h _ rfl fun O=>⟨⟨[],Heap.DictOf.new s.heap, .nil⟩,rfl,hs⟩) (by size_fits)
 |set elt =>
  exact zj fun o hf hS=>h o hf fun O=>⟨hS,rfl⟩
set_option tactic.hygienic true in
theorem FR {f:D->Option (List D)}{ds:List D}{strict:Bool}{s:Shared}{use:Option (Value->Sem Unit)}{Q:ba}{E:ba}
  (Iv:cV G A env own O ρ s)(hsrc:kT G A z iter env own O ρ target ds strict)(hns:jo iter=true)(hk:scope.kind=.function)(hs:d9 G.names env.scope.names scope.names T=true)
  (hgen:∀cenv O' D,cenv.scope=relabel scope env->hV G cenv own O' (Bw scope cenv) D->ub G A cenv own O' (Bw scope cenv) D c (⟨target,iter,ifs,0⟩::rest) scope pos 0 target iter ifs tg (ρ.del T) f ds)
  (hz:z=true->(∀n d,ρ.get n=some d->dF d=true)/\∀d∈out,dF d=true)(hf:ef f ds=some out)(hlen0:ds.length<=16777216->out.length<=pJ c)
  (fin:∀C D s',out.length<=pJ c->Ext G s s'->C≠D->s.heap.get? C=none->s.heap.get? D=none->G.h₀.get? C=none->G.h₀.get? D=none->(∃m,s'.heap.Ns C m)->bz G c (C::D::O) s'.heap D out ->
   cV G A env own (C::D::O) ρ s'->compPost (bC G) A E use Q (.ref D) C (.ok .next) s') :
  wpAny (bC G) A (comprehension (c.expr (⟨target,iter,ifs,0⟩::rest) scope pos) scope env pos' c.new false (eval iter env) use) Q E s:=by
 have hnames:∀x∈scope.names,x.2=.local->scope.names.lookup x.1=some .local:=fun x m e=>by obtain⟨so,_⟩:=cE hs;have q:=br so _ m;obtain⟨y,kd⟩:=x;have e:kd=.local:=e;subst e;simp only[eX,eO,beq_iff_eq]at q;exact q.1
 have hfree:∀p∈scope.names,p.2=.free->∃c,env.cells.lookup p.1=some c:=fun x m e=>by obtain⟨so,_⟩:=cE hs;have q:=br so _ m;obtain⟨y,kd⟩:=x;have e:kd=.free:=e;subst e;simp only[eX,Bool.or_eq_true,beq_iff_eq]at q;obtain⟨c,v,h,_⟩:=Iv.envr.ce y q;exact⟨c,h⟩
 obtain⟨cl,hcl,cl1,cl2⟩:=wC hfree;refine wpAny_comprehension_free (g:=⟨target,iter,ifs,0⟩) (gs:=rest) (c.clauses _ _ _) (fun x=>jK hns env x) hcl hk hnames (hsrc s Iv _ _ fun I s2 got=>?_);obtain⟨fp,wr,vs',es,St,P,Md,it,st,rv,h1,h2,h3,h4z⟩:=got.it;have I2:=Iv.ext got.ext;have hlen:=hlen0 got.len;refine CK.new_ok (by
  obtain⟨om,_,_,em,_⟩:=I2.ok.g;have h1:sysModules<mainGlobals:=by decide
  have h2:sysModules<s2.heap.objs.size:=Nat.lt_trans h1 (Heap.lt_size (I2.base.keep _ _ em));exact beq_eq_false_iff_ne.mpr (Nat.ne_of_gt h2)) fun o0 hfr hacc=>?_
 show wpAny _ _ (newFunctionEnv scope env.globals cl [] env.qual none .none (some env)) _ _ _;refine uu ?_;dsimp only;have k3:∀b o,s2.heap.get? b=some o->(s2.heap.push o0).get? b=some o:=fun b o e=>gv _ e;have hsz3:(s2.heap.push o0).objs.size=s2.heap.objs.size+1:=Heap.size_push ..;obtain⟨N,n1,n2,n4,n5,n6,n7,n8⟩:=Ai (T:=T) (D:=s2.heap.objs.size) (h3:=s2.heap.push o0)
  (cenv:={ scope:=relabel scope env,locals:=(s2.heap.push o0).objs.size,globals:=env.globals,cells:=cellsFrom ((s2.heap.push o0).objs.size+1) scope.names cl,qual:=env.qual,func:=none,code:=env.code,frame:=env.frame,builtins:=env.builtins })
  I2 hs hk cl1 cl2 (aD _) k3 (by rw[hsz3];exact Nat.lt_succ_self _) (by rw[hsz3];exact Nat.le_succ _) rfl ⟨rfl,rfl,rfl,rfl,rfl⟩
 generalize hH3:s2.heap.push o0=H3 at *;generalize hH4:pushCells (H3.push { cls:=.type "dict",data:=.dict #[] }) scope.names=H4 at *;generalize hce:({ scope:=relabel scope env,locals:=H3.objs.size,globals:=env.globals,cells:=cellsFrom (H3.objs.size+1) scope.names cl,qual:=env.qual,func:=none,code:=env.code,frame:=env.frame,builtins:=env.builtins }:Env)=cenv at *;have hcs:cenv.scope=relabel scope env:=by rw[<- hce]
 have hcl':cenv.locals=H3.objs.size:=by rw[<- hce]
 have k4:∀b o,s2.heap.get? b=some o->H4.get? b=some o:=fun b o e=>by rw[<- hH4];exact pushCells_keeps _ _ _ _ (gv _ (k3 b o e))
 have hD4:bz G c (N++s2.heap.objs.size::O) H4 s2.heap.objs.size []:=(hacc _).move (fun o e=>by rw[<- hH4];exact pushCells_keeps _ _ _ _ (gv _ e)) fun vs r=>by rw[r.nil_inv];exact .nil
 have x24:Ext G s2 { s2 with heap:=H4 }:=.all (t:=s2.toks) I2.base k4 I2.pos;have frN:∀a∈N,s2.heap.get? a=none:=fun a m=>gR (aJ (by rw[hsz3];exact Nat.le_succ _) (n1 a m));have fr0:∀a,s2.heap.get? a=none->G.h₀.get? a=none:=fun a e=>bw (fun o q=>I2.base.keep a o q) e;have hCD:H3.objs.size≠s2.heap.objs.size:=by rw[hsz3];exact Nat.succ_ne_self _
 have hov:dH (N++s2.heap.objs.size::O) H4:=fun a m=>by
  rcases cy m with m|m
  .exact n8 a m
  .rcases bA m with rfl|m
   .obtain⟨o,e,_,q⟩:=hD4.obj;exact⟨o,e,q⟩
   .obtain⟨o,e,q⟩:=I2.ov a m;exact⟨o,k4 a o e,q⟩
 have wN:∀a∈Bw scope cenv,a∈N:=fun a m=>by
  rcases bA m with rfl|m
  .rw[hcl'];exact n2
  .obtain⟨p,hp,e⟩:=List.mem_filterMap.mp m;split at e
   .rename_i c;obtain⟨y,kd⟩:=p;have c:kd=.cell:=by simpa using c
    subst c;exact n4 y a hp e
   .exact nn e
 have acc:hV G cenv own (N++s2.heap.objs.size::O) (Bw scope cenv) s2.heap.objs.size:=by
  refine⟨hJ _ dX,fr0 _ (aD _),by rw[hcl'];exact hCD,n7,fun n a e q=>?_,fun a m=>ij _ (wN a m),fun m=>?_,fun a m=>?_⟩
  .obtain⟨o,e',_⟩:=I2.ov a (I2.envr.oin n a e);rw[q,aD]at e';exact nn e'
  .have:=n1 _ (wN _ m);rw[hsz3]at this;exact Nat.not_succ_le_self _ this
  .rcases bA m with rfl|m
   .exact .inl rfl
   .obtain⟨p,hp,e⟩:=List.mem_filterMap.mp m;split at e
    .rename_i c;obtain⟨y,kd⟩:=p;have c:kd=.cell:=by simpa using c
     subst c;exact .inr ⟨y, .inl (sU I2.envr.fn hs hcs hp),e⟩
    .exact nn e
 have gen:=hgen cenv _ _ hcs acc;have grow:∀a∈N++[s2.heap.objs.size],s2.heap.get? a=none:=fun a m=>(cy m).elim (frN a) fun m=>by rw[aS m];exact aD _
 have assoc:∀O:a9,(N++[s2.heap.objs.size])++O=N++s2.heap.objs.size::O:=fun O=>by simp
 have rv4:ak G.w (N++s2.heap.objs.size::O) H4 vs' es:=by have:=(rv.news grow).keep (.of k4);rw[assoc]at this;exact this
 refine gen.loop (pre:=[]) acc it (it.turns.frame 0 _ _ st fun b m o e=>k4 b o e) rv4 (fun b m mW=>?_) (fun b m mO=>?_) (fun b m=>bw (fun o q=>Iv.base.keep b o q) (h1 b m)) (fun b m=>let⟨o,e⟩:=h2 b m;⟨o,k4 b o e⟩) (fun q=>⟨fun n d e=>(hz q).1 n d (aF.get_of_del e),h4z q,(hz q).2⟩) hf ⟨I2.ok,I2.hh,x24.base,I2.pos,hov,n5⟩ hD4 (by simpa using hlen) fun s' x2 I' ac'=>?_
 .obtain⟨o,e⟩:=h2 b m;rcases bA mW with rfl|mW
  .rw[aD]at e;exact nn e
  .have:=frN b (wN b mW);rw[this]at e;exact nn e
 .obtain⟨o,e⟩:=h2 b (it.turns.sub b m);rcases cy mO with mO|mO
  .rw[frN b mO]at e;exact nn e
  .rcases bA mO with rfl|mO
   .rw[aD]at e;exact nn e
   .obtain⟨o',e',_⟩:=Iv.ov b mO;rw[h1 b m]at e';exact nn e'
 .have frs:∀a,s2.heap.get? a=none->s.heap.get? a=none:=fun a e=>got.ext.back a e;have hC2:s2.heap.get? H3.objs.size=none:=frN _ n2;have xs:Ext G s s':=((got.ext.trans x24).sext.trans x2).ext fun a m=>by
   rcases cy m with m|m
   .exact h1 a m
   .rcases bA m with rfl|m
    .exact frs _ (aD _)
    .exact frs _ (frN a (wN a m))
  obtain⟨mm,hmm,_⟩:=I'.envr.ns;rw[hcl']at hmm;have gr:∀a∈[H3.objs.size,s2.heap.objs.size],s.heap.get? a=none:=fun a m=>by
   rcases bA m with rfl|m
   .exact frs _ hC2
   .rw[aS m];exact frs _ (aD _)
  refine fin H3.objs.size s2.heap.objs.size s' hlen xs hCD (frs _ hC2) (frs _ (aD _)) (fr0 _ hC2) (fr0 _ (aD _)) ⟨mm,hmm⟩ (bz.sub (O:=N++s2.heap.objs.size::O) ac' fun a m=>?_) ⟨Iv.ok,Iv.hh,xs.base,xs.pos,fun a m=>?_,(Iv.envr.news gr).keep xs.keep⟩
  .rcases bA m with rfl|m
   .exact ij _ n2
   .exact hJ _ m
  .rcases bA m with rfl|m
   .obtain⟨o,es,ep,e,dd,_⟩:=hmm;exact⟨o,e, .inr fun vs q=>by rw[dd]at q;cases q⟩
   .rcases bA m with rfl|m
    .obtain⟨o,e,_,q⟩:=bz.obj ac';exact⟨o,e,q⟩
    .exact Iv.ov.keep xs.keep a m
theorem o7 {C D:Addr}{s s':Shared}{Q:ba}{E:ba}(x:Ext G s s')(hCD:C≠D)(hC:s.heap.get? C=none)(hC0:G.h₀.get? C=none)(hm:∃m,s'.heap.Ns C m)(ac:bz G c (C::D::O) s'.heap D out)
  (q:∀s',Ext G s s'->bz G c (D::O) s'.heap D out->Q (.ref D) s'):compPost (bC G) A E none Q (.ref D) C (.ok .next) s':=by
 obtain⟨m,hm⟩:=hm;refine⟨m,hm,fun h' hs'=>?_⟩;obtain⟨o,es,ep,e,dd,_⟩:=hm;have ht:bD (C::D::O) [C] s'.heap:=fun b m o' e'=>by
  rcases aS m with rfl
  rw[e]at e';obtain rfl:=aG e';exact⟨dY dd,fun _=>dX⟩
 have kb:aL [C] s'.heap h':=cY (aQ hs');have B:a5 G h':=x.base.but (aQ hs') (fun b m=>by rcases aS m with rfl;exact hC0) fun b m o e=>(ht b m o e).1;have x2:bI G [C] s' { s' with heap:=h' }:=⟨⟨rfl,rfl⟩,kb,B,x.pos,fun b m e=>bw (fun o q=>aQ hs' b o m q) e⟩;have x3:Ext G s { s' with heap:=h' }:=(x.sext.trans x2).ext fun a m=>by rcases aS m with rfl;exact hC
 exact q _ x3 ((ac.but kb ht fun m=>hCD (aS m).symm).sub fun a m=>eh _ m)
theorem CM {D:Addr}{s s':Shared}(hD:s.heap.get? D=none)(ov:dH O s.heap)(hl:out.length<=16777216)(ac:bz G (.list elt) (D::O) s'.heap D out):az G.w O s'.heap (.ref D) (.list out):=by obtain⟨vs,pl,r⟩:=ac;exact .list_of hl (ov.new hD) pl.isList (fun o e=>by obtain⟨n,e'⟩:=pl;rw[e]at e';obtain rfl:=aG e';rfl) (r.sub fun a m=>eh _ m)
end
end
section
section
variable {G:GC}{A:Around}{env:Env}{own:dM}{O WC:a9}{ρ:aF}{Dd:Addr}{gens:List Comprehension}{scope:Scope}{pos:Pos}{k:Nat}{out:List D}
theorem wH (pre:List D)(x y:Str):k9 (pre++[.tuple [.str x, .str y]])=lK (k9 pre) x y:=by unfold k9;rw[List.foldl_append];rfl
theorem w0 (a:hV G env own O WC Dd)(hg:gens[k+1]?=none)(hk:bq G A kx env own O ρ (.str x))(hv:bq G A vx env own O ρ (.str y)):eN G A (.dict kx vx) gens scope pos k env own O WC Dd ρ [.tuple [.str x, .str y]]:=fun s pre I ac hl K E q=>by
 unfold iH;rw[hg];show wpAny _ _ (eval kx env >>= _) _ _ _;refine aH (hk s I _ _ fun v1 s1 x1 r1=>?_);have hs1:=r1.sok;obtain⟨t1,rfl⟩:=r1.str_inv;refine aH (wpAny_holding (hv s1 (I.ext x1) _ _ fun v2 s2 x2 r2=>?_));have hs2:=r2.sok;obtain⟨t2,rfl⟩:=r2.str_inv;refine aH (wpAny_standAt (wpAny_holding ?_));have x12:=x1.trans x2;have ac2:=ac.keep x12.keep;obtain⟨⟨kvs,dof,sv⟩,al,nsys⟩:=id ac2;have hl:pre.length+1<=1000:=hl;have hkl:kvs.length<=1000:=by rw[sv.len];exact aJ (qT pre []) (aJ (Nat.le_of_eq (Nat.zero_add _)) (Nat.le_of_succ_le hl))
 refine wpAny_dictSet_pairs (k:=x) (Value.isStrOf_refl x t1) dof (fun h' d' hs'=>?_) (aJ hkl (by decide));obtain⟨sx,I',_,_⟩:=a.put (c:=.dict kx vx) (tk:=s2.toks+1) I x12 ac2 hs' (Nat.succ_pos _) (by obtain⟨o,es,ep,e,c,_⟩:=d';exact⟨o,e, .inl (by rw[c.1];nofun)⟩);refine q _ sx I' ⟨⟨_,d', ?_⟩, ?_,nsys⟩
 .rw[wH];exact sv.put
 .rw[List.all_append,al];show(true&&((sok (.str x)&&sok (.str y))&&true))=true;rw[hs1,hs2];rfl
theorem SV.kvs (x:SV a b):HB b a:=by
 induction x with
 |nil=>exact .nil
 |cons _ ih=>exact .cons ⟨rfl,_,rfl⟩ ih
theorem DZ {k v:Str}(h:∀p∈kv,sok (.str p.1)=true/\sok (.str p.2)=true)(hk:sok (.str k)=true)(hv:sok (.str v)=true):∀p∈lK kv k v,sok (.str p.1)=true/\sok (.str p.2)=true:=fun p m=>by
 unfold lK at m;by_cases c:kv.any (fun p=>decide (p.1=k))=true
 .rw[if_pos c]at m;obtain⟨p',m',rfl⟩:=iz m;by_cases e:p'.1=k
  .rw[if_pos e];exact⟨(h p' m').1,hv⟩
  .rw[if_neg e];exact h p' m'
 .rw[if_neg c]at m;rcases cy m with m|m
  .exact h p m
  .rw[aS m];exact⟨hk,hv⟩
theorem qU:∀{pre:List D}{kv:List (Str × Str)},pre.all lv=true->(∀p∈kv,sok (.str p.1)=true/\sok (.str p.2)=true)->∀p∈pre.foldl lQ kv,sok (.str p.1)=true/\sok (.str p.2)=true
 |[],_,_,h=>h
 |d::pre,kv,a,h=>by
  obtain⟨a1,a2⟩:=cE (show(lv d&&pre.all lv)=true from a);refine qU (kv:=lQ kv d) a2 ?_;unfold lv at a1;unfold lQ;cases e:zw d with
  |some p =>
   rw[e]at a1;obtain⟨b1,b2⟩:=cE (show(sok (.str p.1)&&sok (.str p.2))=true from a1);exact DZ h b1 b2
  |none=>rw[e]at a1;exact absurd a1 g6
theorem vU:∀{kv:List (Str × Str)},(∀p∈kv,sok (.str p.1)=true/\sok (.str p.2)=true)->sok (.dict (kv.map fun p=>(.str p.1, .str p.2)))=true
 |[],_=>rfl
 |p::kv,h=>by show(sok (.str p.1)&&sok (.str p.2)&&En _)=true;rw[(h p (.head _)).1,(h p (.head _)).2];exact vU fun q m=>h q (.tail _ m)
theorem CL {s s':Shared}(hD:s.heap.get? Dd=none)(ov:dH O s.heap)(ac:bz G (.dict kx vx) (Dd::O) s'.heap Dd out):az G.w O s'.heap (.ref Dd) (.dict ((k9 out).map fun p=>(.str p.1, .str p.2))):=by
 obtain⟨⟨kvs,⟨o,es,ep,e1,e2,e3,e4,e5,e6⟩,sv⟩,al,nsys⟩:=ac;obtain⟨r1,r2⟩:=nH (h:=s'.heap) e5 sv.kvs;have rd:Reads s'.heap (.ref Dd) (.dict ((k9 out).map fun p=>(.str p.1, .str p.2))) (Dd::[]++[]):=by
  refine .dict e1 e2.1 e3 ?_ ?_
  .rw[kR];exact r1
  .rw[kR];exact r2
 refine⟨_,rd,fun a m=>?_,vU (qU al fun _ m=>nomatch m)⟩;obtain rfl:=aS m;refine⟨ov.new hD,fun o' e'=>?_⟩;rw[e1]at e';obtain rfl:=aG e';refine⟨e2.2.1,fun es' n' q'=>?_⟩;rw[e3]at q';cases q';refine⟨nsys,e2,fun e he=>?_,nG e5 e6⟩;obtain⟨k,k1,k2⟩:=e4 e (Array.mem_toList_iff.mp he);obtain⟨t,ht⟩:=Value.isStrOf_shape k1;exact⟨k,t,ht,k2⟩
end
end
section
section
variable {G:GC}{A:Around}{env:Env}{own:dM}{O WC:a9}{ρ:aF}{Dd:Addr}{gens:List Comprehension}{scope:Scope}{pos:Pos}{k:Nat}{out:List D}
theorem Bh (pre:List D)(x:Str):qa (pre++[.str x])=fh (qa pre) x:=by
 delta qa;rw[List.foldl_append];rfl
theorem AA (a:hV G env own O WC Dd)(hg:gens[k+1]?=none)(hk:bq G A ke env own O ρ (.str x)):eN G A (.set ke) gens scope pos k env own O WC Dd ρ [.str x]:=fun s pre I ac hl K E q=>by
 delta iH
 rw[hg];show wpAny _ _ (eval ke env >>= _) _ _ _;refine aH (hk s I _ _ fun v1 s1 x1 r1=>?_);have hs1:=r1.sok;obtain⟨t1,rfl⟩:=r1.str_inv;refine aH (wpAny_standAt ?_);have ac2:=ac.keep x1.keep;obtain⟨sl,al⟩:=id ac2;obtain⟨o,ho,hc,_,_⟩:=sl.obj;have hl:pre.length+1<=1000:=hl;have hroom:(qa pre).length+1<scanBound:=lC (Nat.succ_le_succ (aJ (qV pre []) (Nat.le_of_eq (Nat.zero_add _)))) (lC hl (by decide));have hT:s1.TypeIs (.ref Dd) "set":=⟨o,ho,hc⟩;refine aH (wpAny_call_entry PySem.F.slot_set_add hT PySem.F.entry_set_add ?_ (PySem.F.args_set_add_2 _ _))
 delta Builtin.«set.add» Builtin.Frozenset.oneOther
 simp only[List.isEmpty_nil,bind_assoc]
 delta Builtin.Frozenset.addrOf setAdd
 refine aH (bg ?_);refine aH (bg ?_);refine aH (wpAny_holding (aH ((PySem.strKind G.prog G.w).pyHash (k:=x) (Value.isStrOf_refl x t1) ?_)));refine vO (s:={ s1 with toks:=s1.toks+1 }) sl hroom fun h' b hs' d'=>?_;refine bg ⟨_,rfl,bg ?_⟩;obtain⟨sx,I',_,_⟩:=a.put (c:=.set ke) (tk:=s1.toks+1) I x1 ac2 hs' (Nat.succ_pos _) (by obtain⟨o,e,c,_⟩:=d'.obj;exact⟨o,e, .inl (by rw[c];nofun)⟩);refine q _ sx I' ⟨by rw[Bh];exact d', ?_⟩;rw[List.all_append,al];show(true&&(sok (.str x)&&true))=true;rw[hs1];rfl
theorem mP:∀{pre:List D}{l:List Str},pre.all sS=true->(∀x∈l,sok (.str x)=true)->∀x∈pre.foldl rN l,sok (.str x)=true
 |[],_,_,h=>h
 |d::pre,l,a,h=>by
  obtain⟨a1,a2⟩:=cE (show(sS d&&pre.all sS)=true from a);refine mP (l:=rN l d) a2 ?_;cases d with
  |str x =>
   show∀y∈(if l.any (· == x)then l else l++[x]),_;by_cases c:l.any (· == x)=true
   .rw[if_pos c];exact h
   .rw[if_neg c];exact fun y m=>(cy m).elim (h y) fun m=>by rw[aS m];exact a1
  |_=>exact ff a1
theorem rL (hh:A.handled=none){ss:List Str}{s s':Shared}{Q E:ba}(l:dz G.w s'.heap S ss)(hl:ss.length<64)(hs:∀x∈ss,sok (.str x)=true)(x:Ext G s s')(ov:dH O s.heap)
  (q:∀v s2,Ext G s s2->az G.w O s2.heap v (.list ((dZ ss).map .str))->Q v s2):wpAny (bC G) A (call (.builtin "sorted") [.ref S]) Q E s':=by
 refine xK hh l hl fun L s2 out' e h1 h2 h3 h4 h5=>?_;have x2:Ext G s' s2:=⟨⟨h5.1,h5.2.1⟩, .of h4,x.base.all h4,kS x.pos h5.2.2,fun b e=>bw (fun o q=>h4 b o q) e⟩;have xx:=x.trans x2;have hle:(dZ ss).length<64:=by rw[dZ,(List.mergeSort_perm _ _).length_eq];exact hl
 refine q _ s2 xx (.list_of (by rw[dx];exact aJ (il hle) (by decide)) (ov.new (x.back _ h2)) ⟨_,h3,rfl,_,rfl⟩ (fun o e=>by rw[h3]at e;obtain rfl:=aG e;rfl) (rO h1 fun t m=>?_));exact hs t ((List.mergeSort_perm _ _).mem_iff.mp m)
theorem xJ (hh:A.handled=none){s s':Shared}{Q E:ba}(ov:dH O s.heap)(x:Ext G s s')(ac:bz G (.set ke) (Dd::O) s'.heap Dd out)(hl:(qa out).length<64)
  (q:∀v s2,Ext G s s2->az G.w O s2.heap v (.list ((dZ (qa out)).map .str))->Q v s2):wpAny (bC G) A (call (.builtin "sorted") [.ref Dd]) Q E s' :=
 rL hh ac.1 hl (mP (l:=[]) ac.2 (fun _ m=>nomatch m)) x ov q
theorem iw:∀ss:List Str,gF (ss.map PyData.str)=some ss
 |[]=>rfl
 |x::r=>by show(gF (r.map .str)).map (x :: ·)=_;rw[iw r];rfl
theorem BR (N:ee G env n x)(ho:n∈own.ns)(hg:ρ.get n=some (.tuple xs))(hk:env.kindOf "len" = some .globalImplicit) :
  bq G A (.Call (.Name "len" np) [.Name x p2] [] pos) env own O ρ (.int xs.length):=fun s I Q E q=>by
 have hm:("len" : Str)∈bZ:=Bf.len.mem;refine wpAny_Call_Name_kw (dD I hk (g8 hm) (I.ok.nb _ hm) Bf.len.boot (g9 hm) ?_);refine Calls.callWith_builtin (di (xs:=[.Name x p2]) rfl pos env) (bl rfl ?_);show wpAny _ _ (spliced [(false,eval (.Name x p2) env)]) _ _ _;refine spliced_cons (Ed N I ho hg fun a ss m e l z1 _=>spliced_nil ?_);subst e;have hz:=fun{o es ep t} ho hd=>dz.size (o:=o) (es:=es) (ep:=ep) (t:=t) ho hd l;obtain⟨o,es,ep,t,h1,hex,hd,_,_,_,hf,_,_,_⟩:=l;have hz:=hz h1 hd;show wpAny (bC G) A (call (.builtin "len") [.ref a]) Q E _;refine call_len_set h1 hex hd hf (by rw[hz];exact Int.lt_of_le_of_lt (Int.ofNat_le.mpr z1) (by decide)) ?_;rw[hz,show(ss.length:Int)=((ss.map PyData.str).length:Nat) by rw[dx]];exact q _ _ ((Ext.refl I.base I.pos).tok (Nat.succ_pos _)) .int
theorem Aa (hh:A.handled=none)(N:ee G env n x)(ho:n∈own.ns)(hg:ρ.get n=some (.tuple xs))(hs:gF xs=some ts)(hk:env.kindOf "sorted" = some .globalImplicit) :
  bq G A (.Call (.Name "sorted" np) [.Name x p2] [] pos) env own O ρ (.list ((dZ ts).map .str)):=fun s I Q E q=>by
 have hm:("sorted" : Str)∈bZ:=Bf.sorted.mem;refine wpAny_Call_Name_kw (dD I hk (g8 hm) (I.ok.nb _ hm) Bf.sorted.boot (g9 hm) ?_);refine Calls.callWith_builtin (di (xs:=[.Name x p2]) rfl pos env) (bl rfl ?_);show wpAny _ _ (spliced [(false,eval (.Name x p2) env)]) _ _ _;refine spliced_cons (Ed N I ho hg fun a ss m e l z1 z2=>spliced_nil ?_);subst e;obtain rfl:=aG ((iw ss).symm.trans hs);exact rL hh l (lC z1 (by decide)) z2 (Ext.refl I.base I.pos) I.ov q
end
end
section
section
variable {prog:Program}{w:World}{A:Around}{E:ba}{s:Shared}
theorem Bb (hm:gp t)(h:t.place.size+n<=4):t.roomFor n=none:=by
 delta SetTable.roomFor SetTable.fill
 rw[hm.1,hm.2];exact if_neg (Nat.not_le_of_gt (lC (oG 5 (show t.place.size+0+n<=4 from h)) (by decide)))
theorem vR {D:Addr}{o:Obj}{es:Array (Int × Value)}{ep n:Nat}{t:SetTable}{Q:Unit->Shared->Prop}(ho:s.heap.get? D=some o)(hd:o.data=.set es ep t)(hf:t.fits es.size=true)(hm:gp t)(hn:es.size+n<=4)(h:Q () s) :
  wpAny (model prog w) A (setRoomFor D n) Q E s:=by
 refine aH (wpAny_setState_of ho hd hf ?_);dsimp only;rw[Bb hm (by rw[iF hf];exact hn)];exact bg h
theorem rj {D a:Addr}{ss:List Str}{each:Sem Unit}{Q:Unit->Shared->Prop}(hD:dz w s.heap D [])(hA:dz w s.heap a ss)(hne:D≠a)(hl:ss.length<=3)
  (h:∀h',Heap.SameBut D s.heap h'->dz w h' D ss->Q () { s with heap:=h' }):wpAny (model prog w) A (setMerge D a each) Q E s:=by
 have hD0:=hD;have zd:=fun{o es ep t} ho hd=>dz.size (o:=o) (es:=es) (ep:=ep) (t:=t) ho hd hD;have za:=fun{o es ep t} ho hd=>dz.size (o:=o) (es:=es) (ep:=ep) (t:=t) ho hd hA;obtain⟨oD,eD,pD,tD,ho,hex,hd,hel,hp,hb,hf,hld,hpl,hm⟩:=hD;obtain⟨oA,eA,pA,tA,ao,aex,ad,ael,ap,ab,af,ald,apl,am⟩:=hA;have zd:eD.size=0:=zd ho hd;have za:=za ao ad;have hm:=hm (by rw[zd];exact gL _);have am:=am (by rw[za];exact Nat.le_succ_of_le hl)
 delta setMerge
 rw[if_neg (show¬ (D==a)=true from fun q=>hne (eM q))];refine aH (wpAny_setState_of ao ad af ?_);dsimp only;refine wpAny_ite_split (fun c=>?_) (fun c=>?_)
 .have e:eA.size=0:=by rw[Array.isEmpty_iff_size_eq_zero]at c;exact c
  have e0:ss=[]:=List.length_eq_zero_iff.mp (za.symm.trans e);subst e0;exact bg (h s.heap (Heap.SameBut.refl _ _) hD0)
 .have hz:eA.size≠0:=fun e=>c (by rw[Array.isEmpty_iff_size_eq_zero];exact e);refine aH (vR ho hd hf hm (by rw[zd,za,Nat.zero_add];exact Nat.le_succ_of_le hl) ?_);refine aH (wpAny_setState_of ho hd hf ?_);have hr:tD.road tA=.slotForSlot:=by
   delta SetTable.road SetTable.fill
   rw[iF hf,zd,hm.2,hm.1,am.1,am.2];rfl
  dsimp only;rw[hr];have f2:({ tA with finger:=tD.finger,led:=tD.led&&tA.led,moves:=tD.moves,plain:=tD.plain&&tA.plain }:SetTable).fits eA.size=true:=af;obtain⟨g1,_⟩:=SetOf_store (knd:=PySem.strKind prog w) (S':=fun k=>eA.toList.any fun e=>(PySem.strKind prog w).is k e.2) ho hex hd ael.of (fun k=>List.any_eq_true) ab f2;refine wpAny_storeSet_of ho hd (h _ (Heap.SameBut.update _ D _) ⟨_,eA,_,_,g1,hex,rfl,ael,ap,ab,f2, ?_, .inr ?_,fun _=>am⟩) (fits_of_scanBound ab)
  .rcases hld with q|q
   .exact .inl q
   .exact ald.imp id fun q2=>by show(tD.led&&tA.led)=true;rw[q,q2];rfl
  .show(tD.plain&&tA.plain)=false;rw[apl.resolve_left hz,Bool.and_false]
theorem Jl (h:es.size=1):∃p,es=#[p]:=Array.size_eq_one_iff.mp h
theorem AO {D a:Addr}{sd ss:List Str}{each:Sem Unit}{Q:Unit->Shared->Prop}(hD:dz w s.heap D sd)(hA:dz w s.heap a ss)(hne:D≠a)(hd3:sd.length<=3)(hl:ss.length<=1)
  (he:∀{s':Shared}{Q':Unit->Shared->Prop}{E':ba},s'.heap.get? a=s.heap.get? a->Q' () s'->wpAny (model prog w) A each Q' E' s')
  (h:∀h',Heap.SameBut D s.heap h'->dz w h' D (ss.foldl fh sd)->Q () { s with heap:=h' }):wpAny (model prog w) A (setMerge D a each) Q E s:=by
 rcases sd with⟨⟩|⟨y,sd⟩
 .refine rj hD hA hne (aJ hl (by decide)) fun h' k1 k2=>h h' k1 ?_;rcases ss with⟨⟩|⟨x,⟨⟩|⟨x2,r⟩⟩
  .exact k2
  .exact k2
  .exact absurd hl (by simp)
 have hD0:=hD;have zd:=fun{o es ep t} ho hd=>dz.size (o:=o) (es:=es) (ep:=ep) (t:=t) ho hd hD;have za:=fun{o es ep t} ho hd=>dz.size (o:=o) (es:=es) (ep:=ep) (t:=t) ho hd hA;obtain⟨oD,eD,pD,tD,ho,hex,hd,hel,hp,hb,hf,hld,hpl,hm⟩:=hD;obtain⟨oA,eA,pA,tA,ao,aex,ad,ael,ap,ab,af,ald,apl,am⟩:=hA;have zd:=zd ho hd;have za:=za ao ad;have hm:=hm (by rw[zd];exact Nat.le_succ_of_le hd3)
 delta setMerge
 rw[if_neg (show¬ (D==a)=true from fun q=>hne (eM q))];refine aH (wpAny_setState_of ao ad af ?_);dsimp only;refine wpAny_ite_split (fun c=>?_) (fun c=>?_)
 .have e:eA.size=0:=by rw[Array.isEmpty_iff_size_eq_zero]at c;exact c
  have e0:ss=[]:=List.length_eq_zero_iff.mp (za.symm.trans e);subst e0;exact bg (h s.heap (Heap.SameBut.refl _ _) hD0)
 .have hz:eA.size=1:=Nat.le_antisymm (za▸hl) (Nat.pos_of_ne_zero fun e=>c (by rw[Array.isEmpty_iff_size_eq_zero];exact e));refine aH (vR ho hd hf hm (by rw[zd,hz];exact Nat.succ_le_succ hd3) ?_);refine aH (wpAny_setState_of ho hd hf ?_);have hr:tD.road tA=.oneByOne:=by
   delta SetTable.road SetTable.fill
   rw[iF hf,zd,hm.2];rfl
  dsimp only;rw[hr];obtain⟨⟨hh,v⟩,rfl⟩:=Jl hz;obtain⟨k,tk,rfl,rfl⟩:=ael _ (.head _);have hk:ss=[k]:=List.perm_singleton.mp ap.symm;subst hk;have walk:∀{Q':Array (Int × Value)->Shared->Prop},Q' #[(hashStr w k, .str k tk)] s->wpAny (model prog w) A (setWalkUnseen a [D] (some D)) Q' E s:=fun{Q'} q=>by
   delta setWalkUnseen
   refine aH (wpAny_setState_of ao ad af ?_)
   delta setsByText
   refine aH (aH (wpAny_askSetting (bg ?_)));dsimp only;rw[if_pos (show(_ || _ || decide ((#[(hashStr w k,Value.str k tk)]:Array (Int × Value)).size<=1))=true by rw[show decide ((#[(hashStr w k,Value.str k tk)]:Array (Int × Value)).size<=1)=true from rfl,Bool.or_true])]
   delta setWalk
   refine aH (wpAny_setState_of ao ad af ?_)
   delta setsByText
   refine aH (aH (wpAny_askSetting (bg ?_)));dsimp only;refine wpAny_ite_split (fun _=>?_) (fun _=>?_)
   .refine aH (wpAny_askSetting (bg ?_));have:=(jv ((model prog w).w.params.setOrder a pA) (#[(hashStr w k,Value.str k tk)]:Array (Int × Value))).eq_singleton;rw[show pickOrder ((model prog w).w.params.setOrder a pA) #[(hashStr w k,Value.str k tk)]=#[(hashStr w k,Value.str k tk)]from Array.toList_inj.mp this];exact q
   .refine wpAny_ite_split (fun c2=>absurd (show(!tA.plain&&false)=true from c2) (by rw[Bool.and_false];exact g6)) fun _=>?_;refine aH ?_;show wpAny _ _ (if(!tA.led&&false)=true then unsupported "set:maker-not-led" else pure ()) _ _ _;rw[Bool.and_false];exact bg (bg q)
  refine aH (walk ?_);rw[<- Array.forIn_toList];show wpAny _ _ (forIn [(hashStr w k,Value.str k tk)] PUnit.unit _ >>= _) _ _ _;rw[List.forIn_cons];have hl3:(y::sd).length+1<scanBound:=lC (Nat.succ_le_succ hd3) (by decide);refine aH (aH (aH (wpAny_holding (vO hD0 hl3 fun h' b hs d=>?_))));have ka:h'.get? a=s.heap.get? a:=hs.2 a hne.symm;refine aH (he (s':={ s with heap:=h' }) ka ?_);refine aH (wpAny_setState_of (s:={ s with heap:=h' }) (ka.trans ao) ad af ?_);dsimp only;rw[if_neg (show¬ (pA != pA)=true by simp)];refine bg ?_;dsimp only;rw[List.forIn_nil];exact bg (bg (h h' hs d))
theorem sj (hT:s.TypeIs (.ref x) "set")(h:Q true s):wpAny (model prog w) A (Builtin.Frozenset.isAnySet (.ref x)) Q E s:=by refine aH (wpAny_isInstance (T:="set") (b:=true) hT (by rw[isSubtype_type];kernel_rfl) ?_);exact bg h
theorem sA:entryFor table "set.__or__" = some Builtin.«frozenset.__or__»:=entryFor_alias (id':="frozenset.__or__") (by kernel_rfl) rfl (by decide +kernel) (by kernel_rfl)
theorem JH (h1:dz w s.heap a ss1)(h2:dz w s.heap b ss2)(hab:a≠b)(l1:ss1.length<=3)(l2:ss2.length<=1)
 (h:∀D h' tk,s.heap.get? D=none->s.toks<=tk->(∀b o,s.heap.get? b=some o->h'.get? b=some o)->dz w h' D (ss2.foldl fh ss1)->Q (.ref D) { s with heap:=h',toks:=tk }) :
  wpAny (model prog w) A (binaryOp .BitOr (.ref a) (.ref b)) Q E s:=by
 obtain⟨o1,ho1,hc1,_,_⟩:=h1.obj;obtain⟨o2,ho2,hc2,_,_⟩:=h2.obj;have hT1:s.TypeIs (.ref a) "set":=⟨o1,ho1,hc1⟩;have hT2:s.TypeIs (.ref b) "set":=⟨o2,ho2,hc2⟩;refine wpAny_binaryOp_same (T:="set") hT1 hT2 PySem.F.fills_set_or PySem.F.slot_set_or ?_;refine wpAny_call_entry PySem.F.slot_set_or hT1 sA ?_ (PySem.F.args_set_or_2 _ _)
 wp_delta
 refine aH (aH (bg (bg ?_)));dsimp only;rw[if_neg g6];refine aH (aH (sj hT1 (sj hT2 ?_)));dsimp only;rw[if_neg (show¬ (!true)=true from g6)];refine aH (bg ?_);refine aH ?_
 wp_delta
 refine aH (aH (aH (wpAny_isInstance (T:="set") (b:=true) hT1 (by rw[isSubtype_type];kernel_rfl) (bg ?_))));rw[if_pos rfl];refine aH (zj fun o hfr hD=>?_);have k1:∀b o',s.heap.get? b=some o'->(s.heap.push o).get? b=some o':=fun b o' e=>gv _ e;have hDa:s.heap.objs.size≠a:=Nat.ne_of_gt (Heap.lt_size ho1);have hDb:s.heap.objs.size≠b:=Nat.ne_of_gt (Heap.lt_size ho2);refine aH (bg ?_);refine aH (rj (s:={ s with heap:=s.heap.push o }) hD (h1.at (k1 a)) hDa l1 fun h2' sb d1=>?_);have k2:∀b o',s.heap.get? b=some o'->h2'.get? b=some o':=fun b o' e=>sb.extBut b o' (Nat.ne_of_lt (Heap.lt_size e)) (k1 b o' e);refine bg ?_;dsimp only;rw[if_pos (show(Value.ref b != Value.ref a)=true by rw[bne_iff_ne];exact fun q=>hab (by injection q with q;exact q.symm))];refine aH (bg ?_);refine aH (wpAny_holding ?_);refine aH (sj ⟨o2,k2 b o2 ho2,hc2⟩ ?_);rw[if_pos rfl];refine aH (bg ?_);obtain⟨oB,eB,pB,tB,bo,bex,bd,bel,bp,bb,bf,bld,bpl,bm⟩:=h2.at (h':=h2') (k2 b);refine aH (wpAny_setEpoch_of bo bd bf ?_);refine AO (s:={ s with heap:=h2' }) d1 (h2.at (k2 b)) hDb l1 l2 (fun{s' Q' E'} e q=>?_) fun h3 sb3 d3=>?_
 .skip
  refine aH (wpAny_setEpoch_of (e.trans bo) bd bf ?_);rw[if_neg (show¬ (pB != pB)=true by simp)];exact bg q
 .refine bg (bg ⟨_,rfl,(by nofun),h _ h3 s.toks (aD _) (fc _) (fun b o' e=>sb3.extBut b o' (Nat.ne_of_lt (Heap.lt_size e)) (k2 b o' e)) d3⟩)
end
end
section
section
variable {α:Type}
def fz (l:List α)(k:α->Bool):Bool:=bu l fun a r=>bK r (k a)
@[elab_as_elim] theorem aP {k:α->Bool}{P:List α->Prop}(h:fz l k=true)(q:∀a,k a=true->P [a]):P l:=by refine ay h fun a r h=>?_;exact aI h fun h=>q a h
end
def xl (x:Expr)(k:Str->Bool):Bool:=et x fun z _ _=>te z k
@[elab_as_elim] theorem nE {k:Str->Bool}{P:Expr->Prop}(h:xl x k=true)(q:∀y n p,k y=true->P (.Constant (.str y) n p)):P x:=by refine cz h fun z n p h=>?_;exact jr h fun y h=>q y n p h
def zu (x:Expr)(o:UnaryOp)(k:Expr->Bool):Bool:=jS x fun z y _=>DM z o (k y)
@[elab_as_elim] theorem kD {k:Expr->Bool}{P:Expr->Prop}(h:zu x o k=true)(q:∀y p,k y=true->P (.UnaryOp o y p)):P x:=by refine jt h fun z y p h=>?_;exact ry h fun h=>q y p h
def xg (x:Expr)(k:Expr->CmpOp->Expr->Bool):Bool:=rx x fun l os rs _=>fz os fun o=>fz rs fun r=>k l o r
@[elab_as_elim] theorem nA {k:Expr->CmpOp->Expr->Bool}{P:Expr->Prop}(h:xg x k=true)(q:∀l o r p,k l o r=true->P (.Compare l [o] [r] p)):P x:=by refine pO h fun l os rs p h=>?_;refine aP h fun o h=>?_;exact aP h fun r h=>q l o r p h
def ch (x:Expr)(k:Str->dN->Bool):Bool:=tj x fun f es ks _=>bh f fun y _=>bK ks (k y es)
@[elab_as_elim] theorem aR {k:Str->dN->Bool}{P:Expr->Prop}(h:ch x k=true)(q:∀y np es p,k y es=true->P (.Call (.Name y np) es [] p)):P x:=by refine ny h fun f es ks p h=>?_;refine aA h fun y np h=>?_;exact aI h fun h=>q y np es p h
def lE (x:Expr)(k:Expr->Str->Pos->dN->Pos->Bool):Bool:=tj x fun f es ks p=>nv f fun o y ap=>bK ks (k o y ap es p)
@[elab_as_elim] theorem fW {k:Expr->Str->Pos->dN->Pos->Bool}{P:Expr->Prop}(h:lE x k=true)(q:∀o y ap es p,k o y ap es p=true->P (.Call (.Attribute o y ap) es [] p)):P x:=by refine ny h fun f es ks p h=>?_;refine m4 h fun o y ap h=>?_;exact aI h fun h=>q o y ap es p h
structure Cx where
 nm:List Str
 sc:List (Str × NameKind)
 own:aN
noncomputable def Em (c:Cx)(x:Str):Bool:=c.sc.lookup x==some .local || c.sc.lookup x==some .cell || c.sc.lookup x==some .free
def fw (c:Cx)(n:Nat)(x:Str):Bool:=c.nm[n]?==some x&&Em c x&&!(x==("__classdict__" : Str))&&!(x==("__debug__" : Str))
noncomputable def mS (c:Cx)(x:Str):Bool:=c.sc.lookup x==some .globalImplicit&&!(x==("__debug__" : Str))
noncomputable def fu (c:Cx)(x:Str):Bool:=c.sc.lookup x==some .globalImplicit
def yE:Const->D->Bool
 |.none,d=>match d with|.none=>true|_=>false
 |.bool a,d=>match d with|.bool b=>a==b|_=>false
 |.int a,d=>match d with|.int b=>a==b|_=>false
 |.str a,d=>match d with|.str b=>a==b&&sok (.str a)|_=>false
 |_,_=>false
noncomputable def w6:List Str->List (Option Expr)->Bool
 |[],ks=>bK ks true
 |k::r,ks=>bu ks fun o ks=>iL o fun e=>et e fun z _ _=>te z fun x=>(x==k&&w6 r ks)
noncomputable def xY:List Str->dN->Bool
 |[],ks=>bK ks true
 |k::r,ks=>bu ks fun e ks=>et e fun z _ _=>te z fun x=>(x==k&&xY r ks)
noncomputable def tgNames (c:Cx):aN->dN->Bool
 |[],es=>bK es true
 |n::ns,es=>bu es fun e es=>bh e fun x _=>(c.nm[n]?==some x&&(c.sc.lookup x==some .local || c.sc.lookup x==some .cell)&&!c.own.contains n&&tgNames c ns es)
def tO (c:Cx)(ns:aN)(e:Expr):Bool:=(bh e fun x p=>tgNames c ns [.Name x p]&&ns.length==1) || fX e fun es _ _=>tgNames c ns es&&decide (2<=ns.length)
def Eu (src:By)(tg:Expr):Bool:=match src with
 |.e _=>cK tg
 |.r _=>wn tg
 |.enum _=>Fq tg
 |.rev _=>wn tg
mutual
noncomputable def a7 (c:Cx):E->Expr->Bool
 |.l d,x=>et x fun k w1 w2=>(yE k d)
 |.v n,x=>bh x fun y w1=>(fw c n y&&!c.own.contains n)
 |.g n,x=>bh x fun y w1=>(mS c y&&c.nm[n]?==some y)
 |.b o a b,x=>oI x fun l o' r w1=>(decide (o=o')&&a7 c a l&&a7 c b r)
 |.n a,x=>zu x .USub fun y=>a7 c a y
 |.w a,x=>zu x .Invert fun y=>a7 c a y
 |.q o a b,x=>xg x fun l o' r=>(decide (o=o')&&!behindInMarks o r&&a7 c a l&&a7 c b r)
 |.z a,x=>zu x .Not fun y=>a7 c a y
 |.o o xs,x=>vB x fun o' ys w1=>(decide (o=o')&&eP c xs ys)
 |.e a b d,x=>tq x fun t y z w1=>(a7 c a t&&a7 c b y&&a7 c d z)
 |.i xs,x=>xh x fun es w1=>(eP c xs es)
 |.t xs,x=>fX x fun es w1 w2=>(eP c xs es)
 |.d kvs,x=>DL x fun ks vs w1=>(wG kvs&&w6 (kvs.map (·.1)) ks&&xY (kvs.map (·.2)) vs)
 |.p elt gs,x=>iJ x fun e gens scope w1=>(decide (scope.kind=.function)&&!gens.isEmpty&&d9 c.nm c.sc scope.names (j1 gs)&&decide ((j1 gs).Nodup)&&a7 { c with sc:=hG scope.names c.sc } elt e&&j5 c { c with sc:=hG scope.names c.sc } scope.names true gs gens)
 |.c f args,x=>ch x fun y es=>(mS c y&&c.nm[f]?==some y&&eP c args es)
 |.f f args,x=>ch x fun y es=>(decide (y=f.nm)&&fu c y&&eP c args es)
 |.m m o args,x=>lE x fun ob y ap es p=>(decide (y=m.name)&&gS ob&&(ap.endLine==p.line)&&decide (es.length<30)&&a7 c o ob&&eP c args es)
 |.r a y z,x=>lE x fun ob n ap es p=>bu es fun e1 r=>xl e1 fun y'=>fz r fun e2=>xl e2 fun z'=>(decide (n = "replace")&&decide (y=y')&&decide (z=z')&&!(y==z)&&gS ob&&(ap.endLine==p.line)&&a7 c a ob)
 |.isb a,x=>ch x fun f es=>bu es fun y r=>fz r fun z=>bh z fun t _=>(decide (f = "isinstance")&&decide (t = "bool")&&fu c f&&fu c t&&aY y&&a7 c a y)
 |.isi a,x=>ch x fun f es=>bu es fun y r=>fz r fun z=>bh z fun t _=>(decide (f = "isinstance")&&decide (t = "int")&&fu c f&&fu c t&&aY y&&a7 c a y)
 |.dcomp k v gs,x=>kA x fun ke ve gens scope w1=>(decide (scope.kind=.function)&&!gens.isEmpty&&d9 c.nm c.sc scope.names (j1 gs)&&decide ((j1 gs).Nodup)&&a7 { c with sc:=hG scope.names c.sc } k ke&&a7 { c with sc:=hG scope.names c.sc } v ve&&j5 c { c with sc:=hG scope.names c.sc } scope.names true gs gens)
 |.ssc e gs,x=>ch x fun f es=>fz es fun z=>jR z fun ke gens scope w1=>(decide (f = "sorted")&&fu c f&&decide (scope.kind=.function)&&d9 c.nm c.sc scope.names (j1 gs)&&decide ((j1 gs).Nodup)&&a7 { c with sc:=hG scope.names c.sc } e ke&&j5 c { c with sc:=hG scope.names c.sc } scope.names true gs gens)
 |.ocmp o a n,x=>xg x fun l o' r=>bh r fun y _=>(decide (o=o')&&fw c n y&&c.own.contains n&&a7 c a l)
 |.slen n,x=>ch x fun f es=>fz es fun z=>bh z fun y _=>(decide (f = "len")&&fu c f&&fw c n y&&c.own.contains n)
 |.ssort n,x=>ch x fun f es=>fz es fun z=>bh z fun y _=>(decide (f = "sorted")&&fu c f&&fw c n y&&c.own.contains n)
 |.s a i,x=>eI x fun v s w1=>(gA s&&a7 c a v&&a7 c i s)
 |.a a lo hi st,x=>eI x fun v z1 w2=>tu z1 fun l h t w1=>(a7 c a v&&FM c lo l&&FM c hi h&&FM c st t)
 |.olen n,x=>ch x fun f es=>fz es fun z=>bh z fun y _=>(decide (f = "len")&&fu c f&&fw c n y&&c.own.contains n)
 |.oget n i,x=>eI x fun z1 s w2=>bh z1 fun y w1=>(gA s&&fw c n y&&c.own.contains n&&a7 c i s)
 |.ocall f n args,x=>ch x fun g es=>bu es fun z es=>bh z fun y _=>(mS c g&&c.nm[f]?==some g&&fw c n y&&c.own.contains n&&eP c args es)
noncomputable def eP (c:Cx):Es->dN->Bool
 |.n,xs=>bK xs true
 |.c e r,xs=>bu xs fun x xs=>(aY x&&a7 c e x&&eP c r xs)
noncomputable def FM (c:Cx):Os->Option Expr->Bool
 |.n,x=>gB x true
 |.y e,x=>iL x fun y=>(a7 c e y)
noncomputable def wB (c:Cx):By->Expr->Bool
 |.e a,x=>jo x&&a7 c a x
 |.r args,x=>ch x fun y es=>(decide (y = "range")&&fu c y&&eP c args es)
 |.enum a,x=>ch x fun y es=>fz es fun e=>(decide (y = "enumerate")&&fu c y&&aY e&&a7 c a e)
 |.rev a,x=>ch x fun y es=>fz es fun e=>(decide (y = "reversed")&&fu c y&&aY e&&a7 c a e)
noncomputable def j5 (c ci:Cx)(orig:List (Str × NameKind))(top:Bool):Gs->List Comprehension->Bool
 |.n,gens=>bK gens true
 |.c tg src ifs r,gens=>bu gens fun g gens=>(decide (g.is_async=0)&&tO ci tg g.target&&tO { ci with sc:=orig } tg g.target&&Eu src g.target&&(top || !dC src)&&wB c src g.iter&&eP ci ifs g.ifs&&j5 ci ci orig false r gens)
end
end
section
theorem qH {P:Prop}(h:(a&&b)=true)(k:a=true->b=true->P):P:=k ((ai h).1) ((ai h).2)
theorem gP {P:Prop}(h:(a&&b&&c)=true)(k:a=true->b=true->c=true->P):P:=k ((ai (ai h).1).1) ((ai (ai h).1).2) ((ai h).2)
theorem gt {P:Prop}(h:(a&&b&&c&&d)=true)(k:a=true->b=true->c=true->d=true->P):P:=k ((ai (ai (ai h).1).1).1) ((ai (ai (ai h).1).1).2) ((ai (ai h).1).2) ((ai h).2)
theorem nf {P:Prop}(h:(a&&b&&c&&d&&e)=true)(k:a=true->b=true->c=true->d=true->e=true->P):P:=k ((ai (ai (ai (ai h).1).1).1).1) ((ai (ai (ai (ai h).1).1).1).2) ((ai (ai (ai h).1).1).2) ((ai (ai h).1).2) ((ai h).2)
theorem hZ {P:Prop}(h:(a&&b&&c&&d&&e&&f)=true)(k:a=true->b=true->c=true->d=true->e=true->f=true->P):P:=k ((ai (ai (ai (ai (ai h).1).1).1).1).1) ((ai (ai (ai (ai (ai h).1).1).1).1).2) ((ai (ai (ai (ai h).1).1).1).2) ((ai (ai (ai h).1).1).2) ((ai (ai h).1).2) ((ai h).2)
theorem BH {P:Prop}(h:(a&&b&&c&&d&&e&&f&&g)=true)(k:a=true->b=true->c=true->d=true->e=true->f=true->g=true->P):P:=k ((ai (ai (ai (ai (ai (ai h).1).1).1).1).1).1) ((ai (ai (ai (ai (ai (ai h).1).1).1).1).1).2) ((ai (ai (ai (ai (ai h).1).1).1).1).2) ((ai (ai (ai (ai h).1).1).1).2) ((ai (ai (ai h).1).1).2) ((ai (ai h).1).2) ((ai h).2)
theorem yl {P:Prop}(h:(a&&b&&c&&d&&e&&f&&g&&x)=true)(k:a=true->b=true->c=true->d=true->e=true->f=true->g=true->x=true->P):P:=k ((ai (ai (ai (ai (ai (ai (ai h).1).1).1).1).1).1).1) ((ai (ai (ai (ai (ai (ai (ai h).1).1).1).1).1).1).2) ((ai (ai (ai (ai (ai (ai h).1).1).1).1).1).2) ((ai (ai (ai (ai (ai h).1).1).1).1).2) ((ai (ai (ai (ai h).1).1).1).2) ((ai (ai (ai h).1).1).2) ((ai (ai h).1).2) ((ai h).2)
section
variable {G:GC}{A:Around}{S:cU}
structure bV (G:GC)(A:Around)(S:cU)(c:Cx)(env:Env)(own:dM):Prop where
 nm:c.nm=G.names
 sc:env.scope.names=c.sc
 ow:∀n,c.own.contains n=true↔n∈own.ns
 fn:env.scope.kind=.function
 F:oP G A S.cal
 gl:gY G S.gl
 hh:A.handled=none
 hu:A.units+100<cLine
variable {c:Cx}{env:Env}{own:dM}
theorem bV.name (X:bV G A S c env own)(h:fw c n x=true):ee G env n x:=by
 obtain⟨h,h4⟩:=cE h;obtain⟨h,h3⟩:=cE h;obtain⟨h1,h2⟩:=cE h;refine⟨X.nm▸eM h1, ?_,(Bool.not_eq_true' _).mp h3,(Bool.not_eq_true' _).mp h4⟩;have e:env.kindOf x=c.sc.lookup x:=by show env.scope.names.lookup x=_;rw[X.sc]
 rw[e];rcases Bool.or_eq_true_iff.mp h2 with h|h
 .exact(Bool.or_eq_true_iff.mp h).elim (fun h=>⟨_,eM h, .inl rfl⟩) fun h=>⟨_,eM h, .inr (.inl rfl)⟩
 .exact⟨_,eM h, .inr (.inr rfl)⟩
theorem bV.own' (X:bV G A S c env own)(h:c.own.contains n=true):n∈own.ns:=(X.ow n).mp h
theorem bV.nown (X:bV G A S c env own)(h:(!c.own.contains n)=true):n∉own.ns:=fun m=>by rw[(X.ow n).mpr m]at h;exact ff h
theorem bV.glob (X:bV G A S c env own)(h:mS c x=true):env.kindOf x=some .globalImplicit/\(x==("__debug__" : Str))=false:=by obtain⟨h1,h2⟩:=cE h;exact⟨by show env.scope.names.lookup x=_;rw[X.sc];exact eM h1,(Bool.not_eq_true' _).mp h2⟩
theorem bV.isG (X:bV G A S c env own)(h:fu c x=true):env.kindOf x=some .globalImplicit:=by show env.scope.names.lookup x=_;rw[X.sc];exact eM h
theorem bV.nmOf (X:bV G A S c env own){n:Nat}{x:Str}(h:(c.nm[n]?==some x)=true):G.names[n]?=some x:=X.nm▸eM h
theorem bV.tgNames (X:bV G A S c env own):∀{ns:aN}{es:dN},Internal.tgNames c ns es=true->oS G env own es ns
 |[],es,h=>by have h:bK es true=true:=h;refine aI h fun _=>.nil
 |n::ns,es,h=>by
  refine ay h fun e es h=>?_;refine aA h fun x _ h=>?_
  .simp only[eO,Bool.or_eq_true,beq_iff_eq]at h;obtain⟨⟨⟨h1,h2⟩,h3⟩,h4⟩:=h;have e:∀y,env.kindOf y=c.sc.lookup y:=fun y=>by show env.scope.names.lookup y=_;rw[X.sc]
   rcases h2 with h2|h2
   .exact .cons (X.nm▸h1) ((e _).trans h2) (.inl rfl) (X.nown h3) (bV.tgNames X h4)
   .exact .cons (X.nm▸h1) ((e _).trans h2) (.inr rfl) (X.nown h3) (bV.tgNames X h4)
theorem bV.target (X:bV G A S c env own)(h:tO c ns e=true):cN G env own e ns:=by
 refine(Bool.or_eq_true_iff.mp h).elim (fun h=>?_) fun h=>?_
 .refine aA (P:=fun e=>cN G env own e ns) h fun x p h=>?_;have:=X.tgNames (cE h).1;cases this with
  |cons h1 h2 h3 h4 h5=>cases h5;exact .name (.cons h1 h2 h3 h4 .nil)
 .exact dK (P:=fun e=>cN G env own e ns) h fun es _ _ h=>.tup (X.tgNames (cE h).1) (bJ (cE h).2)
theorem iP {own:aN}{orig:List (Str × NameKind)}:∀{ns:aN}{es:dN},Internal.tgNames ⟨nm,orig,own⟩ ns es=true->∀n∈ns,∃x,nm[n]?=some x/\(orig.lookup x=some .local\/orig.lookup x=some .cell)
 |[],es,h,n,m=>by cases m
 |k::ns,es,h,n,m=>by
  refine ay h fun e es h=>?_;refine aA h fun x _ h=>?_
  .simp only[eO,Bool.or_eq_true,beq_iff_eq]at h;obtain⟨⟨⟨h1,h2⟩,h3⟩,h4⟩:=h;rcases bA m with rfl|m
   .exact⟨_,h1,h2⟩
   .exact iP h4 n m
theorem Bu {own:aN}{orig:List (Str × NameKind)}{ns:aN}{e:Expr}(h:tO ⟨nm,orig,own⟩ ns e=true):∀n∈ns,∃x,nm[n]?=some x/\(orig.lookup x=some .local\/orig.lookup x=some .cell):=by
 refine(Bool.or_eq_true_iff.mp h).elim (fun h=>?_) fun h=>?_
 .exact aA (P:=fun _=>_) h fun x p h=>iP (cE h).1
 .exact dK (P:=fun _=>_) h fun es _ _ h=>iP (cE h).1
theorem pF:∀{ks:List Str}{es:List (Option Expr)},w6 ks es=true->es.length=ks.length/\∀(i:Nat) x,ks[i]?=some x->∃k pp,es[i]?=some (some (.Constant (.str x) k pp))
 |[],es,h=>by have h:bK es true=true:=h;exact aI h fun _=>⟨rfl,fun i x e=>(nomatch e)⟩
 |k::r,es,h=>by
  refine ay h fun o es h=>?_;refine eH h fun o h=>?_;refine cz h fun z _ _ h=>?_;refine jr h fun x h=>?_
  .obtain⟨h1,h2⟩:=cE h;obtain⟨a,b⟩:=pF h2;refine⟨by simp[a],fun i x e=>?_⟩;cases i with
   |zero=>simp at e;subst e;rw[eM h1];exact⟨_,_,rfl⟩
   |succ i=>simpa using b i x (by simpa using e)
theorem qm:∀{ks:List Str}{es:dN},xY ks es=true->es.length=ks.length/\∀(i:Nat) x,ks[i]?=some x->∃k pp,es[i]?=some (.Constant (.str x) k pp)
 |[],es,h=>by have h:bK es true=true:=h;exact aI h fun _=>⟨rfl,fun i x e=>(nomatch e)⟩
 |k::r,es,h=>by
  refine ay h fun o es h=>?_;refine cz h fun z _ _ h=>?_;refine jr h fun x h=>?_
  .obtain⟨h1,h2⟩:=cE h;obtain⟨a,b⟩:=qm h2;refine⟨by simp[a],fun i x e=>?_⟩;cases i with
   |zero=>simp at e;subst e;rw[eM h1];exact⟨_,_,rfl⟩
   |succ i=>simpa using b i x (by simpa using e)
theorem MT {P:Prop}(h:true=false):P:=Bool.noConfusion h
theorem Gk {P:Prop}(h:false=true):P:=Bool.noConfusion h
theorem Bz {x:α}{P:Prop}(h:(none:Option α)=some x):P:=Option.noConfusion rfl (heq_of_eq h)
theorem im (h:(!b)=true):b=false:=by cases b;rfl;exact ff h
structure wk (G:GC)(A:Around)(S:cU)(e0:E)(x:Expr)(env:Env)(own:dM)(O:a9)(ρ:aF):Prop where
 e:∀d,ev S ρ e0=some d->bq G A x env own O ρ d
 t:∀b,evT S ρ e0=some b->mn G A x env own O ρ b
theorem wk.plain {e:E}{x:Expr}{O:a9}{ρ:aF}(hp:zy x=true)(h:∀d,ev S ρ e=some d->bq G A x env own O ρ d)(ht:evT S ρ e=(ev S ρ e).bind dq):wk G A S e x env own O ρ:=
 ⟨h,fun b hb=>aq (ht▸hb) fun d h1 h2=>J1 hp (h d h1) h2⟩
theorem wk.none {e:E}{x:Expr}{O:a9}{ρ:aF}(h:∀d,ev S ρ e=some d->bq G A x env own O ρ d)(ht:evT S ρ e=none):wk G A S e x env own O ρ:=
 ⟨h,fun b hb=>Bz (ht.symm.trans hb)⟩
structure N2 (G:GC)(A:Around)(S:cU)(es:Es)(xs:dN)(env:Env)(own:dM)(O:a9)(ρ:aF):Prop where
 ns:cC xs=true
 el:∀ds,mK S ρ es=some ds->mf G A xs env own O ρ ds
 bo:∀o d,Cz S ρ o es=some d->ua G A o xs env own O ρ d
 al:∀o b,ie S ρ o es=some b->oT G A env own O ρ o xs b
def bn (G:GC)(A:Around)(S:cU)(e:E):Prop:=∀{c:Cx}{x:Expr}{env:Env}{own:dM}{O:a9}{ρ:aF},bV G A S c env own->a7 c e x=true->wk G A S e x env own O ρ
def dy (G:GC)(A:Around)(S:cU)(es:Es):Prop:=∀{c:Cx}{xs:dN}{env:Env}{own:dM}{O:a9}{ρ:aF},bV G A S c env own->eP c es xs=true->N2 G A S es xs env own O ρ
theorem dy.ns (k:dy G A S es)(X:bV G A S c env own)(h:eP c es xs=true):cC xs=true:=(k (O:=[]) (ρ:=[]) X h).ns
def qG (G:GC)(A:Around)(S:cU)(os:Os):Prop:=∀{c:Cx}{x:Option Expr}{env:Env}{own:dM}{O:a9}{ρ:aF},bV G A S c env own->FM c os x=true->∀od,CH S ρ os=some od->mh G A x env own O ρ od
def fP (G:GC)(A:Around)(S:cU)(src:By):Prop:=∀{c:Cx}{iter tg:Expr}{env:Env}{own:dM}{O:a9}{ρ:aF},bV G A S c env own->wB c src iter=true->Eu src tg=true->∀ds,dk S ρ src=some ds->kT G A (dC src) iter env own O ρ tg ds true/\jo iter=true
def j3 (G:GC)(A:Around)(S:cU)(r:Gs):Prop:=∀{ci:Cx}{env:Env}{own:dM}{O WC:a9}{Dd:Addr}{kd:CK}{gens suf:List Comprehension}{scope:Scope}{pos:Pos}{k:Nat}{eltf:aF->Option D},bV G A S ci env own->j5 ci ci scope.names false r suf=true->gens.drop (k+1)=suf ->
  hV G env own O WC Dd->env.locals∈WC->(∀x c,(x,NameKind.cell)∈scope.names->env.cells.lookup x=some c->c∈WC)->(∀x,scope.names.lookup x=some .local->env.kindOf x=some .local) ->
  (∀j ρ d,gens[j+1]?=none->eltf ρ=some d->eN G A kd gens scope pos j env own O WC Dd ρ [d])->∀ρ out,(∀n∈j1 r,ρ.get n=none)->(j1 r).Nodup->le S ρ ρ eltf r=some out->eN G A kd gens scope pos k env own O WC Dd ρ out
set_option tactic.hygienic true in
theorem Ak (h:yE k d=true):bq G A (.Constant k n pos) env own O ρ d:=by
 rcases k with⟨⟩|⟨⟩
 case none =>
  rcases d with⟨⟩|⟨⟩
  case none=>exact BN
  all_goals exact absurd h g6
 case bool a =>
  rcases d with⟨⟩|⟨⟩
  case bool b=>rw[eM (show(a==b)=true from h)];exact BJ
  all_goals exact absurd h g6
 case int a =>
  rcases d with⟨⟩|⟨⟩
  case int b=>rw[eM (show(a==b)=true from h)];exact sk
  all_goals exact absurd h g6
 case str a =>
  rcases d with⟨⟩|⟨⟩
  case str b =>
   obtain⟨h1,h2⟩:=cE (show(a==b&&sok (.str a))=true from h);have:=eM h1;subst this;exact FB h2
  all_goals exact absurd h g6
 all_goals exact absurd h g6
end
end
section
section
variable {G:GC}{A:Around}{S:cU}
theorem CT 
  (X:bV G A S ci env own)(hg:gens[k]?=some ⟨target,iter,ifs',0⟩)(hg':∀g',gens[k+1]?=some g'->g'.is_async=0)(ht:tO ci tg target=true)(hto:tO { ci with sc:=scope.names } tg target=true)
  (hl:env.locals∈WC)(hw:∀x c,(x,NameKind.cell)∈scope.names->env.cells.lookup x=some c->c∈WC)(hkn:∀x,scope.names.lookup x=some .local->env.kindOf x=some .local)
  (hno:∀n∈tg++j1 r,ρ.get n=none)(hnd:(tg++j1 r).Nodup)
  (htests:∀ρ' b,ie S ρ' .And ifs=some b->oT G A env own O ρ' .And ifs' b)
  (hinner:∀ρ' out,(∀n∈j1 r,ρ'.get n=none)->le S ρ' ρ' eltf r=some out->eN G A kd gens scope pos k env own O WC Dd ρ' out) :
  ub G A env own O WC Dd kd gens scope pos k target iter ifs' tg ρ (fun it=>(bx ρ tg it).bind fun ρ'=>(ie S ρ' .And ifs).bind fun b=>bif b then le S ρ' ρ' eltf r else some []) ds:=by
 refine⟨hg,hg',X.target ht,fun n m=>hno n (ij _ m),⟨hl,fun n m x c h1 h2 h3=>?_⟩,fun x ρ' a hx hb hf=>?_,fun x hx hs=>?_⟩
 .obtain⟨y,e1,e2⟩:=Bu hto n m;obtain rfl:y=x:=aG (e1.symm.trans (X.nm▸h1));rcases e2 with e2|e2
  .exact nomatch (hkn _ e2).symm.trans h2
  .exact hw _ _ (mem_of_lookup e2) h3
 .rw[hb]at hf;refine aq (o:=ie S ρ' .And ifs) hf fun b ha hf=>FK (htests ρ' b ha) (fun e=>?_) (fun e=>?_)
  .subst e;exact hinner ρ' a (fun n m=>(qM hb n (fun q=>(List.nodup_append.mp hnd).2.2 n q n m rfl)).trans (hno n (hJ _ m))) hf
  .subst e;exact(aG hf).symm
 .obtain⟨a,e⟩:=Option.isSome_iff_exists.mp hs;exact aq e fun ρ' e _=>⟨ρ',e⟩
theorem jl:∀{ds out:List D},(∀x a,f x=some a->a.length<=1)->ef f ds=some out->out.length<=ds.length
 |[],out,h,e=>aG e▸fc _
 |x::xs,out,h,e=>by obtain⟨a,b,h1,h2,rfl⟩:=nl e;rw[dR,sW,Nat.add_comm];exact qx (jl h h2) (h x a h1)
theorem xG (hs:Ej (.c tg src ifs r)=true)(hx:((bx ρ tg x).bind fun ρ'=>(ie S ρ' .And ifs).bind fun b=>bif b then le S ρ' ρ' eltf r else some [])=some a):a.length<=1:=by
 rcases r with⟨⟩|⟨⟩
 .exact aq hx fun ρ' _ hx=>oV hx (fun _ h=>ky (P:=fun a=>a.length<=1) h fun d _=>fc _) fun _ h=>aG h▸gL _
 .exact Gk hs
theorem u6 (h:j5 c ci orig top r gens=true):∀g',gens[0]?=some g'->g'.is_async=0:=by
 rcases r with⟨⟩|⟨tg,src,ifs,r⟩
 .exact aI (P:=fun gens=>∀g',gens[0]?=some g'->g'.is_async=0) h fun _ g' e=>nomatch e
 .exact ay (P:=fun gens=>∀g',gens[0]?=some g'->g'.is_async=0) h fun g gens h g' e=>aG e▸yl h fun h _ _ _ _ _ _ _=>bJ h
theorem AX:∀{ρ:aF}(h:(ρ.all fun p=>dF p.2)=true)(n:Nat) (d:D)(e:ρ.get n=some d),dF d=true
 |[],_,_,_,e=>nomatch e
 |p::r,h,n,d,e=>by
  obtain⟨h1,h2⟩:=cE (show(dF p.2&&r.all fun p=>dF p.2)=true from h);rw[aF.get_cons]at e;by_cases c:n=p.1
  .rw[if_pos c]at e;exact aG e▸h1
  .rw[if_neg c]at e;exact AX h2 n d e
theorem Hv (e:dk S ρ src=some ds)(hz:dC src=true):∀n d,ρ.get n=some d->dF d=true:=by
 rcases src with _|_|_|_|es|_
 all_goals exact Gk hz
theorem o6 {ifs:Es}{r:Gs}{gens:List Comprehension}{scope:Scope}{pos pos':Pos}{out:List D}{s:Shared}{use:Option (Value->Sem Unit)}{Q E:ba}
  (helt:∀{cenv:Env}{O' WC:a9}{Dd:Addr},bV G A S { c with sc:=hG scope.names c.sc } cenv own->hV G cenv own O' WC Dd->∀j ρ d,gens[j+1]?=none->eltf ρ=some d->eN G A kd gens scope pos j cenv own O' WC Dd ρ [d])
  (hsrc:fP G A S src)(hifs:dy G A S ifs)(hr:j3 G A S r)
  (X:bV G A S c env own)(hk:decide (scope.kind=.function)=true)(hsc:d9 c.nm c.sc scope.names (tg++j1 r)=true)(hnd:decide ((tg++j1 r).Nodup)=true) (h:j5 c { c with sc:=hG scope.names c.sc } scope.names true (.c tg src ifs r) gens=true)
  (hout:le S ρ (ρ.del (tg++j1 r)) eltf (.c tg src ifs r)=some out) (hlen':∀ds,dk S ρ src=some ds->ds.length<=16777216->out.length<=pJ kd)(hzo:dC src=true->cD out=true)(I:cV G A env own O ρ s)
  (fin:∀C D s',out.length<=pJ kd->Ext G s s'->C≠D->s.heap.get? C=none->s.heap.get? D=none->G.h₀.get? C=none->G.h₀.get? D=none->(∃m,s'.heap.Ns C m)->bz G kd (C::D::O) s'.heap D out ->
   cV G A env own (C::D::O) ρ s'->compPost (bC G) A E use Q (.ref D) C (.ok .next) s') :
  wpAny (bC G) A (comprehension (kd.expr gens scope pos) scope env pos' kd.new (firstAsync gens) (firstIter gens env) use) Q E s:=by
 revert helt;refine ay h fun g gens h=>yl h fun ha h1 h2 h3 _ h4 h5 h6 helt=>?_;obtain⟨target,iter,ifs',as⟩:=g;obtain rfl:as=0:=bJ ha;refine aq hout fun ds hds hout=>?_;have hs:=hsrc (tg:=target) (O:=O) (ρ:=ρ) X h4 h3 ds hds;have hso:d9 G.names env.scope.names scope.names (tg++j1 r)=true:=by rw[<- X.nm,X.sc];exact hsc
 refine FR (strict:=true) (tg:=tg) I hs.1 hs.2 (bJ hk) hso (fun cenv O' D hce acc=>?_) (fun q=>⟨Hv hds q,lD (hzo q)⟩) hout (hlen' ds hds) fin;have Xi:bV G A S { c with sc:=hG scope.names c.sc } cenv own:=⟨X.nm,by rw[hce,fE X.fn,X.sc],X.ow,by rw[hce];exact bJ hk,X.F,X.gl,X.hh,X.hu⟩;have hl:cenv.locals∈Bw scope cenv:=dX;have hw:∀x c,(x,NameKind.cell)∈scope.names->cenv.cells.lookup x=some c->c∈Bw scope cenv:=fun x c m e=>eh _ (List.mem_filterMap.mpr ⟨(x, .cell),m,(if_pos rfl).trans e⟩);have hkn:∀x,scope.names.lookup x=some .local->cenv.kindOf x=some .local:=fun x e=>by show cenv.scope.names.lookup x=_;rw[hce,fE X.fn,gV,e];rfl
 have hno:∀n∈tg++j1 r,(ρ.del (tg++j1 r)).get n=none:=fun n m=>by rw[aF.get_del,if_pos (List.contains_iff_mem.mpr m)]
 exact CT Xi rfl (u6 h6) h1 h2 hl hw hkn hno (bJ hnd) (fun ρ' b hb=>(hifs Xi h5).al .And b hb) (fun ρ' out' hno' he'=>hr Xi h6 rfl acc hl hw hkn (helt Xi acc) ρ' out' hno' (List.nodup_append.mp (bJ hnd)).2.1 he')
theorem qO {r:Gs}{e:Expr}{gens:List Comprehension}{scope:Scope}{pos pos':Pos}{d:D}{s:Shared}{use:Option (Value->Sem Unit)}{Q E:ba}
  (helt:bn G A S elt)(hsrc:fP G A S src)(hifs:dy G A S ifs)(hr:j3 G A S r)
  (X:bV G A S c env own)(h:a7 c (.p elt (.c tg src ifs r)) (.ListComp e gens scope pos)=true) (he:ev S ρ (.p elt (.c tg src ifs r))=some d) (I:cV G A env own O ρ s)
  (fin:∀C D s' out,d=.list out->out.length<=16777216->Ext G s s'->C≠D->s.heap.get? C=none->s.heap.get? D=none->G.h₀.get? C=none->G.h₀.get? D=none->(∃m,s'.heap.Ns C m)->bz G (.list e) (C::D::O) s'.heap D out ->
   cV G A env own (C::D::O) ρ s'->compPost (bC G) A E use Q (.ref D) C (.ok .next) s') :
  wpAny (bC G) A (comprehension (.ListComp e gens scope pos) scope env pos' (newList []) (firstAsync gens) (firstIter gens env) use) Q E s:=by
 have h:(decide (scope.kind=.function)&&!gens.isEmpty&&d9 c.nm c.sc scope.names (tg++j1 r)&&decide ((tg++j1 r).Nodup)&&a7 { c with sc:=hG scope.names c.sc } elt e&&j5 c { c with sc:=hG scope.names c.sc } scope.names true (.c tg src ifs r) gens)=true:=h;refine hZ h fun hk _ hsc hnd hel h=>?_;refine aq he fun out hout e'=>?_;obtain⟨hle,ed⟩:=ax e';obtain⟨hlen,hzt⟩:=cE hle;exact o6 (kd:=.list e) (fun Xi acc j ρ d hg e=>Az acc hg ((helt Xi hel).e d e)) hsrc hifs hr X hk hsc hnd h hout
  (fun ds hds hd=>(Bool.or_eq_true_iff.mp hlen).elim (fun hl=>aJ (jl (fun x a hx=>xG hl hx) (aq hout fun ds' e1 e2=>aG (hds.symm.trans e1)▸e2)) hd) bJ)
  (fun q=>(Bool.or_eq_true_iff.mp hzt).resolve_left fun q'=>by rw[show C3 (.c tg src ifs r)=true from q]at q';exact ff q') I fun C D s' hl h0 h1 h2 h3 h4 h5 h6 h7 h8=>fin C D s' out ed.symm hl h0 h1 h2 h3 h4 h5 h6 h7 h8
section arms
variable {a b d e e2:E}{c:Cx}{x:Expr}{xs args r:Es}{n f:Nat}
theorem LE {d:D}:bn G A S (.l d):=fun X h =>
 cz h fun k n p h=>.plain rfl (fun d' e=>aG e▸Ak h) rfl
theorem LO:bn G A S (.v n):=fun X h=>by refine aA h fun y p h=>qH h fun h1 h2=>?_;have N:=X.name h1;obtain⟨k,hk,hkk⟩:=N.kd;exact .plain rfl (fun d e=>FH N.nm hk hkk N.h1 N.h2 (X.nown h2) e) rfl
theorem Jy:bn G A S (.g n):=fun X h =>
 aA h fun y p h=>qH h fun h1 h2=>.plain rfl (fun d e s I Q E q =>
  let⟨v,e1,e2⟩:=X.gl n _ d (X.nmOf h2) e
  jM I (X.glob h1).1 (X.glob h1).2 e1 (q v s (.refl I.base I.pos) (e2 _ _))) rfl
theorem Lw (ha:bn G A S a)(hb:bn G A S b):bn G A S (.b o a b):=fun X h=>by refine iI h fun l o' r p h=>gP h fun q0 h1 h2=>?_;obtain rfl:=bJ q0;exact .plain rfl (fun d e=>fH e fun y z g1 g2 e=>Fw ((ha X h1).e _ g1) ((hb X h2).e _ g2) e) rfl
theorem LF (ha:bn G A S a):bn G A S (.n a):=fun X h =>
 kD h fun y p h=>.none (fun d e=>y5 e fun i g e=>aG e▸yn ((ha X h).e _ g)) rfl
theorem Lz (ha:bn G A S a):bn G A S (.w a):=fun X h =>
 kD h fun y p h=>.none (fun d e=>y5 e fun i g e=>aG e▸Fz ((ha X h).e _ g)) rfl
theorem Ly (ha:bn G A S a)(hb:bn G A S b):bn G A S (.q o a b):=fun X h=>by refine nA h fun l o' r p h=>gt h fun q0 h0 h1 h2=>?_;obtain rfl:=bJ q0;exact⟨fun d e=>fH e fun y z g1 g2 e=>Fy X.hu (im h0) ((ha X h1).e _ g1) ((hb X h2).e _ g2) e,fun t e=>aq e fun d e e'=>fH e fun y z g1 g2 e=>JZ X.hu (im h0) ((ha X h1).e _ g1) ((hb X h2).e _ g2) e e'⟩
theorem Nt (ha:bn G A S a):bn G A S (.z a):=fun X h =>
 kD h fun y p h=>⟨fun d e=>aq e fun x g e=>ky e fun b e1=>Io ((ha X h).e _ g) e1,fun t e=>ky e fun b e1=>J0 ((ha X h).t _ e1)⟩
theorem Lx (hx:dy G A S xs):bn G A S (.o o xs):=fun X h=>by refine qy h fun o' ys p h=>qH h fun q0 h1=>?_;obtain rfl:=bJ q0;exact⟨fun d e=>Fx ((hx X h1).bo o d e),fun t e=>JY ((hx X h1).al o t e)⟩
theorem LC (ha:bn G A S a)(hb:bn G A S b)(hd:bn G A S d):bn G A S (.e a b d):=fun X h =>
 lG h fun t y z p h=>gP h fun h1 h2 h3 =>
  ⟨fun d' e=>oV e (fun g e=>ym ((ha X h1).t _ g) (fun _=>(hb X h2).e _ e) MT) (fun g e=>ym ((ha X h1).t _ g) Gk fun _=>(hd X h3).e _ e),
  fun d' e=>oV e (fun g e=>EN ((ha X h1).t _ g) (fun _=>(hb X h2).t _ e) MT) (fun g e=>EN ((ha X h1).t _ g) Gk fun _=>(hd X h3).t _ e)⟩
theorem Jz (hx:dy G A S xs):bn G A S (.i xs):=fun X h =>
 nB h fun es p h=>.none (fun d e=>aq e fun ds g e=>eg e fun hl=>BM ((hx X h).el _ g) hl) rfl
theorem LN (hx:dy G A S xs):bn G A S (.t xs):=fun X h =>
 dK h fun es k p h=>.none (fun d e=>aq e fun ds g e=>eg e fun hl=>FG ((hx X h).el _ g) hl) rfl
theorem Jw:bn G A S (.d kvs):=fun X h=>by
 refine vC h fun ks vs p h=>gP h fun h1 h2 h3=>.none (fun d e=>?_) rfl;obtain⟨a1,a2⟩:=pF h2;obtain⟨b1,b2⟩:=qm h3;have key:∀(f:Str × Str->Str)(i:Nat) p,kvs[i]?=some p->(kvs.map f)[i]?=some (f p):=fun f i p e=>by rw[List.getElem?_map,e];rfl
 exact aG e▸BL ⟨a1.trans (dx ..),b1.trans (dx ..),fun i p e=>⟨a2 i p.1 (key _ i p e),b2 i p.2 (key _ i p e)⟩⟩ h1
theorem GX:bn G A S (.p e .n):=fun X h =>
 d7 h fun e gens scope p h=>hZ h fun _ h1 _ _ _ h2=>aI (P:=fun gens=>(!gens.isEmpty)=true->wk ..) h2 (fun _ h1=>Gk h1) h1
theorem Jv {ifs:Es}{r:Gs}(helt:bn G A S e)(hsrc:fP G A S src)(hifs:dy G A S ifs)(hr:j3 G A S r):bn G A S (.p e (.c tg src ifs r)):=fun X h =>
 have key:∀{x},iJ x (fun _ _ _ _=>true)=true->_:=fun{x} h=>h
 d7 (P:=fun x=>a7 _ (.p e (.c tg src ifs r)) x=true->wk G A S (.p e (.c tg src ifs r)) x _ _ _ _) h (fun e gens scope p _ h=>.none (fun d g s I Q E q=>by rw[eval_ListComp];exact qO (use:=none) helt hsrc hifs hr X h g I fun C D s' out e hl xs h1 h2 h3 h4 h5 h6 ac _=>o7 xs h1 h2 h4 h6 ac fun s' x ac=>q _ s' x (e▸CM h3 I.ov hl ac)) rfl) h
theorem Ec:bn G A S (.dcomp k v .n):=fun X h =>
 iY h fun ke ve gens scope p h=>.none (fun d e=>aq e fun out _ e=>(by rw[show Lr .n=false from rfl,Bool.and_false]at e;exact nn e)) rfl
theorem GY {src:By}{ifs:Es}{r:Gs}(hk:bn G A S k)(hv:bn G A S v)(hsrc:fP G A S src)(hifs:dy G A S ifs)(hr:j3 G A S r):bn G A S (.dcomp k v (.c tg src ifs r)):=fun X h=>by
 refine iY h fun ke ve gens scope p h=>BH h fun h1 _ h3 h4 h5 h6 h7=>.none (fun d g s I Q E q=>?_) rfl;rw[arm_eval_DictComp];refine aq g fun out hout e'=>?_;obtain⟨hle,rfl⟩:=ax e';obtain⟨hl,ho⟩:=cE hle;exact o6 (kd:=.dict ke ve) (use:=none) (fun Xi acc j ρ d hg e=>jV e fun x g1 e=>jV e fun y g2 e=>eg (P:=fun d=>eN _ _ _ _ _ _ _ _ _ _ _ _ _ [d]) e fun _=>w0 acc hg ((hk Xi h5).e _ g1) ((hv Xi h6).e _ g2)) hsrc hifs hr X h1 h3 h4 h7 hout
  (fun _ _ _=>bJ hl) (fun z=>Bool.noConfusion z) I
  fun C D s' hl h0 h1 h2 h3 h4 h5 h6 ac _=>o7 h0 h1 h2 h4 h6 ac fun s' x ac=>q _ s' x (CL h3 I.ov ac)
theorem JG:bn G A S (.ssc e .n):=fun X h =>
 aR h fun y np es p h=>aP h fun z h=>gE h fun ke gens scope sp h=>.none (fun d e=>aq e fun out _ e=>(by rw[show Jk .n=false from rfl,Bool.false_and,Bool.and_false]at e;exact nn e)) rfl
theorem vP {r:Gs}{ke:Expr}{gens:List Comprehension}{scope:Scope}{pos:Pos}{out:List D}{s:Shared}{Q E:ba}(hk:bn G A S e)(hsrc:fP G A S src)(hifs:dy G A S ifs)(hr:j3 G A S r)
  (X:bV G A S c env own)(h2:decide (scope.kind=.function)=true)(h3:d9 c.nm c.sc scope.names (tg++j1 r)=true)(h4:decide ((tg++j1 r).Nodup)=true) (h5:a7 { c with sc:=hG scope.names c.sc } e ke=true)(h6:j5 c { c with sc:=hG scope.names c.sc } scope.names true (.c tg src ifs r) gens=true)
  (hout:le S ρ (ρ.del (tg++j1 r)) (fun ρ'=>jA (ev S ρ' e) fun a=>some (.str a)) (.c tg src ifs r)=some out) (hl:out.length<=1000)(hz:Jk (.c tg src ifs r)=true)(I:cV G A env own O ρ s)
  (q:∀D s',Ext G s s'->s.heap.get? D=none->bz G (.set ke) (D::O) s'.heap D out->Q (.ref D) s'):wpAny (bC G) A (eval (.SetComp ke gens scope pos) env) Q E s:=by
 rw[arm_eval_SetComp];exact o6 (kd:=.set ke) (use:=none) (fun Xi acc j ρ d hg e=>jV e fun x g1 e=>aG e▸AA acc hg ((hk Xi h5).e _ g1)) hsrc hifs hr X h2 h3 h4 h6 hout
  (fun _ _ _=>hl) (fun z=>by rw[show Jk (.c tg src ifs r)=!dC src from rfl,z]at hz;exact ff hz) I
  fun C D s' hl h0 h1 h2 h3 h4 h5 h6 ac _=>o7 h0 h1 h2 h4 h6 ac fun s' x ac=>q D s' x h3 ac
theorem LL {ifs:Es}{r:Gs}(hk:bn G A S e)(hsrc:fP G A S src)(hifs:dy G A S ifs)(hr:j3 G A S r):bn G A S (.ssc e (.c tg src ifs r)):=fun X h=>by refine aR h fun y np es p h=>aP h fun z h=>gE h fun ke gens scope sp h=>BH h fun q0 h1 h2 h3 h4 h5 h6=>.none (fun d g s I Q E q=>?_) rfl;obtain rfl:=bJ q0;refine aq g fun out hout e'=>?_;obtain⟨hle,rfl⟩:=ax e';obtain⟨hl,ho⟩:=cE hle;obtain⟨hz,hs⟩:=cE ho;have hm:("sorted" : Str)∈bZ:=Bf.sorted.mem;refine wpAny_Call_Name_kw (dD I (X.isG h1) (g8 hm) (I.ok.nb _ hm) Bf.sorted.boot (g9 hm) ?_);refine Calls.callWith_builtin (di (xs:=[.SetComp ke gens scope sp]) rfl p _) (bl rfl ?_);show wpAny _ _ (spliced [(false,eval (.SetComp ke gens scope sp) _)]) _ _ _;exact spliced_cons (vP hk hsrc hifs hr X h2 h3 h4 h5 h6 hout (bJ hl) hz I fun D s' x _ ac=>spliced_nil (xJ X.hh I.ov x ac (bJ hs) q))
theorem JB (ha:bn G A S a):bn G A S (.ocmp o a n):=fun X h=>by
 refine nA h fun l o' r p h=>aA h fun y yp h=>gt h fun q0 h1 h2 h3=>?_;obtain rfl:=bJ q0;have hb:behindInMarks o (.Name y yp)=false:=rfl;exact⟨fun d e s I Q E q=>aq e fun x g1 e=>cZ e fun xs g2 e=>aq e fun d' g3 e=>eg (P:=fun d=>(∀v s',Ext G s s'->az G.w _ s'.heap v d->Q v s')->_) e (fun hs q=>wpAny_Compare1 ((ha X h3).e _ g1 s I _ _ fun v s1 x1 r1=>zv X.hu (X.name h1) (X.own' h2) g2 (I.ext x1) r1 g3 hs fun z s3 x3 r3=>q z s3 (x1.trans x3) r3) hb) q,
  fun t e s I Q E q=>aq e fun d e e'=>aq e fun x g1 e=>cZ e fun xs g2 e=>aq e fun d' g3 e=>eg (P:=fun d=>dq d=some t->_) e (fun hs e'=>wpAny_isTrue_Compare1 ((ha X h3).e _ g1 s I _ _ fun v s1 x1 r1=>zv X.hu (X.name h1) (X.own' h2) g2 (I.ext x1) r1 g3 hs fun z s3 x3 r3=>e7 x3.base x3.pos r3 e' _ _ fun s4 x4=>q s4 ((x1.trans x3).trans x4)) hb) e'⟩
theorem JF:bn G A S (.slen n):=fun X h=>by refine aR h fun f np es p h=>aP h fun z h=>aA h fun y yp h=>gt h fun q0 h1 h2 h3=>?_;obtain rfl:=bJ q0;exact .none (fun d e=>tP e fun xs g e=>aG e▸BR (X.name h2) (X.own' h3) g (X.isG h1)) rfl
theorem G1:bn G A S (.ssort n):=fun X h=>by refine aR h fun f np es p h=>aP h fun z h=>aA h fun y yp h=>gt h fun q0 h1 h2 h3=>?_;obtain rfl:=bJ q0;exact .none (fun d e=>tP e fun xs g e=>aq e fun ts g2 e=>aG e▸Aa X.hh (X.name h2) (X.own' h3) g g2 (X.isG h1)) rfl
theorem Ju (hx:dy G A S args):bn G A S (.c f args):=fun X h =>
 aR h fun y np es p h=>gP h fun h1 h2 h3=>.plain rfl (fun d e=>aq e fun ds g e=>BK X.F (X.nmOf h2) (X.glob h1).1 (X.glob h1).2 (hx.ns X h3) ((hx X h3).el _ g) e) rfl
theorem Np {f:Bf}(hx:dy G A S args):bn G A S (.f f args):=fun X h=>by refine aR h fun y np es p h=>gP h fun q0 h2 h3=>?_;obtain rfl:=bJ q0;exact .plain rfl (fun d e=>aq e fun ds g e=>Il X.hh (X.isG h2) (hx.ns X h3) ((hx X h3).el _ g) e) rfl
theorem Nq (ho:bn G A S o)(hx:dy G A S args):bn G A S (.m m o args):=fun X h=>by refine fW h fun ob y ap es p h=>hZ h fun q0 h1 h2 h3 h4 h5=>?_;obtain rfl:=bJ q0;exact .plain rfl (fun d e=>fH e fun y ds g1 g2 e=>Im X.hu h1 (hx.ns X h5) (bJ h3) h2 ((ho X h4).e _ g1) ((hx X h5).el _ g2) e) rfl
theorem JE (ha:bn G A S a):bn G A S (.r a y z):=fun X h=>by refine fW h fun ob n ap es p h=>ay h fun e1 r h=>nE h fun y' _ _ h=>aP h fun e2 h=>nE h fun z' _ _ h=>BH h fun q0 q1 q2 h1 h2 h3 h4=>?_;obtain rfl:=bJ q0;obtain rfl:=bJ q1;obtain rfl:=bJ q2;exact .none (fun d e=>jV e fun x g e=>eg e fun g'=>BQ h2 h3 (im h1) ((ha X h4).e _ g) (bJ (ai g').1) (ai g').2) rfl
theorem LA (ha:bn G A S a):bn G A S (.isb a):=fun X h=>by
 refine aR h fun f np es p h=>ay h fun y r h=>aP h fun z h=>aA h fun t tp h=>hZ h fun q0 q1 h1 h2 h3 h4=>?_;obtain rfl:=bJ q0;obtain rfl:=bJ q1;refine .plain rfl (fun d e=>aq e fun v g e=>?_) rfl;rcases v with⟨⟩|⟨⟩
 case bool=>exact aG e▸nV (X.isG h1) (X.isG h2) h3 ((ha X h4).e _ g) (.inl ⟨rfl, .inl ⟨_,rfl,rfl⟩⟩)
 case int=>exact aG e▸nV (X.isG h1) (X.isG h2) h3 ((ha X h4).e _ g) (.inl ⟨rfl, .inr ⟨_,rfl,rfl⟩⟩)
 all_goals exact nn e
theorem LB (ha:bn G A S a):bn G A S (.isi a):=fun X h=>by
 refine aR h fun f np es p h=>ay h fun y r h=>aP h fun z h=>aA h fun t tp h=>hZ h fun q0 q1 h1 h2 h3 h4=>?_;obtain rfl:=bJ q0;obtain rfl:=bJ q1;refine .plain rfl (fun d e=>aq e fun v g e=>?_) rfl;rcases v with⟨⟩|⟨⟩
 case bool=>exact aG e▸nV (X.isG h1) (X.isG h2) h3 ((ha X h4).e _ g) (.inr ⟨rfl,rfl, .inl ⟨_,rfl⟩⟩)
 case int=>exact aG e▸nV (X.isG h1) (X.isG h2) h3 ((ha X h4).e _ g) (.inr ⟨rfl,rfl, .inr ⟨_,rfl⟩⟩)
 all_goals exact nn e
theorem LM (ha:bn G A S a)(hb:bn G A S b):bn G A S (.s a b):=fun X h =>
 cQ h fun v s p h=>gP h fun h1 h2 h3=>.plain rfl (fun d e=>fH e fun y z g1 g2 e=>FE h1 ((ha X h2).e _ g1) ((hb X h3).e _ g2) e) rfl
theorem LK {lo hi st:Os}(ha:bn G A S a)(hlo:qG G A S lo)(hhi:qG G A S hi)(hst:qG G A S st):bn G A S (.a a lo hi st):=fun X h =>
 cQ h fun v z p h=>ty h fun l hh t w h=>gt h fun h1 h2 h3 h4 =>
  .none (fun d e=>fH (f:=fun x l=>(CH S _ hi).bind fun h=>(CH S _ st).bind fun t=>fS x l h t) e fun y l g1 g2 e=>fH e fun hh t g3 g4 e=>FA ((ha X h1).e _ g1) (hlo X h2 _ g2) (hhi X h3 _ g3) (hst X h4 _ g4) e) rfl
theorem JD:bn G A S (.olen n):=fun X h=>by refine aR h fun f np es p h=>aP h fun z h=>aA h fun y yp h=>gt h fun q0 h1 h2 h3=>?_;obtain rfl:=bJ q0;exact .none (fun d e=>cZ e fun xs g e=>aG e▸BP (X.name h2) (X.own' h3) g (X.isG h1)) rfl
theorem JC (ha:bn G A S a):bn G A S (.oget n a):=fun X h =>
 cQ h fun z s p h=>aA h fun y yp h=>gt h fun h1 h2 h3 h4 =>
  .none (fun d e=>cZ e fun xs g e=>aq e fun y g2 e=>BO h1 (X.name h2) (X.own' h3) g ((ha X h4).e _ g2) e) rfl
theorem GZ (hx:dy G A S args):bn G A S (.ocall f n args):=fun X h =>
 aR h fun g np es p h=>ay h fun z es h=>aA h fun y yp h=>nf h fun h0 h1 h2 h3 h4 =>
  .none (fun d e=>cZ e fun xs g e=>aq e fun ds g2 e=>aq e fun d' g3 e=>eg e fun hs=>z9 X.F (X.nmOf h1) (X.glob h0).1 (X.glob h0).2 (hx.ns X h4) (X.name h2) (X.own' h3) g ((hx X h4).el _ g2) g3 hs) rfl
theorem LG:dy G A S .n:=fun X h =>
 aI h fun _=>⟨rfl,fun ds e=>aG e▸yo,fun o d e=>Bz e,fun o b e=>(aG e).symm⟩
theorem zn {xs:dN}(h:aY x=true)(h':cC xs=true):cC (x::xs)=true:=jX ⟨h,h'⟩
theorem mU {c:Bool}{x r:β}{y:Option β}(h:(if c then some x else y)=some r):(c=true->x=r)/\(c=false->y=some r):=by
 cases c
 .exact⟨Gk,fun _=>h⟩
 .exact⟨fun _=>aG h,MT⟩
theorem LH (he:bn G A S e):dy G A S (.c e .n):=fun X h =>
 ay h fun x xs h=>gP h fun h1 h2 h3=>aI h3 fun _ =>
  ⟨zn h1 rfl,fun ds g=>aq g fun d' hd g=>aG g▸uj ((he X h2).e _ hd) yo (cb h1 []),fun o d g=>FL ((he X h2).e d g),
  fun o t g=>aq g fun c' hc g=>⟨c',(he X h2).t _ hc,fun q=>((mU g).1 q).symm,fun q=>(aG ((mU g).2 q)).symm⟩⟩
theorem JA (he:bn G A S e)(hr:dy G A S (.c e2 r)):dy G A S (.c e (.c e2 r)):=fun X h=>by
 refine ay h fun x xs h=>gP h fun h1 h2 h3=>?_;refine⟨zn h1 (hr.ns X h3),fun ds g=>fH g fun d' ds' hd hds g=>aG g▸uj ((he X h2).e _ hd) ((hr X h3).el _ hds) (cb h1 _),fun o d g=>aq g fun d' hd g=>aq g fun t ht g=>?_,fun o t g=>aq g fun c' hc g=>⟨c',(he X h2).t _ hc,fun q=>((mU g).1 q).symm,fun q=>(hr X h3).al o t ((mU g).2 q)⟩⟩;rcases xs with⟨⟩|⟨y,ys⟩
 .exact Gk h3
 .exact BZ ((he X h2).e _ hd) ht (fun q=>(mU g).1 q) fun q=>(hr X h3).bo o d ((mU g).2 q)
theorem Nr:qG G A S .n:=fun X h od e=>cW h fun _=>aG e▸A4
theorem LP (ha:bn G A S a):qG G A S (.y a):=fun X h od e=>eH h fun y h=>aq e fun d g e=>aG e▸A5 ((ha X h).e _ g)
theorem Nu (ha:bn G A S a):fP G A S (.e a):=fun{c iter} _ _ _ _ _ X h ht ds e =>
 qH (a:=jo iter) (b:=a7 c a iter) h fun h1 h2=>aq e fun d e1 e2=>⟨LQ ((ha X h2).e _ e1) e2 ht,h1⟩
theorem G0 (hx:dy G A S args):fP G A S (.r args):=fun X h ht ds e=>by refine aR h fun y np es p h=>gP h fun q0 h1 h2=>?_;obtain rfl:=bJ q0;exact aq e fun es e1 e2=>⟨Bm (X.isG h1) (hx.ns X h2) ((hx X h2).el _ e1) e2 ht,rfl⟩
theorem Jx (ha:bn G A S a):fP G A S (.enum a):=fun X h ht ds e=>by refine aR h fun y np es p h=>aP h fun z h=>gt h fun q0 h1 h2 h3=>?_;obtain rfl:=bJ q0;exact cZ e fun xs g e=>aG e▸⟨Ev (X.isG h1) h2 ((ha X h3).e _ g) ht,rfl⟩
theorem LJ (ha:bn G A S a):fP G A S (.rev a):=fun X h ht ds e=>by refine aR h fun y np es p h=>aP h fun z h=>gt h fun q0 h1 h2 h3=>?_;obtain rfl:=bJ q0;exact cZ e fun xs g e=>aG e▸⟨G8 (X.isG h1) h2 ((ha X h3).e _ g) ht,rfl⟩
theorem KU:j3 G A S .n:=fun X h hd a hl hw hkn he ρ out hno hnd e=>by revert hd;refine aI h fun _ hd=>?_;exact ky (P:=fun out=>eN G A _ _ _ _ _ _ _ _ _ _ ρ out) e fun d e1=>he _ ρ d (Dm (List.drop_eq_nil_iff.mp hd)) e1
theorem IP {ifs:Es}{r:Gs}(hsrc:fP G A S src)(hifs:dy G A S ifs)(hr:j3 G A S r):j3 G A S (.c tg src ifs r):=fun{ci env own O WC Dd kd gens suf scope pos k eltf} X h hd a hl hw hkn he ρ out hno hnd e=>by revert hd;refine ay h fun g suf h=>yl h fun ha h1 h2 h3 h3' h4 h5 h6 hd=>?_;obtain⟨target,iter,ifs',as⟩:=g;obtain rfl:as=0:=bJ ha;refine aq e fun ds hds e=>?_;obtain⟨hs,hns⟩:=hsrc (tg:=target) (O:=O) X h4 h3 ds hds;have hz:dC src=false:=Bool.not_eq_true' _▸(show(!dC src)=true from h3');have hs:kT G A false iter env own O ρ target ds true:=hz▸hs;have hgk:=(List.getElem?_drop (i:=_+1) (j:=0)).symm.trans (congrArg (·[0]?) hd);have hd':=(List.drop_drop (i:=1)).symm.trans (congrArg (List.drop 1) hd);exact wZ a (CT X hgk (fun g' hg'=>u6 h6 g' (((congrArg (·[0]?) hd').symm.trans List.getElem?_drop).trans hg')) h1 h2 hl hw hkn hno hnd (fun ρ' b hb=>(hifs X h5).al .And b hb) (fun ρ' out' hno' he'=>hr X h6 hd' a hl hw hkn he ρ' out' hno' (List.nodup_append.mp hnd).2.1 he')) hs hns e
end arms
mutual
theorem aE:∀e:E,bn G A S e
 |.l _=>LE
 |.v _=>LO
 |.g _=>Jy
 |.b _ a b=>Lw (aE a) (aE b)
 |.n a=>LF (aE a)
 |.w a=>Lz (aE a)
 |.q _ a b=>Ly (aE a) (aE b)
 |.z a=>Nt (aE a)
 |.o _ xs=>Lx (a8 xs)
 |.e a b d=>LC (aE a) (aE b) (aE d)
 |.i xs=>Jz (a8 xs)
 |.t xs=>LN (a8 xs)
 |.d _=>Jw
 |.p _ .n=>GX
 |.p e (.c _ src ifs r)=>Jv (aE e) (eL src) (a8 ifs) (ii r)
 |.c _ args=>Ju (a8 args)
 |.f _ args=>Np (a8 args)
 |.m _ o args=>Nq (aE o) (a8 args)
 |.r a _ _=>JE (aE a)
 |.isb a=>LA (aE a)
 |.isi a=>LB (aE a)
 |.dcomp _ _ .n=>Ec
 |.dcomp k v (.c _ src ifs r)=>GY (aE k) (aE v) (eL src) (a8 ifs) (ii r)
 |.ssc _ .n=>JG
 |.ssc e (.c _ src ifs r)=>LL (aE e) (eL src) (a8 ifs) (ii r)
 |.ocmp _ a _=>JB (aE a)
 |.slen _=>JF
 |.ssort _=>G1
 |.s a b=>LM (aE a) (aE b)
 |.a a lo hi st=>LK (aE a) (pV lo) (pV hi) (pV st)
 |.olen _=>JD
 |.oget _ a=>JC (aE a)
 |.ocall _ _ args=>GZ (a8 args)
theorem a8:∀es:Es,dy G A S es
 |.n=>LG
 |.c e .n=>LH (aE e)
 |.c e (.c e2 r)=>JA (aE e) (a8 (.c e2 r))
theorem pV:∀os:Os,qG G A S os
 |.n=>Nr
 |.y a=>LP (aE a)
theorem eL:∀src:By,fP G A S src
 |.e a=>Nu (aE a)
 |.r args=>G0 (a8 args)
 |.enum a=>Jx (aE a)
 |.rev a=>LJ (aE a)
theorem ii:∀r:Gs,j3 G A S r
 |.n=>KU
 |.c _ src ifs r=>IP (eL src) (a8 ifs) (ii r)
end
end
end
section
section
variable {G:GC}{A:Around}{S:cU}
theorem uw {e:Expr}{gens:List Comprehension}{scope:Scope}{pos pos':Pos}{d:D}{s:Shared}{use:Option (Value->Sem Unit)}{Q E:ba}
  (X:bV G A S c env own)(h:a7 c (.p elt gs) (.ListComp e gens scope pos)=true)(he:ev S ρ (.p elt gs)=some d)(I:cV G A env own O ρ s)
  (fin:∀C D s' (vs:Array Value) out,d=.list out->out.length<=16777216->Ext G s s'->C≠D->s.heap.get? C=none->s.heap.get? D=none->G.h₀.get? C=none->G.h₀.get? D=none->(∃m,s'.heap.Ns C m)->s'.heap.PlainList D vs->ak G.w (C::D::O) s'.heap vs.toList out ->
   cV G A env own (C::D::O) ρ s'->compPost (bC G) A E use Q (.ref D) C (.ok .next) s') :
  wpAny (bC G) A (comprehension (.ListComp e gens scope pos) scope env pos' (newList []) (firstAsync gens) (firstIter gens env) use) Q E s:=by
 rcases gs with⟨⟩|⟨tg,src,ifs,r⟩
 .refine hZ (show(decide (scope.kind=.function)&&!gens.isEmpty&&d9 c.nm c.sc scope.names (j1 .n)&&decide ((j1 .n).Nodup)&&a7 { c with sc:=hG scope.names c.sc } elt e&&bK gens true)=true from h) fun _ h1 _ _ _ h2=>False.elim ?_;exact aI (P:=fun gens=>(!gens.isEmpty)=true->False) h2 (fun _ h1=>Gk h1) h1
 .exact qO (fun X h=>aE elt X h) (fun X h=>eL src X h) (fun X h=>a8 ifs X h) (fun{_ _ _ _ _ _ _ _ _ _ _ _ _}=>ii r) X h he I fun C D s' out e hl xs h1 h2 h3 h4 h5 h6 ac I'=>ac.elim fun vs k=>fin C D s' vs out e hl xs h1 h2 h3 h4 h5 h6 k.1 k.2 I'
structure Nk where
 l:aN
 p:Option (Nat × Addr)
def dM.is (own:dM)(k:Nk):Prop:=own.ns=k.l/\∀p,k.p=some p->own.at' p.1=some p.2
def Nk.free (k:Nk)(n:Nat):Prop:=∀p,k.p=some p->p.1≠n
structure FI (G:GC)(A:Around)(env:Env)(own:dM)(O Oc M:a9)(ρ:aF)(s:Shared):Prop where
 inv:cV G A env own O ρ s
 mO:∀a∈M,a∈O
 ml:env.locals∈M
 mc:∀x c,env.cells.lookup x=some c->c∈M
 mo:∀n a,own.at' n=some a->a∈M
 m0:∀a∈M,G.h₀.get? a=none
 mt:∀a∈M,∀o,s.heap.get? a=some o->HD o
 cO:∀a∈Oc,a∈O
 cM:∀a∈M,a∉Oc
 inj:∀n m a,own.at' n=some a->own.at' m=some a->n=m
structure bW (G:GC)(O M:a9)(s:Shared)(O' M':a9)(s':Shared):Prop where
 sx:bI G M s s'
 oO:∀a∈O,a∈O'
 mM:∀a∈M,a∈M'
 nM:∀a∈M',a∈M\/s.heap.get? a=none
 nO:∀a∈O',a∈O\/s.heap.get? a=none
theorem bW.refl (B:a5 G s.heap)(p:0<s.toks):bW G O M s O M s:=⟨.refl B p,fun _ m=>m,fun _ m=>m,fun _ m=>.inl m,fun _ m=>.inl m⟩
theorem bW.trans (hMO:∀a∈M,a∈O)(x:bW G O M s O' M' s')(y:bW G O' M' s' O'' M'' s''):bW G O M s O'' M'' s'':=by
 have back:∀a,a∉M->s'.heap.get? a=none->s.heap.get? a=none:=fun a m e=>x.sx.back a m e;refine⟨⟨?_,fun b o m e c=>?_,y.sx.base,y.sx.pos,fun b m e=>?_⟩,fun a m=>y.oO a (x.oO a m),fun a m=>y.mM a (x.mM a m),fun a m=>?_,fun a m=>?_⟩
 .exact kK x.sx.same y.sx.same
 .refine y.sx.keep b o (fun q=>?_) (x.sx.keep b o m e c) c;rcases x.nM b q with q|q
  .exact m q
  .rw[q]at e;exact nn e
 .by_cases q:b∈M'
  .rcases x.nM b q with q|q
   .exact absurd q m
   .exact q
  .exact x.sx.back b m (y.sx.back b q e)
 .rcases y.nM a m with q|q
  .exact x.nM a q
  .by_cases q':a∈M
   .exact .inl q'
   .exact .inr (x.sx.back a q' q)
 .rcases y.nO a m with q|q
  .exact x.nO a q
  .by_cases q':a∈M
   .exact .inl (hMO a q')
   .exact .inr (x.sx.back a q' q)
theorem Ext.step (x:Ext G s s'):bW G O M s O M s':=⟨x.sext,fun _ m=>m,fun _ m=>m,fun _ m=>.inl m,fun _ m=>.inl m⟩
theorem FI.turn (x:FI G A env own O Oc M ρ s):bD O M s.heap:=fun a m o e=>⟨x.mt a m o e,fun _=>x.mO a m⟩
theorem FI.ext (x:FI G A env own O Oc M ρ s)(e:Ext G s s'):FI G A env own O Oc M ρ s':=
 ⟨x.inv.ext e,x.mO,x.ml,x.mc,x.mo,x.m0,fun a m o q=>(by obtain⟨o',e',c⟩:=x.inv.ov a (x.mO a m);rw[e.keep a o' e' c]at q;obtain rfl:=aG q;exact x.mt a m _ e'),x.cO,x.cM,x.inj⟩
def cr (G:GC)(A:Around)(t:Sem Flow)(env:Env)(Oc:a9)(ns:Nk)(ρ:aF)(out:gZ):Prop:=
 ∀(own:dM)(O M:a9)(s:Shared),own.is ns->FI G A env own O Oc M ρ s->∀(Q:Flow->Shared->Prop)(E:ba),
  (∀ρ' own' O' M' s',out=.n ρ'->own'.is ns->FI G A env own' O' Oc M' ρ' s'->bW G O M s O' M' s'->Q .next s') ->
  (∀d v s',out=.r d->bI G M s s'->az G.w Oc s'.heap v d->Q (.ret v) s')->wpAny (bC G) A t Q E s
theorem JP:cr G A (execs [] env) env Oc ns ρ (.n ρ):=fun own O M s hn F Q E q _ =>
 wpAny_execs_nil (q ρ own O M s rfl hn F (.refl F.inv.base F.inv.pos))
theorem zN (h1:cr G A (exec x env) env Oc ns ρ o1)(h2:∀ρ',o1=.n ρ'->cr G A (execs xs env) env Oc ns ρ' out)(h3:∀d,o1=.r d->out=.r d) :
  cr G A (execs (x::xs) env) env Oc ns ρ out:=fun own O M s hn F Q E q1 q2=>by
 rw[arm_execs_cons];refine aH (h1 own O M s hn F _ _ (fun ρ' own' O' M' s' e hn' F' st=>?_) (fun d v s' e sx r=>?_))
 .exact h2 ρ' e own' O' M' s' hn' F' _ _ (fun ρ2 own2 O2 M2 s2 e2 hn2 F2 st2=>q1 ρ2 own2 O2 M2 s2 e2 hn2 F2 (bW.trans F.mO st st2)) (fun d v s2 e2 sx r=>q2 d v s2 e2 (bW.trans F.mO st ⟨sx,fun _ m=>m,fun _ m=>m,fun _ m=>.inl m,fun _ m=>.inl m⟩:bW G O M s O' M' s2).sx r)
 .exact bg (q2 d v s' (h3 d e) sx r)
end
end
section
section
variable {G:GC}{A:Around}{S:cU}{env:Env}{own:dM}{O Oc M:a9}{ρ:aF}{d:D}{ns:Nk}
theorem FI.back (F:FI G A env own O Oc M ρ s):∀a∈M,∃o,s.heap.get? a=some o/\gq o:=fun a m=>F.inv.ov a (F.mO a m)
noncomputable def wtg (G:GC)(env:Env)(tg:aN):a9:=env.locals::tg.filterMap fun n=>(G.names[n]?).bind fun x=>if env.kindOf x==some .cell then env.cells.lookup x else none
theorem gK (tg:aN):Ij env G (wtg G env tg) tg:=⟨dX,fun n m x c h1 h2 h3=>eh _ (List.mem_filterMap.mpr ⟨n,m,by rw[h1];simp[h2,h3]⟩)⟩
set_option tactic.hygienic true in
theorem zY (m:a∈wtg G env tg):a=env.locals\/∃x,(env.kindOf x=some .cell\/env.kindOf x=some .free)/\env.cells.lookup x=some a:=by
 rcases bA m with rfl|m
 .exact .inl rfl
 .obtain⟨n,_,e⟩:=List.mem_filterMap.mp m;obtain⟨x,_,e⟩:=Option.bind_eq_some_iff.mp e;split at e
  .rename_i c;exact .inr ⟨x, .inl (eM c),e⟩
  .exact nn e
theorem FI.wtg (F:FI G A env own O Oc M ρ s):∀a∈wtg G env tg,a∈M:=fun a m=>by
 rcases zY m with rfl|⟨x,_,e⟩
 .exact F.ml
 .exact F.mc x a e
theorem FI.stored (F:FI G A env own O Oc M ρ s)(x:bI G (Internal.wtg G env tg) s s')(I:cV G A env own O ρ' s'):FI G A env own O Oc M ρ' s':=
 ⟨I,F.mO,F.ml,F.mc,F.mo,F.m0,fun a m o e=>(by
  by_cases c:a∈Internal.wtg G env tg
  .exact(qk I (fun a m=>zY m) a c o e).1
  .obtain⟨o',e',q⟩:=F.back a m;rw[x.keep a o' c e' q]at e;obtain rfl:=aG e;exact F.mt a m _ e'),F.cO,F.cM,F.inj⟩
theorem FI.step (F:FI G A env own O Oc M ρ s)(x:bI G (Internal.wtg G env tg) s s'):bW G O M s O M s':=⟨x.mono F.wtg,fun _ m=>m,fun _ m=>m,fun _ m=>.inl m,fun _ m=>.inl m⟩
theorem FI.weaken (F:FI G A env own O Oc M ρ s)(h:∀n d,ρ'.get n=some d->ρ.get n=some d):FI G A env own O Oc M ρ' s:=
 ⟨⟨F.inv.ok,F.inv.hh,F.inv.base,F.inv.pos,F.inv.ov,F.inv.envr.weaken h⟩,F.mO,F.ml,F.mc,F.mo,F.m0,F.mt,F.cO,F.cM,F.inj⟩
abbrev Fi (G:GC)(A:Around)(x:Expr)(env:Env)(ns:Nk)(ρ:aF)(d:D):Prop:=∀own O,own.is ns->bq G A x env own O ρ d
abbrev M6 (G:GC)(A:Around)(x:Expr)(env:Env)(ns:Nk)(ρ:aF)(b:Bool):Prop:=∀own O,own.is ns->mn G A x env own O ρ b
theorem gi (h:env.scope.kind=.function):interactive env=false:=by unfold interactive;rw[h];rfl
noncomputable def lT (e:Expr):Bool:=e.ctorIdx==8 || e.ctorIdx==9 || e.ctorIdx==10
theorem cg (h:lT value=false)(t:Option Expr)(l:Nat)(env:Env):swapsWith value t l env=pure false:=by cases value <;> first|rfl|cases h
noncomputable def EC (kind:Str->Option NameKind)(t:Str)(p q:Pos)(s:Scope):Bool:=kind t==some .local&&p.line==q.line&&!(s.names.any fun(n,k)=>n==t&&(k==.local || k==.cell))
def iZ (kind:Str->Option NameKind)(t:Str)(p:Pos)(value:Expr):Bool:=
 bif value.ctorIdx==8 then iJ value fun _ _ s _=>EC kind t p value.pos s else bif value.ctorIdx==9 then jR value fun _ _ s _=>EC kind t p value.pos s else kA value fun _ _ _ s _=>EC kind t p value.pos s
theorem xS (h:lT value=false)(kind:Str->Option NameKind)(t:Str)(p:Pos):iZ kind t p value=false:=by cases value <;> first|rfl|cases h
theorem ix (h:env.scope.kind=.function):swapsWith value (some (.Name t p)) l env=pure (iZ env.kindOf t p value):=by
 have e:(env.blockKind==.function)=true:=by unfold Env.blockKind;rw[h];rfl
 have e4:∀{a b c:Bool},(pure ((env.blockKind==.function)&&a&&b&&c):Sem Bool)=pure (a&&b&&c):=fun{a b c}=>by rw[e,Bool.true_and]
 cases value <;> first|rfl|exact e4
theorem qh:swapsWithSole [.Tuple es k p] value l env=pure false:=by cases value <;> rfl
theorem JQ (h:Fi G A x env ns ρ d):cr G A (exec (.Return (some x) pos) env) env Oc ns ρ (.r d):=fun own O M s hn F Q E _ q=>by rw[arm_exec_Return];exact aH (wpAny_standAt (aH (h own O hn s F.inv _ _ fun v s1 x1 r1=>bg (q d v s1 rfl x1.sext (r1.sub F.cO)))))
theorem HZ (hc:M6 G A c env ns ρ t)(ha:t=true->cr G A (execs a env) env Oc ns ρ out)(hb:t=false->cr G A (execs b env) env Oc ns ρ out):cr G A (exec (.If c a b pos) env) env Oc ns ρ out:=fun own O M s hn F Q E q1 q2=>by
 refine wpAny_If (hc own O hn s F.inv _ _ fun s1 x1=>?_);have k1:∀ρ' own' O' M' s',out=.n ρ'->own'.is ns->FI G A env own' O' Oc M' ρ' s'->bW G O M s1 O' M' s'->Q .next s':=fun ρ' own' O' M' s' e1 e2 e3 e4=>q1 ρ' own' O' M' s' e1 e2 e3 (bW.trans F.mO x1.step e4);have k2:∀d v s',out=.r d->bI G M s1 s'->az G.w Oc s'.heap v d->Q (.ret v) s':=fun d v s' e1 e2 e3=>q2 d v s' e1 (x1.sext.trans e2) e3;cases t with
 |true=>exact ha rfl own O M s1 hn (F.ext x1) Q E k1 k2
 |false=>exact hb rfl own O M s1 hn (F.ext x1) Q E k1 k2
theorem Bn (hc:M6 G A c env ns ρ true):cr G A (exec (.Assert c m pos) env) env Oc ns ρ (.n ρ):=fun own O M s hn F Q E q _ =>
 wpAny_Assert_holds (hc own O hn s F.inv _ _ fun s1 x1=>⟨rfl,q ρ own O M s1 rfl hn (F.ext x1) x1.step⟩)
theorem JT (h:cr G A (execs body env) env Oc ns ρ out):cr G A (exec (.Try body (h₀::hs) [] [] pos) env) env Oc ns ρ out:=fun own O M s hn F Q E q1 q2 =>
 wpAny_Try_except (h own O M s hn F _ _ (fun ρ' own' O' M' s' e1 e2 e3 e4=>wpAny_execs_nil (q1 ρ' own' O' M' s' e1 e2 e3 e4)) (fun d v s' e1 e2 e3=>q2 d v s' e1 e2 e3))
theorem JS (nm:G.names[n]?=some x)(hk:env.kindOf x=some k)(hkk:k=.local\/k=.cell)(hno:n∉ns.l)(hfn:env.scope.kind=.function)(hs:iZ env.kindOf x np value=false)
  (h:Fi G A value env ns ρ d):cr G A (exec (.Assign [.Name x np] value pos) env) env Oc ns ρ (.n (ρ.set n d)):=fun own O M s hn F Q E q _=>by
 refine wpAny_Assign_Name (h own O hn s F.inv _ _ fun v s1 x1 r1=>?_) (by rw[ix hfn,hs]);refine d5 (W:=wtg G env [n]) (F.inv.ext x1) nm hk hkk (gX (hn.1▸hno) r1) ⟨dX,fun hc c e=>(gK (G:=G) (env:=env) [n]).2 n (by simp) x c nm hc e⟩ fun s2 x2 _ I2=>?_;have F1:=F.ext x1;exact q _ own O M s2 rfl hn (F1.stored x2 I2) (bW.trans F.mO x1.step (F1.step x2))
theorem JL (nm:G.names[n]?=some x)(hk:env.kindOf x=some k)(hkk:k=.local\/k=.cell)(hno:n∉ns.l)(hx:(x==("__classdict__" : Str))=false)(hg:ρ.get n=some a)
  (h:Fi G A value env ns ρ b)(hb:sF o a b=some d):cr G A (exec (.AugAssign (.Name x np) o value pos) env) env Oc ns ρ (.n (ρ.set n d)):=fun own O M s hn F Q E q _=>by
 refine wpAny_AugAssign_Name (jN F.inv nm hk (hkk.imp id .inl) hx hg fun v r=>h own O hn s F.inv _ _ fun u s1 x1 r1=>?_);unfold cL at r;rw[if_neg (hn.1▸hno)]at r;refine wX x1.base x1.pos (r.keep x1.keep) r1 hb _ _ fun z s2 x2 r2=>?_;have x12:=x1.trans x2;refine d5 (W:=wtg G env [n]) (F.inv.ext x12) nm hk hkk (gX (hn.1▸hno) r2) ⟨dX,fun hc c e=>(gK (G:=G) (env:=env) [n]).2 n (by simp) x c nm hc e⟩ fun s3 x3 _ I3=>?_;have F1:=F.ext x12;exact q _ own O M s3 rfl hn (F1.stored x3 I3) (bW.trans F.mO x12.step (F1.step x3))
end
end
section
section
variable {G:GC}{A:Around}{S:cU}{env:Env}{own:dM}{O Oc M:a9}{ρ:aF}{d:D}{ns:Nk}
theorem ak.grow (r:ak w O h vs ds)(k:∀a∈O',a∈O\/h.get? a=Option.none):ak w O' h vs ds:=
 let⟨as,x,y,z⟩:=r
 ⟨as,x,fun b m=>⟨fun q=>(k b q).elim (y b m).1 fun e=>(by obtain⟨o,e',_⟩:=cR x b m;rw[e]at e';exact nn e'),(y b m).2⟩,z⟩
theorem bW.vreps (F:FI G A env own O Oc M ρ s)(x:bW G O M s O' M' s')(r:ak G.w O s.heap vs ds):ak G.w O' s'.heap vs ds:=
 (r.grow x.nO).but x.sx.keep fun a m o e=>⟨F.mt a m o e,fun _=>x.oO a (F.mO a m)⟩
inductive Fo (G:GC)(A:Around)(O M:a9)(tg:Expr)(s:Shared)(ds:List D)(I:Addr)(s':Shared):Prop
 |mk (fp wr:a9)(vs:fO)(es:List D)(St:Nat->Heap->Prop)(P Md:Nat->Value->Heap->Prop)(it:rX G A false tg I fp wr ds vs es St P Md)(st:St 0 s'.heap)(rv:ak G.w O s'.heap vs es)(h1:∀b∈wr,s.heap.get? b=none)
  (h2:∀b∈fp,∃o,s'.heap.get? b=some o)(h3:∀b∈fp,s.heap.get? b=none\/b∉M\/∃vs,s'.heap.IsTuple b vs)
def KE (G:GC)(A:Around)(O M:a9)(tg:Expr)(t:Sem Value)(s:Shared)(ds:List D):Prop:=
 ∀(Q:ba)(E:ba),(∀I s',Ext G s s'->Fo G A O M tg s ds I s'->Q (.ref I) s')->wpAny (bC G) A t (fun x s₁=>wpAny (bC G) A (pyIter x) Q E s₁) E s
theorem wU {f:D->aF->Option gZ}{d:D}{ds:List D}{ρ:aF}:pv f (d::ds) ρ=(match f d ρ with
  |some (.n ρ')=>pv f ds ρ'
  |o=>o):=rfl
theorem bW.lift (x:bW G O1 M1 t O2 M2 t'):bW G (wr++O1) (wr++M1) t (wr++O2) (wr++M2) t':=
 ⟨x.sx.mono fun a m=>hJ _ m,fun a m=>(cy m).elim (fun m=>ij _ m) fun m=>hJ _ (x.oO a m),
 fun a m=>(cy m).elim (fun m=>ij _ m) fun m=>hJ _ (x.mM a m),
 fun a m=>(cy m).elim (fun m=>.inl (ij _ m)) fun m=>(x.nM a m).imp (fun m=>hJ _ m) id,
 fun a m=>(cy m).elim (fun m=>.inl (ij _ m)) fun m=>(x.nO a m).imp (fun m=>hJ _ m) id⟩
theorem bW.drop (gx:Ext G s s1)(h1:∀b∈wr,s.heap.get? b=none)(x:bW G (wr++O) (wr++M) s1 (wr++O2) (wr++M2) t)(k1:∀a∈O,a∈O2)(k2:∀a∈M,a∈M2)(k3:∀b∈wr,b∉O2)(k4:∀b∈wr,b∉M2):bW G O M s O2 M2 t:=by
 have xs:=gx.sext.trans x.sx;refine⟨⟨xs.same,fun b o m e c=>xs.keep b o (fun mm=>?_) e c,xs.base,xs.pos,fun b m e=>?_⟩,k1,k2,fun a m=>?_,fun a m=>?_⟩
 .rcases cy mm with mm|mm
  .rw[h1 b mm]at e;exact nn e
  .exact m mm
 .by_cases mm:b∈wr
  .exact h1 b mm
  .exact xs.back b (fun q=>(cy q).elim mm m) e
 .rcases x.nM a (hJ _ m)with q|q
  .exact(cy q).elim (fun q=>absurd m (k4 a q)) .inl
  .exact .inr (gx.back a q)
 .rcases x.nO a (hJ _ m)with q|q
  .exact(cy q).elim (fun q=>absurd m (k3 a q)) .inl
  .exact .inr (gx.back a q)
structure LI (G:GC)(A:Around)(env:Env)(O Oc M wr:a9)(ns:Nk)(s s1:Shared)(ρ:aF)(own:dM)(O' M':a9)(s':Shared):Prop where
 gx:Ext G s s1
 h1:∀b∈wr,s.heap.get? b=none
 h0:∀b∈wr,G.h₀.get? b=none
 mo:∀a∈M,a∈O
 hw:∀b∈wr,b∉O'
 hn:own.is ns
 F:FI G A env own O' Oc M' ρ s'
 sp:bW G (wr++O) (wr++M) s1 (wr++O') (wr++M') s'
 hO:∀a∈O,a∈O'
 hM:∀a∈M,a∈M'
 hO':∀a∈O',a∈O\/s1.heap.get? a=none
 hM':∀a∈M',a∈M\/s1.heap.get? a=none
section
variable {wr O' M':a9}{s s1 s':Shared}{own':dM}{ρ':aF}
theorem LI.start (F:FI G A env own O Oc M ρ s)(gx:Ext G s s1)(h1:∀b∈wr,s.heap.get? b=none)(hn:own.is ns):LI G A env O Oc M wr ns s s1 ρ own O M s1:=
 ⟨gx,h1,fun b m=>bw (fun o e=>F.inv.base.keep b o e) (h1 b m),F.mO,fun b m mO=>by obtain⟨o,e,_⟩:=F.inv.ov b mO;rw[h1 b m]at e;exact nn e,hn,F.ext gx, .refl (F.ext gx).inv.base (F.ext gx).inv.pos,fun _ m=>m,fun _ m=>m,fun _ m=>.inl m,fun _ m=>.inl m⟩
theorem LI.mO (L:LI G A env O Oc M wr ns s s1 ρ own' O' M' s'):∀a∈wr++M,a∈wr++O:=fun a m=>(cy m).elim (fun m=>ij _ m) fun m=>hJ _ (L.mo a m)
theorem LI.wM (L:LI G A env O Oc M wr ns s s1 ρ own' O' M' s'):∀b∈wr,b∉M':=fun b m mM=>L.hw b m (L.F.mO b mM)
theorem LI.turn (L:LI G A env O Oc M wr ns s s1 ρ own' O' M' s')(hz:∀b∈wr,∀o,s'.heap.get? b=some o->HF false o)(hk:∀b o,b∉wr->s'.heap.get? b=some o->g.get? b=some o)(p:0<tk) :
  LI G A env O Oc M wr ns s s1 ρ own' O' M' { s' with heap:=g,toks:=tk }/\bD O' wr s'.heap:=by
 obtain⟨I2,t2,sx2⟩:=L.F.inv.iter hz L.hw L.h0 hk p;exact⟨{ L with
  F:=⟨I2,L.F.mO,L.F.ml,L.F.mc,L.F.mo,L.F.m0,fun a m o e=>(by obtain⟨o',e',_⟩:=L.F.back a m;have e2:g.get? a=some o:=e;rw[hk a o' (fun q=>L.wM a q m) e']at e2;obtain rfl:=aG e2;exact L.F.mt a m _ e'),L.F.cO,L.F.cM,L.F.inj⟩
  sp:=bW.trans L.mO L.sp ⟨sx2.mono fun a m=>ij _ m,fun _ m=>m,fun _ m=>m,fun _ m=>.inl m,fun _ m=>.inl m⟩ },t2⟩
theorem LI.stored (L:LI G A env O Oc M wr ns s s1 ρ own' O' M' s')(x:bI G (Internal.wtg G env tg) s' s3)(I:cV G A env own' O' ρ' s3):LI G A env O Oc M wr ns s s1 ρ' own' O' M' s3:=
 { L with F:=L.F.stored x I,sp:=bW.trans L.mO L.sp (L.F.step x).lift }
theorem LI.next (L:LI G A env O Oc M wr ns s s1 ρ own' O' M' s')(hs:∀a∈wr,s'.heap.get? a≠none)(hn:own3.is ns)(F4:FI G A env own3 O3 Oc M3 ρ' s4)(sp:bW G O' M' s' O3 M3 s4):LI G A env O Oc M wr ns s s1 ρ' own3 O3 M3 s4:=by
 have fr:∀a,s'.heap.get? a=none->a∈M\/s1.heap.get? a=none:=fun a e=>by
  by_cases q:a∈wr++M
  .rcases cy q with q|q
   .exact absurd e (hs a q)
   .exact .inl q
  .exact .inr (L.sp.sx.back a q e)
 exact⟨L.gx,L.h1,L.h0,L.mo,fun b m mO=>(sp.nO b mO).elim (L.hw b m) (hs b m),hn,F4,bW.trans L.mO L.sp sp.lift,fun a m=>sp.oO a (L.hO a m),fun a m=>sp.mM a (L.hM a m),fun a m=>(sp.nO a m).elim (L.hO' a) fun q=>(fr a q).imp (L.mo a) id,fun a m=>(sp.nM a m).elim (L.hM' a) (fr a)⟩
theorem LI.done (L:LI G A env O Oc M wr ns s s1 ρ own' O' M' s'):bW G O M s O' M' s':=bW.drop L.gx L.h1 L.sp L.hO L.hM L.hw L.wM
theorem LI.back (L:LI G A env O Oc M wr ns s s1 ρ own' O' M' s')(sx:bI G M' s' s4):bI G M s s4:=(bW.drop L.gx L.h1 (bW.trans L.mO L.sp (bW.lift ⟨sx,fun _ m=>m,fun _ m=>m,fun _ m=>.inl m,fun _ m=>.inl m⟩)) L.hO L.hM L.hw L.wM).sx
end
inductive MW (G:GC)(A:Around)(env:Env)(O Oc M wr:a9)(ns:Nk)(St:Nat->Heap->Prop)(f:D->aF->Option gZ)(out:gZ)(ds es:List D)(vs:fO)(s s1:Shared)(n:Nat)(s':Shared):Prop
 |mk (i:Nat) (ρi:aF)(own':dM)(O' M':a9)(hi:i<=ds.length)(hn:n=ds.length+1-i)(hg:pv f (ds.drop i) ρi=some out)(L:LI G A env O Oc M wr ns s s1 ρi own' O' M' s')(st':St i s'.heap)(rv':ak G.w O' s'.heap vs es)
theorem IN (hn:own.is ns)(F:FI G A env own O Oc M ρ s)(hsrc:KE G A O M target (eval iter env) s ds)(hns:jo iter=true)
  (ht:∀own,own.is ns->cN G env own target tg)(hb:∀x ρ' o,f x ρ'=some o->∃ρ'',bx ρ' tg x=some ρ''/\cr G A (execs body env) env Oc ns ρ'' o)(hf:pv f ds ρ=some out)(Q:Flow->Shared->Prop)(E:ba)
  (q1:∀ρ' own' O' M' s',out=.n ρ'->own'.is ns->FI G A env own' O' Oc M' ρ' s'->bW G O M s O' M' s'->Q .next s')
  (q2:∀d v s',out=.r d->bI G M s s'->az G.w Oc s'.heap v d->Q (.ret v) s'):wpAny (bC G) A (exec (.For target iter body [] pos) env) Q E s:=by
 refine wpAny_For (hsrc _ _ fun I s1 gext git=>?_) (fun x=>jK hns env x);obtain⟨fp,wr,vs,es,St,P,Md,it,st,rv,h1,h2,h3⟩:=git;have T:=it.turns;have F1:=F.ext gext;have hfM:∀b∈fp,b∉M:=fun b m mM=>by
  rcases h3 b m with h|h|⟨us,h⟩
  .obtain⟨o,e,_⟩:=F.back b mM;rw[h]at e;exact nn e
  .exact h mM
  .obtain⟨o,e,c,n,hd⟩:=h;exact(F1.mt b mM o e).1 _ _ c hd
 have hfs:∀b∈fp,s1.heap.get? b≠none:=fun b m e=>by obtain⟨o,e'⟩:=h2 b m;rw[e]at e';exact nn e'
 refine codeAny_forLoop_any
  (MW G A env O Oc M wr ns St f out ds es vs s s1) (fun n s' hI=>?_) (ds.length+1)
  ⟨0,ρ,own,O,M,gL _,rfl,hf, .start F gext h1 hn,st,rv⟩
 obtain⟨i,ρi,own',O',M',hi,rfl,hg,L,st',rv'⟩:=hI;have fpM:∀b∈fp,b∉M':=fun b m mM=>(L.hM' b mM).elim (hfM b m) (hfs b m);by_cases hlt:i<ds.length
 .refine wpAny_with_toks (n:=1) L.F.inv.pos (T.item i _ _ _ hlt st' fun v g1 tk hMd hk1 p1=>?_);refine wpAny_with_toks (n:=1) p1 (T.go i v _ _ _ hMd fun g2 hP st2 hk2 p2=>?_);have hk:∀b o,b∉wr->s'.heap.get? b=some o->g2.get? b=some o:=fun b o m e=>hk2 b o m (hk1 b o m e);obtain⟨L2,t2⟩:=L.turn (fun b m=>it.wrc i _ st' b m) hk p2;have rv2:ak G.w O' g2 vs es:=rv'.but (fun b o m e _=>hk b o m e) t2;have hx:ds[i]?=some ds[i]:=List.getElem?_eq_getElem hlt;have ri:=it.item O' g2 i v _ rv2 hP hx;rw[List.drop_eq_getElem_cons hlt]at hg;cases hfo:f ds[i] ρi with
  |none=>rw[wU,hfo]at hg;exact nn hg
  |some o =>
   obtain⟨ρ'',hbd,hst⟩:=hb _ _ _ hfo;refine fB (W:=wtg G env tg) (ht own' L.hn) L2.F.inv ri hbd (gK tg) fun s3 x3 k3 I3=>?_;have L3:=L2.stored x3 I3;have rv3:=k3 _ _ rv2;have frame:∀(t t':Shared)(j:Nat),St j t.heap->aL M' t.heap t'.heap->St j t'.heap:=fun t t' j hst hkb =>
    T.frame j _ _ hst fun b hb o e=>hkb b o (fpM b hb) e (it.solid j _ hst b hb o e)
   have st3:=frame { s' with heap:=g2,toks:=tk } s3 _ st2 (L2.F.step x3).sx.keep;refine hst own' O' M' s3 L.hn L3.F _ _ (fun ρ3 own3 O3 M3 s4 e3 hn3 F4 sp4=>?_) (fun d v s4 e3 sx4 r4=>?_)
   .subst e3;have hg':pv f (ds.drop (i+1)) ρ3=some out:=by rw[wU,hfo]at hg;exact hg
    exact⟨ds.length+1-(i+1),Nat.sub_lt_sub_left (Nat.lt_succ_of_lt hlt) (Nat.lt_succ_self i),i+1,ρ3,own3,O3,M3,hlt,rfl,hg',L3.next (fun a q e=>by obtain⟨o,e'⟩:=it.ex _ _ st3 a q;rw[e]at e';exact nn e') hn3 F4 sp4,frame s3 s4 _ st3 sp4.sx.keep,sp4.vreps L3.F rv3⟩
   .subst e3;have hout:out=.r d:=by rw[wU,hfo]at hg;obtain rfl:=aG hg;rfl
    exact q2 d v s4 hout (L3.back sx4) r4
 .have hi':i=ds.length:=Nat.le_antisymm hi (Nat.not_lt.mp hlt);subst hi';have hg':out=.n ρi:=by rw[List.drop_length]at hg;obtain rfl:=aG hg;rfl
  refine wpAny_with_toks (n:=1) L.F.inv.pos (T.done _ _ _ st' fun g1 tk hk p1=>wpAny_execs_nil ?_);obtain⟨L2,_⟩:=L.turn (fun b m=>it.wrc _ _ st' b m) hk p1;exact q1 ρi own' O' M' _ hg' L.hn L2.F L2.done
theorem JO (hsrc:∀own O,own.is ns->kT G A false iter env own O ρ target ds true)(hns:jo iter=true)
  (ht:∀own,own.is ns->cN G env own target tg)(hb:∀x ρ' o,f x ρ'=some o->∃ρ'',bx ρ' tg x=some ρ''/\cr G A (execs body env) env Oc ns ρ'' o)(hf:pv f ds ρ=some out) :
  cr G A (exec (.For target iter body [] pos) env) env Oc ns ρ out:=fun own O M s hn F Q E q1 q2 =>
 IN hn F (fun Q' E' q=>hsrc own O hn s F.inv Q' E' fun I s' got=>q I s' got.ext (by obtain⟨fp,wr,vs,es,St,P,Md,it,st,rv,h1,h2,h3⟩:=got.it;exact⟨fp,wr,vs,es,St,P,Md,it,st,rv,h1,h2,fun b m=>(h3 b m).imp id fun h=>h.imp (fun h mM=>h rfl (F.mO b mM)) id⟩)) hns ht hb hf Q E q1 q2
end
end
section
section
variable {G:GC}{A:Around}{S:cU}{env:Env}{own:dM}{O Oc M:a9}{ρ:aF}{d:D}{ns:Nk}
noncomputable def EB (kind:Str->Option NameKind)(line:Nat)(e:Expr):Option Str:=swappedStores.match_8 (fun _=>Option Str) e (fun id pos=>if kind id==some .local&&pos.line==line then some id else none) fun _=>none
noncomputable def C1 (e:Expr):Bool:=swappedStores.match_5 (fun _=>Bool) e (fun _ _=>true) fun _=>false
abbrev fY (kind:Str->Option NameKind)(ts:dN):List Str:=ts.filterMap (EB kind ((ts.head?.map (·.pos.line)).getD 0))
def tK (kind:Str->Option NameKind)(ts vs:dN):Option (Option (List Str)):=
 bif !(ts.length==2 || ts.length==3) || vs.length != ts.length then some none else bif vs.any C1 then some none
 else bif (fY kind ts).length != ts.length || (fY kind ts).eraseDups.length != (fY kind ts).length then some none else bif vs.all (foldedForSure 8)then some none else bif vs.all (constantsAlone 8)then none else some (some (fY kind ts))
theorem g7 {x y:Option α}{r:α}{P:Prop}(h:(bif c then x else y)=some r)(h1:c=true->x=some r->P)(h2:c=false->y=some r->P):P:=by
 cases c
 .exact h2 rfl h
 .exact h1 rfl h
theorem Bt {p p':Pos}{r:Option (List Str)}(hfn:env.scope.kind=.function)(h:tK env.kindOf ts vs=some r):swappedStores [.Tuple ts k p] (.Tuple vs k' p') env=pure r:=by
 have e:(env.blockKind != .function)=false:=by unfold Env.blockKind;rw[hfn];rfl
 have key:swappedStores [.Tuple ts k p] (.Tuple vs k' p') env=(if((!(ts.length==2 || ts.length==3) || vs.length != ts.length) || (env.blockKind != .function))=true then pure none else if vs.any C1=true then pure none else
  if((fY env.kindOf ts).length != ts.length || (fY env.kindOf ts).eraseDups.length != (fY env.kindOf ts).length)=true then pure none else if vs.all (foldedForSure 8)=true then pure none else if vs.all (constantsAlone 8)=true then unsupported "assign.tuple-of-constant-expressions:order-of-the-stores" else pure (some (fY env.kindOf ts))):=rfl
 rw[key,e,Bool.or_false];have n:∀{c:Bool},c=false->¬ c=true:=fun h=>h▸g6;exact g7 h (fun c q=>(if_pos c).trans (congrArg pure (aG q))) fun c h=>(if_neg (n c)).trans (g7 h (fun c q=>(if_pos c).trans (congrArg pure (aG q))) fun c h=>(if_neg (n c)).trans (g7 h (fun c q=>(if_pos c).trans (congrArg pure (aG q))) fun c h=>(if_neg (n c)).trans
  (g7 h (fun c q=>(if_pos c).trans (congrArg pure (aG q))) fun c h=>(if_neg (n c)).trans (g7 h (fun _ q=>nn q) fun c q=>(if_neg (n c)).trans (congrArg pure (aG q))))))
theorem JU (ht:∀own,own.is ns->cN G env own (.Tuple es k tp) tg)(hl:xs.length=tg.length)(hsw:swappedStores [.Tuple es k tp] value env=pure none)
  (h:Fi G A value env ns ρ (.tuple xs)):cr G A (exec (.Assign [.Tuple es k tp] value pos) env) env Oc ns ρ (.n (bF ρ tg xs)):=fun own O M s hn F Q E q _=>by
 refine Assign_Tuple (h own O hn s F.inv _ _ fun v s1 x1 r1=>?_) qh hsw;have hb:bx ρ tg (.tuple xs)=some (bF ρ tg xs):=by
  cases ht own hn with
  |tup _ h2 =>
   exact Ac (Nat.ne_of_gt h2) hl
 refine fB (W:=wtg G env tg) (ht own hn) (F.inv.ext x1) r1 hb (gK tg) fun s2 x2 _ I2=>?_;have F1:=F.ext x1;exact q _ own O M s2 rfl hn (F1.stored x2 I2) (bW.trans F.mO x1.step (F1.step x2))
inductive gO (G:GC)(env:Env)(own:dM):List Str->aN->Prop
 |nil:gO G env own [] []
 |cons {x k n xs ns}:G.names[n]?=some x->env.kindOf x=some k->(k=.local\/k=.cell)->n∉own.ns->gO G env own xs ns->gO G env own (x::xs) (n::ns)
theorem gO.append (h:gO G env own a m)(h':gO G env own b n):gO G env own (a++b) (m++n):=by
 induction h with
 |nil=>exact h'
 |cons h1 h2 h3 h4 _ ih=>exact .cons h1 h2 h3 h4 ih
theorem gO.reverse (h:gO G env own a m):gO G env own a.reverse m.reverse:=by
 induction h with
 |nil=>exact .nil
 |cons h1 h2 h3 h4 _ ih=>rw[List.reverse_cons,List.reverse_cons];exact ih.append (.cons h1 h2 h3 h4 .nil)
set_option tactic.hygienic true in
theorem Jj (h:oS G env own es tg):∀{names:List Str},es.filterMap (EB env.kindOf line)=names->names.length=es.length->gO G env own names tg:=by
 induction h with
 |nil=>intro names h _;subst h;exact .nil
 |cons h1 h2 h3 h4 h5 ih =>
  rename_i x pos n k es tg;intro names h hl;rw[List.filterMap_cons]at h;cases e:EB env.kindOf line (.Name x pos)with
  |none =>
   rw[e]at h;exact absurd (aJ (Nat.le_of_eq (hl.symm.trans (congrArg List.length h.symm))) (List.length_filterMap_le _ es)) (Nat.not_succ_le_self _)
  |some y =>
   rw[e]at h;have e:(if(env.kindOf x==some .local&&pos.line==line)=true then some x else none)=some y:=e;by_cases c:(env.kindOf x==some .local&&pos.line==line)=true
   .rw[if_pos c]at e;obtain rfl:=aG e;subst h;exact .cons h1 h2 h3 h4 (ih rfl (Nat.succ.inj hl))
   .rw[if_neg c]at e;exact nn e
theorem BW:∀{xs:List Str}{tg:aN},gO G env own xs tg->∀{ρ:aF}{vs:fO}{ds:List D}{s:Shared},cV G A env own O ρ s->ak G.w O s.heap vs ds->ds.length=tg.length->Ij env G W tg ->
  ∀{Q:Unit->Shared->Prop}{E:ba},(∀s',bI G W s s'->cV G A env own O (bF ρ tg ds) s'->Q () s')->wpAny (bC G) A (assignInOrder (xs.map fun n=>bindName env n) vs) Q E s:=by
 intro xs tg h
 induction h with
 |nil =>
  intro ρ vs ds s I r hl hW Q E q;obtain rfl:ds=[]:=List.length_eq_zero_iff.mp hl;exact assignInOrder_nil (q s (.refl I.base I.pos) I)
 |cons h1 h2 h3 h4 h5 ih =>
  intro ρ vs ds s I r hl hW Q E q;cases ds with
  |nil=>simp at hl
  |cons d ds =>
   obtain⟨v,vs,rfl,r1,r2⟩:=r.cons_inv;refine assignInOrder_cons (wpAny_bindName (d5 (W:=W) I h1 h2 h3 (gX h4 r1) ⟨hW.1,fun hk c hc=>hW.2 _ (by simp) _ c h1 hk hc⟩ fun s1 x1 k1 I1=>?_));exact ih I1 (k1 _ _ r2) (by simpa using hl) ⟨hW.1,fun m hm=>hW.2 m (eh _ hm)⟩ fun s2 x2 I2=>q s2 (x1.trans x2) I2
theorem iN:∀(ns:aN)(ds:List D)(ρ:aF)(m:Nat),ns.Nodup->(bF ρ ns ds).get m=match(ns.zip ds).lookup m with|some d=>some d|none=>ρ.get m
 |[],_,_,_,_=>rfl
 |n::ns,[],_,_,_=>rfl
 |n::ns,d::ds,ρ,m,h=>by
  obtain⟨h1,h2⟩:=List.nodup_cons.mp h;show(bF _ ns ds).get m=_;rw[iN ns ds _ m h2,List.zip_cons_cons,List.lookup_cons,aF.get_set];by_cases e:m=n
  .subst e;have:(ns.zip ds).lookup m=none:=by
    cases q:(ns.zip ds).lookup m with
    |none=>rfl
    |some d' =>
     exfalso
     have key:∀{l:List (Nat × D)}{n:Nat}{c:D},l.lookup n=some c->(n,c)∈l:=by
      intro l
      induction l with
      |nil=>intro n c h;simp at h
      |cons p r ih =>
       intro n c h;rw[List.lookup_cons]at h;cases hb:n==p.1 with
       |true=>rw[hb]at h;obtain rfl:=aG h;rw[eM hb];exact dX
       |false=>rw[hb]at h;exact eh _ (ih h)
     exact h1 (List.of_mem_zip (key q)).1
   rw[this,if_pos rfl,beq_self_eq_true]
  .have hb:(m==n)=false:=by simpa using e
   rw[hb,if_neg e]
theorem gy {l:List (Nat × D)}(hn:(l.map (·.1)).Nodup):l.lookup n=some c↔(n,c)∈l:=by
 induction l with
 |nil=>simp
 |cons p r ih =>
  obtain⟨h1,h2⟩:=List.nodup_cons.mp hn;rw[List.lookup_cons];cases hb:n==p.1 with
  |true =>
   have e:=eM hb;constructor
   .intro h;obtain rfl:=aG h;rw[e];exact dX
   .intro h;rcases bA h with h|h
    .rw[<- h]
    .exact absurd (show p.1∈r.map (·.1) by rw[<- e];exact List.mem_map_of_mem (f:=(·.1)) h) h1
  |false =>
   have e:n≠p.1:=by simpa using hb
   rw[ih h2];constructor
   .intro h;exact eh _ h
   .intro h;rcases bA h with h|h
    .exact absurd (by rw[<- h]) e
    .exact h
theorem rt {l:List α}(h:l.Nodup):l.reverse.Nodup:=List.pairwise_reverse.mpr (h.imp fun x=>x.symm)
theorem z7:∀{a:List α}{b:List β},a.length=b.length->a.reverse.zip b.reverse=(a.zip b).reverse
 |[],[],_=>rfl
 |x::a,y::b,h=>by
  have h':a.length=b.length:=by simpa using h
  rw[List.reverse_cons,List.reverse_cons,List.zip_append (by simpa using h'),z7 h'];simp
 |[],_::_,h=>by simp at h
 |_::_,[],h=>by simp at h
theorem xF {ns:aN}{ds:List D}(h:ns.Nodup)(hl:ds.length=ns.length)(m:Nat):(bF ρ ns.reverse ds.reverse).get m=(bF ρ ns ds).get m:=by
 rw[iN _ _ _ _ (rt h),iN _ _ _ _ h];have e:ns.reverse.zip ds.reverse=(ns.zip ds).reverse:=z7 (by lia);have n1:((ns.zip ds).map (·.1)).Nodup:=by have:(ns.zip ds).map (·.1)=ns:=List.map_fst_zip (by lia);rw[this];exact h
 have n2:((ns.zip ds).reverse.map (·.1)).Nodup:=by rw[List.map_reverse];exact rt n1
 have:(ns.zip ds).reverse.lookup m=(ns.zip ds).lookup m:=by
  cases q:(ns.zip ds).lookup m with
  |some d=>exact(gy n2).mpr (List.mem_reverse.mpr ((gy n1).mp q))
  |none =>
   cases q2:(ns.zip ds).reverse.lookup m with
   |none=>rfl
   |some d =>
    have:=(gy n1).mpr (List.mem_reverse.mp ((gy n2).mp q2));rw[q]at this;exact nn this
 rw[e,this]
theorem Hc {tg:aN}{xs:List D}(ht:∀own,own.is ns->gO G env own names tg)(hl:xs.length=tg.length)(hnd:tg.Nodup)(hsw:swappedStores [.Tuple es k tp] value env=pure (some names))
  (hln:names.length=tg.length)(h:Fi G A value env ns ρ (.tuple xs)):cr G A (exec (.Assign [.Tuple es k tp] value pos) env) env Oc ns ρ (.n (bF ρ tg xs)):=fun own O M s hn F Q E q _=>by
 refine Assign_Tuple_swapped (h own O hn s F.inv _ _ fun v s1 x1 r1=>?_) qh hsw;obtain⟨a,vs,rfl,lt,rr⟩:=r1.tuple_inv;have e:=rr.length;simp only[i5]at e;have hsz:names.length=vs.size:=by rw[hln,<- hl,e]
 rw[hsz];refine wpAny_unpackItems_tuple F.inv.hh lt fun h' hk=>?_;have hk':∀b o,s1.heap.get? b=some o->h'.get? b=some o:=fun b o e=>hk b o (fun q=>by rw[q,aD]at e;exact nn e) e;have x0:Ext G s1 { s1 with heap:=h' }:=.all (t:=s1.toks) x1.base hk' x1.pos;have x01:=x1.trans x0;have rrev:ak G.w O h' vs.toList.reverse xs.reverse:=by
  have r0:=rr.keep x0.keep;refine .of_get (by simp[r0.length]) fun i v d e1 e2=>?_;have hi:i<xs.length:=by have:=(List.getElem?_eq_some_iff.mp e2).1;simpa using this
  rw[List.getElem?_reverse (by rw[r0.length];exact hi)]at e1;rw[List.getElem?_reverse hi]at e2;obtain⟨v',e3,r3⟩:=r0.get _ d e2;rw[r0.length]at e1;rw[e1]at e3;obtain rfl:=aG e3;exact r3
 refine BW (W:=wtg G env tg.reverse) (ht own hn).reverse (F.inv.ext x01) rrev (by simpa using hl) (gK _) fun s2 x2 I2=>?_;have F1:=F.ext x01;have F2:=F1.stored x2 I2;exact q _ own O M s2 rfl hn (F2.weaken fun n d e=>by rw[xF hnd hl];exact e) (bW.trans F.mO x01.step (F1.step x2))
end
end
section
section
variable {G:GC}{A:Around}{S:cU}{env:Env}{own:dM}{O Oc M:a9}{ρ:aF}{d:D}{ns:Nk}
def dM.put (own:dM)(n:Nat)(a:Addr):dM:=⟨own.ns,fun m=>if m=n then some a else own.at' m⟩
theorem gM.reown (x:gM G env own O ρ h)(hns:own'.ns=own.ns)(ha:∀m d,ρ.get m=some d->own'.at' m=own.at' m)(hi:∀n a,own'.at' n=some a->a∈O):gM G env own' O ρ h:=
 { x with
  oin:=hi
  ns:=let⟨m,a,b⟩:=x.ns;⟨m,a,fun n y d h1 h2 h3=>let⟨v,e,r⟩:=b n y d h1 h2 h3;⟨v,e,by unfold cL at *;rw[hns,ha n d h3];exact r⟩⟩
  cl:=fun n y d h1 h2 h3=>let⟨c,v,e,q,r⟩:=x.cl n y d h1 h2 h3;⟨c,v,e,q,by unfold cL at *;rw[hns,ha n d h3];exact r⟩ }
def se (G:GC)(A:Around)(O:a9)(t:Sem Value)(s:Shared)(xs:List D):Prop:=
 ∀(Q E:ba),(∀s1 D (vs:Array Value),Ext G s s1->s.heap.get? D=none->s1.heap.PlainList D vs->ak G.w (D::O) s1.heap vs.toList xs->Q (.ref D) s1)->wpAny (bC G) A t Q E s
set_option tactic.hygienic true in
theorem FI.ownAt {s1:Shared}{D:Addr}{vs:Array Value}{xs:List Internal.D}{O2:a9}(F:FI G A env own O Oc M ρ s1)(hDO:D∉O)(h0:G.h₀.get? D=none)(k1:∀a∈O2,a=D\/a∈O)(k2:D∈O2)(k3:∀a∈O,a∈O2)(E:gM G env own O2 ρ s1.heap)
  (pl:s1.heap.PlainList D vs)(r:ak G.w O2 s1.heap vs.toList xs)(hl:xs.length<=16777216)(hn:n∈own.ns) :
  FI G A env (own.put n D) O2 Oc (D::M) (ρ.del [n]) s1/\cL G.w (own.put n D) n O2 s1.heap (.ref D) (.list xs):=by
 have hMD:∀a∈M,a≠D:=fun a m q=>hDO (q▸F.mO a m);obtain⟨n0,e0⟩:=id pl;refine⟨⟨⟨F.inv.ok,F.inv.hh,F.inv.base,F.inv.pos,fun a m=>?_, ?_⟩,fun a m=>?_,eh _ F.ml,fun y c e=>eh _ (F.mc y c e),fun m a e=>?_,fun a m=>?_,fun a m o e=>?_,fun a m=>k3 a (F.cO a m),fun a m q=>?_,fun m k a e1 e2=>?_⟩, ?_⟩
 .rcases k1 a m with rfl|m
  .exact⟨_,e0, .inl nofun⟩
  .exact F.inv.ov a m
 .have E1:gM G env own O2 (ρ.del [n]) s1.heap:=E.weaken fun m d e=>by
   rw[aF.get_del]at e;split at e
   .exact nn e
   .exact e
  refine E1.reown rfl (fun m d e=>?_) fun m a e=>?_
  .rw[aF.get_del]at e;split at e
   .exact nn e
   .rename_i c;have:m≠n:=fun q=>c (by simp[q]);simp[dM.put,this]
  .unfold dM.put at e;dsimp only at e;split at e
   .obtain rfl:=aG e;exact k2
   .exact E.oin m a e
 .exact(bA m).elim (fun e=>e▸k2) fun m=>k3 a (F.mO a m)
 .unfold dM.put at e;dsimp only at e;split at e
  .obtain rfl:=aG e;exact dX
  .exact eh _ (F.mo m a e)
 .rcases bA m with rfl|m
  .exact h0
  .exact F.m0 a m
 .rcases bA m with rfl|m
  .rw[e0]at e;obtain rfl:=aG e;exact ik rfl rfl
  .exact F.mt a m o e
 .rcases bA m with rfl|m
  .exact hDO (F.cO a q)
  .exact F.cM a m q
 .unfold dM.put at e1 e2;dsimp only at e1 e2;split at e1 <;> split at e2
  .rename_i h1 h2;rw[h1,h2]
  .obtain rfl:=aG e1;exact absurd rfl (hMD _ (F.mo _ _ e2))
  .obtain rfl:=aG e2;exact absurd rfl (hMD _ (F.mo _ _ e1))
  .exact F.inj _ _ _ e1 e2
 .unfold cL;rw[if_pos (show n∈(own.put n D).ns from hn)];exact .inl ⟨D,vs,xs,by simp[dM.put],rfl,k2,rfl,hl,pl,r⟩
theorem FI.newOwn {s s1:Shared}{D:Addr}{vs:Array Value}{xs:List Internal.D}(F:FI G A env own O Oc M ρ s)(x:Ext G s s1)(hD:s.heap.get? D=none)(pl:s1.heap.PlainList D vs)(r:ak G.w (D::O) s1.heap vs.toList xs)(hl:xs.length<=16777216)(hn:n∈own.ns) :
  FI G A env (own.put n D) (D::O) Oc (D::M) (ρ.del [n]) s1/\cL G.w (own.put n D) n (D::O) s1.heap (.ref D) (.list xs)/\bW G O M s (D::O) (D::M) s1:=by
 have gr:∀a∈[D],s.heap.get? a=none:=fun a m=>by rw[aS m];exact hD
 obtain⟨F2,sr⟩:=(F.ext x).ownAt (n:=n) (O2:=D::O) (F.inv.ov.new hD) (bw (fun o q=>F.inv.base.keep _ o q) hD) (fun a m=>bA m) dX (fun a m=>eh _ m) ((F.inv.envr.news gr).keep x.keep) pl r hl hn;exact⟨F2,sr,x.sext,fun a m=>eh _ m,fun a m=>eh _ m,fun a m=>(bA m).elim (fun e=>.inr (e▸hD)) .inl,fun a m=>(bA m).elim (fun e=>.inr (e▸hD)) .inl⟩
theorem zF (ρ:aF)(n:Nat)(d:D)(m:Nat):((ρ.del [n]).set n d).get m=(ρ.set n d).get m:=by
 rw[aF.get_set,aF.get_set];by_cases c:m=n
 .simp[c]
 .rw[if_neg c,if_neg c,aF.get_del];simp[c]
theorem A3 {s s1:Shared}{k:NameKind}{D:Addr}{vs:Array Value}{xs:List Internal.D}(F:FI G A env own O Oc M ρ s)(x1:Ext G s s1)(hD:s.heap.get? D=none)(pl:s1.heap.PlainList D vs)(r:ak G.w (D::O) s1.heap vs.toList xs)(hl:xs.length<=16777216)(hn:n∈own.ns)
  (nm:G.names[n]?=some x)(hk:env.kindOf x=some k)(hkk:k=.local\/k=.cell){Q:Unit->Shared->Prop}{E:ba}
  (q:∀s2,FI G A env (own.put n D) (D::O) Oc (D::M) (ρ.set n (.list xs)) s2->bW G O M s (D::O) (D::M) s2->bI G (wtg G env [n]) s1 s2->Q () s2):wpAny (bC G) A (storeName env x (.ref D)) Q E s1:=by
 obtain⟨F1,sr,sp⟩:=F.newOwn x1 hD pl r hl hn;refine d5 (W:=wtg G env [n]) F1.inv nm hk hkk sr ⟨dX,fun hc c e=>(gK (G:=G) (env:=env) [n]).2 n (by simp) x c nm hc e⟩ fun s2 x2 _ I2=>?_;exact q s2 ((F1.stored x2 I2).weaken fun m d e=>by rw[zF];exact e) (bW.trans F.mO sp (F1.step x2)) x2
theorem zO (nm:G.names[n]?=some x)(hk:env.kindOf x=some k)(hkk:k=.local\/k=.cell)(hno:n∈ns.l)(hpn:ns.free n)(hfn:env.scope.kind=.function)(hs:iZ env.kindOf x np value=false)(hl:xs.length<=16777216)
  (h:∀own O s,own.is ns->cV G A env own O ρ s->se G A O (eval value env) s xs):cr G A (exec (.Assign [.Name x np] value pos) env) env Oc ns ρ (.n (ρ.set n (.list xs))):=fun own O M s hn F Q E q _=>by
 refine wpAny_Assign_Name (h own O s hn F.inv _ _ fun s1 D vs x1 hD pl r=>?_) (by rw[ix hfn,hs]);exact A3 F x1 hD pl r hl (hn.1▸hno) nm hk hkk fun s2 F2 sp x2=>q _ (own.put n D) _ _ s2 rfl ⟨hn.1,fun p e=>(if_neg (hpn p e)).trans (hn.2 p e)⟩ F2 sp
theorem vy (I:cV G A env own O ρ s)(h:mf G A es env own O ρ xs)(hl:xs.length<=1000):se G A O (eval (.List es pos) env) s xs:=fun Q E q=>by
 rw[arm_eval_List];refine aH (wpAny_standAt (aH (h s pos I _ _ fun vs s1 x1 r1=>?_)));have e:=r1.length;have hk:∀b o,s1.heap.get? b=some o->(s1.heap.push { cls:=.type "list",data:=.seq vs.toArray }).get? b=some o:=fun b o e=>gv _ e;refine wpAny_newObj_type (q { s1 with heap:=s1.heap.push { cls:=.type "list",data:=.seq vs.toArray } } s1.heap.objs.size vs.toArray (x1.trans (.all (t:=s1.toks) x1.base hk x1.pos)) (x1.back _ (aD _)) ⟨0,iV _ rfl⟩ ?_) (by show vs.toArray.size<=sizeLine;rw[List.size_toArray,e,aT];exact qp ‹_› rfl)
 simpa using(r1.new (aD _)).keep (.of hk)
end
end
section
section
variable {G:GC}{A:Around}{S:cU}{env:Env}{own:dM}{O Oc M:a9}{ρ:aF}{d:D}{ns:Nk}
theorem FI.turned (F:FI G A env own O Oc M ρ s)(hn:n∈own.ns)(ha:own.at' n=some a)(hg:ρ.get n=some (.list xs))(pl:s.heap.PlainList a vs)(hs':Heap.SameBut a s.heap h')(pl':h'.PlainList a vs')
  (r':ak G.w O h' vs'.toList xs')(hl:xs'.length<=16777216):FI G A env own O Oc M (ρ.set n (.list xs')) { s with heap:=h' }/\bW G O M s O M { s with heap:=h' }:=by
 have aM:a∈M:=F.mo n a ha;have kb:aL [a] s.heap h':=cY (aQ hs');obtain⟨n0,e0⟩:=id pl;obtain⟨n1,e1⟩:=id pl';have ht:bD O [a] s.heap:=fun b m o e=>by
  rcases aS m with rfl
  rw[e0]at e;obtain rfl:=aG e;exact⟨ik rfl rfl,fun _=>F.mO _ aM⟩
 have B:a5 G h':=F.inv.base.but (aQ hs') (fun b m=>by rcases aS m with rfl;exact F.m0 _ aM) fun b m o e=>(ht b m o e).1;have loc_ne:env.locals∉[a]:=fun m=>by obtain⟨mm,⟨o,es,ep,e2,e3,_⟩,_⟩:=F.inv.envr.ns;rw[aS m,e0]at e2;obtain rfl:=aG e2;cases e3
 have cell_ne:∀{c v},s.heap.IsCell c v->c∉[a]:=fun{c v} ⟨o,e2,e3⟩ m=>by rw[aS m,e0]at e2;obtain rfl:=aG e2;cases e3
 have oth:∀m,m≠n->∀b vs,own.at' m=some b->s.heap.PlainList b vs->b∉[a]:=fun m hm b _ hb _ q=>by rw[aS q]at hb;exact hm (F.inj _ _ _ hb ha)
 have new:cL G.w own n O h' (.ref a) (.list xs'):=by unfold cL;rw[if_pos hn];exact .inl ⟨a,vs',xs',ha,rfl,F.mO _ aM,rfl,hl,pl',r'⟩
 have val:∀{v},cL G.w own n O s.heap v (.list xs)->v=.ref a:=fun r=>by
  unfold cL at r;rw[if_pos hn]at r;rcases r with⟨b,_,_,e,rfl,_⟩|⟨_,_,_,_,e,_⟩
  .rw[ha]at e;obtain rfl:=aG e;rfl
  .exact nomatch e
 have hnd:=F.inv.ok.nd;refine⟨⟨⟨F.inv.ok,F.inv.hh,B,F.inv.pos,F.inv.ov.but kb fun b m=>?_,⟨F.inv.envr.fn,F.inv.envr.gl,F.inv.envr.bi,F.inv.envr.lin,F.inv.envr.lfr,F.inv.envr.oin,F.inv.envr.cin,F.inv.envr.inj,fun y hy=>?_, ?_,fun m y d' h1 h2 h3=>?_⟩⟩,F.mO,F.ml,F.mc,F.mo,F.m0,fun b m o e=>?_,F.cO,F.cM,F.inj⟩,
  ⟨⟨⟨rfl,rfl⟩,kb.mono fun b m=>by rcases aS m with rfl;exact aM,B,F.inv.pos,fun b m e=>bw (fun o q=>aQ hs' b o (fun mm=>m (by rcases aS mm with rfl;exact aM)) q) e⟩,fun _ m=>m,fun _ m=>m,fun _ m=>.inl m,fun _ m=>.inl m⟩⟩
 .rcases aS m with rfl;exact⟨_,e1, .inl nofun⟩
 .obtain⟨c,v,e,q⟩:=F.inv.envr.ce y hy;exact⟨c,v,e,kb.cell (cell_ne q) q⟩
 .obtain⟨mm,hm,hv⟩:=F.inv.envr.ns;refine⟨mm,kb.ns loc_ne hm,fun m y d' h1 h2 h3=>?_⟩;rw[aF.get_set]at h3;by_cases c:m=n
  .subst c;rw[if_pos rfl]at h3;obtain rfl:=aG h3;obtain⟨v,e,r⟩:=hv m y _ h1 h2 hg;rw[val r]at e;exact⟨_,e,new⟩
  .rw[if_neg c]at h3;obtain⟨v,e,r⟩:=hv m y d' h1 h2 h3;exact⟨v,e,r.but kb ht (oth m c)⟩
 .rw[aF.get_set]at h3;by_cases c:m=n
  .subst c;rw[if_pos rfl]at h3;obtain rfl:=aG h3;obtain⟨cc,v,e,q,r⟩:=F.inv.envr.cl m y _ h1 h2 hg;rw[val r]at q;exact⟨cc,_,e,kb.cell (cell_ne q) q,new⟩
  .rw[if_neg c]at h3;obtain⟨cc,v,e,q,r⟩:=F.inv.envr.cl m y d' h1 h2 h3;exact⟨cc,v,e,kb.cell (cell_ne q) q,r.but kb ht (oth m c)⟩
 .by_cases c:b∈[a]
  .rcases aS c with rfl
   have e:h'.get? b=some o:=e;rw[e1]at e;obtain rfl:=aG e;exact ik rfl rfl
  .obtain⟨o',e',q⟩:=F.back b m;have e:h'.get? b=some o:=e;rw[kb b o' c e' q]at e;obtain rfl:=aG e;exact F.mt b m _ e'
theorem JK (N:ee G env n x)(hno:n∈ns.l)(hg:ρ.get n=some (.list xs))(hp:(ap.endLine==p.line)=true)(hst:aY elt=true)(hfn:env.scope.kind=.function)(h:Fi G A elt env ns ρ d)(hl:xs.length<1000000) :
  cr G A (exec (.Expr (.Call (.Attribute (.Name x np) "append" ap) [elt] [] p) pos) env) env Oc ns ρ (.n (ρ.set n (.list (xs++[d])))):=fun own O M s hn F Q E q _=>by
 refine wpAny_Expr ?_ (gi hfn) (cg rfl _ _ _);refine gh rfl (show(aY elt&&true)=true by rw[hst];rfl) (show 1<30 by decide) hp (iM N F.inv (hn.1▸hno) hg fun a vs ha aO z l r pl=>?_);obtain⟨n0,e0⟩:=id l;refine getMethod_builtin (T:="list") ⟨_,e0,rfl⟩ PySem.F.plainAttrs_list slot_list_append PySem.F.type_list_append (fun a' e'=>by cases e';exact⟨_,e0,rfl⟩) ⟨_,rfl, ?_⟩;rw[cb hst];refine spliced_cons (h own O hn s F.inv _ _ fun v s1 x1 r1=>spliced_nil ?_);have F1:=F.ext x1;have l1:=bj l x1.keep;have e:=r.length;simp only[i5]at e;refine wpAny_list_append_plain l1 (fun h' pl' hs'=>?_) (by rw[aT,e];assumption);have ht:bD O [a] s1.heap:=fun b m o e=>by
  rcases aS m with rfl
  exact F1.turn b (F.mo n b ha) o e
 have rr:ak G.w O h' (vs.push v).toList (xs++[d]):=by rw[Array.toList_push];exact((r.keep x1.keep).append (.cons r1 .nil)).but (cY (aQ hs')) ht
 obtain⟨F2,sp⟩:=F1.turned (hn.1▸hno) ha hg l1 hs' pl' rr (by simp;omega);exact q _ own O M _ rfl hn F2 (bW.trans F.mO x1.step sp)
end
end
section
section
variable {G:GC}{A:Around}{S:cU}{env:Env}{own:dM}{O Oc M:a9}{ρ:aF}{d:D}{ns:Nk}
set_option tactic.hygienic true in
theorem JM {x:Str}{idx:Expr}{np sp pos:Pos}{xs:List D}{i:Int}{j:Nat}(N:ee G env n x)(hno:n∈ns.l)(hg:ρ.get n=some (.list xs))(hi:Fi G A idx env ns ρ (.int i))(hj:seqIndex? i xs.length=some j) :
  cr G A (exec (.Delete [.Subscript (.Name x np) idx sp] pos) env) env Oc ns ρ (.n (ρ.set n (.list (xs.eraseIdx j)))):=fun own O M s hn F Q E q _=>by
 refine wpAny_Delete (wpAny_deleteEach_cons (wpAny_delete_Subscript (iM N F.inv (hn.1▸hno) hg fun a vs ha aO z l r=>hi own O hn s F.inv _ _ fun u s1 x1 r1=>?_)));obtain⟨t,rfl⟩:=r1.int_inv;have F1:=F.ext x1;have l1:=bj l x1.keep;have e:=r.length;simp only[i5]at e;obtain⟨hlt,hc⟩:=gW hj;have e63:(2:Int)^63=9223372036854775808:=by decide
 have hfit:Builtin.List.listFitsIndex i=true:=by
  unfold Builtin.List.listFitsIndex;rw[e63];rcases hc with⟨h0,h3⟩|⟨h0,h3,h4⟩
  .rw[dg (by omega),dg (by omega)];rfl
  .rw[dg (by omega),dg (by omega)];rfl
 refine wpAny_delItem_plain l1 hfit (by rw[e];exact hj) (fun h' pl' hs'=>wpAny_deleteEach_nil ?_) (by rw[aT,e];exact z);have ht:bD O [a] s1.heap:=fun b m o e=>by
  rcases aS m with rfl
  exact F1.turn b (F.mo n b ha) o e
 have ev:(vs.eraseIdxIfInBounds j).toList=vs.toList.eraseIdx j:=by simp
 have rr:ak G.w O h' (vs.eraseIdxIfInBounds j).toList (xs.eraseIdx j):=by
  rw[ev];refine ak.but ?_ (cY (aQ hs')) ht;have r0:=r.keep x1.keep;refine .of_get (by rw[List.length_eraseIdx,List.length_eraseIdx,r0.length]) fun k v d e1 e2=>?_;rw[List.getElem?_eraseIdx]at e1 e2;split at e1
  .rename_i c;rw[if_pos c]at e2;obtain⟨v',e3,r3⟩:=r0.get _ d e2;rw[e1]at e3;obtain rfl:=aG e3;exact r3
  .rename_i c;rw[if_neg c]at e2;obtain⟨v',e3,r3⟩:=r0.get _ d e2;rw[e1]at e3;obtain rfl:=aG e3;exact r3
 obtain⟨F2,sp⟩:=F1.turned (hn.1▸hno) ha hg l1 hs' pl' rr (aJ (by rw[List.length_eraseIdx];split <;> exact Nat.sub_le _ _) z);exact q _ own O M _ rfl hn F2 (bW.trans F.mO x1.step sp)
theorem JR (N:ee G env n x)(hno:n∈ns.l)(hg:ρ.get n=some (.list xs))(hp:(ap.endLine==p.line)=true)(hfn:env.scope.kind=.function) :
  cr G A (exec (.Expr (.Call (.Attribute (.Name x np) "reverse" ap) [] [] p) pos) env) env Oc ns ρ (.n (ρ.set n (.list xs.reverse))):=fun own O M s hn F Q E q _=>by
 refine wpAny_Expr ?_ (gi hfn) (cg rfl _ _ _);refine gh rfl rfl (show 0<30 by decide) hp (iM N F.inv (hn.1▸hno) hg fun a vs ha aO z l r pl=>?_);obtain⟨n0,e0⟩:=id l;refine getMethod_builtin (T:="list") ⟨_,e0,rfl⟩ PySem.F.plainAttrs_list PySem.F.slot_list_reverse PySem.F.type_list_reverse (fun a' e'=>by cases e';exact⟨_,e0,rfl⟩) ⟨_,rfl,spliced_nil ?_⟩;have e:=r.length;simp only[i5]at e;refine call_meets PySem.F.slot_list_reverse ⟨_,e0,rfl⟩ PySem.F.entry_list_reverse (PySem.F.args_list_reverse_1 _) (AutoListH.list_reverse_list_0 a vs n0 (by rw[aT,e];exact z)) ⟨e0, ?_⟩;have hs':Heap.SameBut a s.heap (s.heap.update a (Obj.mapSeq fun x=>x.reverse)):=Heap.SameBut.update ..;have pl':(s.heap.update a (Obj.mapSeq fun x=>x.reverse)).PlainList a vs.reverse:=⟨_,IsL.update (n:=n0) e0 _⟩;have ht:bD O [a] s.heap:=fun b m o e=>by
  rcases aS m with rfl
  exact F.turn b (F.mo n b ha) o e
 have rr:ak G.w O (s.heap.update a (Obj.mapSeq fun x=>x.reverse)) vs.reverse.toList xs.reverse:=by
  refine ak.but ?_ (cY (aQ hs')) ht;rw[Array.toList_reverse];refine .of_get (by simp[e]) fun i v d e1 e2=>?_;have hi:i<xs.length:=by have:=(List.getElem?_eq_some_iff.mp e2).1;simpa using this
  rw[List.getElem?_reverse (by rw[r.length];exact hi),r.length]at e1;rw[List.getElem?_reverse hi]at e2;obtain⟨v',e3,r3⟩:=r.get _ d e2;rw[e1]at e3;obtain rfl:=aG e3;exact r3
 obtain⟨F2,sp⟩:=F.turned (hn.1▸hno) ha hg l hs' pl' rr (by simpa using z);exact q _ own O M _ rfl hn F2 sp
end
end
end Internal
section
open PySem.Builtin PySem.Builtin.Str
namespace Internal
section
variable {G:GC}{A:Around}{S:cU}{env:Env}{own:dM}{O Oc M:a9}{ρ:aF}{d:D}{ns:Nk}
theorem j8:∀{tk:Nat}{l:List Str},sokAll (l.map .str)=true->ak w O h (strsFrom tk l) (l.map .str)
 |_,[],_=>.nil
 |tk,x::r,hs=>by obtain⟨h1,h2⟩:=cE (show(sok (.str x)&&sokAll (r.map .str))=true from hs);exact .cons (.str h1) (j8 h2)
theorem wA (B:a5 G s.heap)(p:0<s.toks)(ov:dH O s.heap)(hx:x.length<=16777216)(hy:0<y.length)(hs:sok (.list ((Txt.split x y).map .str))=true):se G A O (call (.builtin "str.split") [.str x t, .str y u]) s ((Txt.split x y).map .str):=fun Q E q=>by
 obtain⟨hl,hsa⟩:=cE (show(decide (((Txt.split x y).map PyData.str).length<=16777216)&&sokAll ((Txt.split x y).map .str))=true from hs);have hl:=bJ hl;have hy0:(y.length==0)=false:=by simpa using Nat.pos_iff_ne_zero.mp hy
 have key:∀(vs:Array Value)(k:Nat),0<k->ak G.w O s.heap vs.toList ((Txt.split x y).map .str)->Q (.ref s.heap.objs.size) { s with heap:=s.heap.push { cls:=.type "list",data:=.seq vs },toks:=k }:=fun vs k hk r=>by have kk:∀b o,s.heap.get? b=some o->(s.heap.push { cls:=.type "list",data:=.seq vs }).get? b=some o:=fun b o e=>gv _ e;exact q _ s.heap.objs.size vs (.all B kk hk) (aD _) ⟨0,iV _ rfl⟩ ((r.new (aD _)).keep (.of kk))
 cases h1:(decide (x.length<y.length) || decide (strKind x<strKind y))
 .cases hf:(occurrences x y 0 x.length (x.length+1)).isEmpty
  .have e:Txt.split x y=partsBetween x (occurrences x y 0 x.length (x.length+1)) y.length:=(if_neg (ne_true_of_eq_false h1)).trans (if_neg (ne_true_of_eq_false hf));rw[e]at hsa hl key;refine call_meets PySem.F.slot_str_split (typeIs_str _ _ _) PySem.F.entry_str_split (PySem.F.args_str_split_2 _ _) (meets_str_split_sep x y t u h1 hy0 hf (by rw[aT];exact hx) (by rw[aT];simpa using hl)) ?_;exact key _ _ (kS p (nr _ _)) (by simpa using j8 hsa)
  .have e:Txt.split x y=[x]:=(if_neg (ne_true_of_eq_false h1)).trans (if_pos hf);rw[e]at hsa key;refine call_meets PySem.F.slot_str_split (typeIs_str _ _ _) PySem.F.entry_str_split (PySem.F.args_str_split_2 _ _) (meets_str_split_not_found x y t u h1 hy0 hf) ?_;exact key #[.str x t] s.toks p (.cons (.str (by simpa [sokAll]using hsa)) .nil)
 .have e:Txt.split x y=[x]:=if_pos h1;rw[e]at hsa key;refine call_meets PySem.F.slot_str_split (typeIs_str _ _ _) PySem.F.entry_str_split (PySem.F.args_str_split_2 _ _) (meets_str_split_cannot_occur x y t u h1) ?_;exact key #[.str x t] s.toks p (.cons (.str (by simpa [sokAll]using hsa)) .nil)
theorem AT (I:cV G A env own O ρ s)(hb:gS a=true)(hst:aY b=true)(hp:(ap.endLine==p.line)=true)(ha:bq G A a env own O ρ (.str x))(h:bq G A b env own O ρ (.str y))(hy:0<y.length)(hs:sok (.list ((Txt.split x y).map .str))=true) :
  se G A O (eval (.Call (.Attribute a "split" ap) [b] [] p) env) s ((Txt.split x y).map .str):=fun Q E q=>by
 refine gh hb (show(aY b&&true)=true by rw[hst];rfl) (show 1<30 by decide) hp (ha s I _ _ fun u s1 x1 r1 pl=>?_);have hx:=(sok_str.mp r1.sok).2;obtain⟨t,rfl⟩:=r1.str_inv;refine GM.split ⟨_,rfl, ?_⟩;rw[cb hst];refine spliced_cons (h s1 (I.ext x1) _ _ fun v s2 x2 r2=>spliced_nil ?_);obtain⟨t',rfl⟩:=r2.str_inv;have x12:=x1.trans x2;exact wA x12.base x12.pos (I.ext x12).ov hx hy hs _ _ fun s3 D vs x3 h3 pl3 r3=>q s3 D vs (x12.trans x3) (x12.back _ h3) pl3 r3
end
end Internal
end
namespace Internal
section
section
variable {G:GC}{A:Around}{S:cU}{env:Env}{own:dM}{O Oc M:a9}{ρ:aF}{d:D}{ns:Nk}
theorem FI.addC (F:FI G A env own O Oc M ρ s)(x:Ext G s s')(hC:s.heap.get? C=none)(hC':∃o,s'.heap.get? C=some o/\gq o):FI G A env own (C::O) Oc M ρ s':=by
 have F1:=F.ext x;refine⟨⟨F.inv.ok,F.inv.hh,x.base,x.pos,fun a m=>?_,(F.inv.envr.news (N:=[C]) fun a m=>by rw[aS m];exact hC).keep x.keep⟩,fun a m=>eh _ (F.mO a m),F.ml,F.mc,F.mo,F.m0,F1.mt,fun a m=>eh _ (F.cO a m),F.cM,F.inj⟩;rcases bA m with rfl|m
 .exact hC'
 .exact F1.inv.ov a m
set_option tactic.hygienic true in
theorem gM.sub (x:gM G env own O ρ h)(k:∀a∈O',a∈O)(hl:env.locals∈O')(hc:∀y c,env.cells.lookup y=some c->c∈O')(ho:∀n a,own.at' n=some a->a∈O'):gM G env own O' ρ h:=by
 have sr:∀{n v d},cL G.w own n O h v d->cL G.w own n O' h v d:=fun{n v d} r=>by
  unfold cL at *;split at r
  .rename_i q;rw[if_pos q];rcases r with⟨a,vs,xs,y,e,m,q,z,l,r⟩|⟨a,ss,e,m,q,l,z⟩
   .exact .inl ⟨a,vs,xs,y,e,ho _ _ y,q,z,l,r.sub k⟩
   .exact .inr ⟨a,ss,e,fun mm=>m (k a mm),q,l,z⟩
  .rename_i q;rw[if_neg q];exact r.sub k
 exact{ x with
  lin:=hl
  oin:=ho
  cin:=fun y c e=>⟨hc y c e,(x.cin y c e).2⟩
  ns:=let⟨m,a,b⟩:=x.ns;⟨m,a,fun n y d h1 h2 h3=>let⟨v,e,r⟩:=b n y d h1 h2 h3;⟨v,e,sr r⟩⟩
  cl:=fun n y d h1 h2 h3=>let⟨c,v,e,q,r⟩:=x.cl n y d h1 h2 h3;⟨c,v,e,q,sr r⟩ }
theorem FI.letC (F:FI G A env own (C::O) Oc M ρ s)(hO:C∉O)(hMO:∀a∈M,a∈O)(hc:∀a∈Oc,a∈O)(h0:G.h₀.get? C=none)(hm:∃m,s.heap.Ns C m)(hs':Heap.SameBut C s.heap h'):FI G A env own O Oc M ρ { s with heap:=h' }:=by
 have hM:C∉M:=fun m=>hO (hMO C m);obtain⟨m,o,es,ep,e,dd,_⟩:=hm;have ht:bD (C::O) [C] s.heap:=fun b m o' e'=>by
  rcases aS m with rfl
  rw[e]at e';obtain rfl:=aG e';exact⟨dY dd,fun _=>dX⟩
 have kb:aL [C] s.heap h':=cY (aQ hs');have B:a5 G h':=F.inv.base.but (aQ hs') (fun b m=>by rcases aS m with rfl;exact h0) fun b m o e=>(ht b m o e).1;have E1:=F.inv.envr.but kb ht (fun m=>hM (aS m▸F.ml)) (fun y c e m=>hM (aS m▸F.mc y c e)) fun n a _ e _ m=>hM (aS m▸F.mo n a e);refine⟨⟨F.inv.ok,F.inv.hh,B,F.inv.pos,fun a m=>?_,E1.sub (fun a m=>eh _ m) (hMO _ F.ml) (fun y c e=>hMO _ (F.mc y c e)) fun n a e=>hMO _ (F.mo n a e)⟩,hMO,F.ml,F.mc,F.mo,F.m0,fun a m o' e'=>?_,hc,F.cM,F.inj⟩
 .obtain⟨o2,e2,q⟩:=F.inv.ov a (eh _ m);exact⟨o2,kb a o2 (fun q=>hO (aS q▸m)) e2 q,q⟩
 .have c:a∉[C]:=fun q=>hM (aS q▸m);obtain⟨o2,e2,q⟩:=F.back a m;have e':h'.get? a=some o':=e';rw[kb a o2 c e2 q]at e';obtain rfl:=aG e';exact F.mt a m _ e2
theorem xP (X:∀own,own.is ns->bV G A S c env own)(hch:a7 c (.p elt gs) (.ListComp e gens scope lp)=true)(hev:ev S ρ (.p elt gs)=some d)
  (nm:G.names[n]?=some x)(hk:env.kindOf x=some k)(hkk:k=.local\/k=.cell)(hno:n∉ns.l)(hfn:env.scope.kind=.function)(hs:iZ env.kindOf x np (.ListComp e gens scope lp)=true) :
  cr G A (exec (.Assign [.Name x np] (.ListComp e gens scope lp) pos) env) env Oc ns ρ (.n (ρ.set n d)):=fun own O M s hn F Q E q _=>by
 rw[exec_Assign_Name_used _ _ _ _ (by rw[ix hfn,hs])];refine aH (wpAny_standAt (aH ?_));show wpAny _ A (comprehension (.ListComp e gens scope lp) scope env (firstIterPos gens lp) (newList []) (firstAsync gens) (firstIter gens env) (some (assign (.Name x np) env)) >>= fun _=>pure ()) _ _ s;refine aH (uw (X own hn) hch hev F.inv fun C D s' vs out hd hl xs h1 h2 h3 h4 h5 h6 h7 h8 h9=>?_);subst hd;obtain⟨mm,hmm⟩:=h6;have hsol:∀{h:Heap} {m},h.Ns C m->∃o,h.get? C=some o/\gq o:=fun{h m} ⟨o,es,ep,e,dd,_⟩=>⟨o,e, .inr fun vs q=>by rw[dd]at q;cases q⟩;have FC:=F.addC xs h2 (hsol hmm);have hCM:C∉M:=fun m=>by obtain⟨o,e,_⟩:=F.back C m;rw[h2]at e;exact nn e
 have rD:az G.w (C::O) s'.heap (.ref D) (.list out):=by
  refine .list_of hl (fun m=>?_) h7.isList (fun o e=>by obtain⟨n0,e'⟩:=h7;rw[e']at e;obtain rfl:=aG e;rfl) (h8.sub fun a m=>?_)
  .rcases bA m with m|m
   .exact h1 m.symm
   .obtain⟨o,e,_⟩:=F.inv.ov D m;rw[h3]at e;exact nn e
  .rcases bA m with rfl|m
   .exact dX
   .exact eh _ (eh _ m)
 refine wpAny_assign_Name (d5 (W:=wtg G env [n]) FC.inv nm hk hkk (gX (hn.1▸hno) rD) ⟨dX,fun hc c e=>(gK (G:=G) (env:=env) [n]).2 n (by simp) x c nm hc e⟩ fun s2 x2 _ I2=>?_);have F2:=FC.stored x2 I2;have hCw:C∉wtg G env [n]:=fun m=>hCM (FC.wtg C m);have hm2:=x2.keep.ns hCw hmm;refine⟨mm,hm2,fun h' hs'=>bg (bg ?_)⟩;have hCO:C∉O:=fun m=>by obtain⟨o,e,_⟩:=F.inv.ov C m;rw[h2]at e;exact nn e
 have F3:=F2.letC hCO F.mO F.cO h4 ⟨mm,hm2⟩ hs';refine q _ own O M _ rfl hn F3 ⟨?_,fun _ m=>m,fun _ m=>m,fun _ m=>.inl m,fun _ m=>.inl m⟩;have y:bI G (C::M) s { s2 with heap:=h' }:=by refine(xs.sext.trans (x2.mono fun a m=>eh _ (FC.wtg a m))).trans ⟨⟨rfl,rfl⟩,(cY (aQ hs')).mono fun a m=>by rcases aS m with rfl;exact dX,F3.inv.base,F3.inv.pos,fun b m e=>bw (fun o q=>aQ hs' b o (fun mm=>m (by rcases aS mm with rfl;exact dX)) q) e⟩
 refine⟨y.same,fun b o m e c=>y.keep b o (fun mm=>?_) e c,y.base,y.pos,fun b m e=>?_⟩
 .rcases bA mm with rfl|mm
  .rw[h2]at e;exact nn e
  .exact m mm
 .by_cases c:b=C
  .rw[c];exact h2
  .exact y.back b (fun q=>(bA q).elim c m) e
end
end
section
section
variable {G:GC}{A:Around}{S:cU}{env:Env}{own:dM}{O Oc M:a9}{ρ:aF}{d:D}{ns:Nk}
theorem JN (N:ee G env n x)(hno:n∈ns.l)(hg:ρ.get n=some (.list xs))(hp:(ap.endLine==p.line)=true)(hst:aY elt=true)(hfn:env.scope.kind=.function)(h:Fi G A elt env ns ρ (.list ys))(hl:xs.length+ys.length<1000000) :
  cr G A (exec (.Expr (.Call (.Attribute (.Name x np) "extend" ap) [elt] [] p) pos) env) env Oc ns ρ (.n (ρ.set n (.list (xs++ys)))):=fun own O M s hn F Q E q _=>by
 refine wpAny_Expr ?_ (gi hfn) (cg rfl _ _ _);refine gh rfl (show(aY elt&&true)=true by rw[hst];rfl) (show 1<30 by decide) hp (iM N F.inv (hn.1▸hno) hg fun a vs ha aO z l r pl=>?_);obtain⟨n0,e0⟩:=id l;refine getMethod_builtin (T:="list") ⟨_,e0,rfl⟩ PySem.F.plainAttrs_list PySem.F.slot_list_extend PySem.F.type_list_extend (fun a' e'=>by cases e';exact⟨_,e0,rfl⟩) ⟨_,rfl, ?_⟩;rw[cb hst];refine spliced_cons (h own O hn s F.inv _ _ fun v s1 x1 r1=>spliced_nil ?_);obtain⟨b,us,rfl,hbO,lb,rb⟩:=r1.list_inv;have F1:=F.ext x1;have l1:=bj l x1.keep;obtain⟨n1,e1⟩:=id l1;obtain⟨ob,hob,hcb,nb,hdb⟩:=id lb;have e:=r.length;have eb:=rb.length;simp only[i5]at e eb;have hsz:vs.size+us.size<=1000000:=by rw[e,eb];exact il hl
 have hab:a≠b:=fun q=>hbO (q▸aO);refine wpAny_call_entry PySem.F.slot_list_extend ⟨_,e1,rfl⟩ PySem.F.entry_list_extend ?_ (PySem.F.args_list_extend_2 _ _);unfold Builtin.«list.extend»;refine aH (bg ?_);dsimp only;unfold Builtin.List.listExtendWith;refine aH (wpAny_typeOf (T:="list") ⟨ob,hob,hcb⟩ ?_);have ht:(Value.type "list" == Value.type "list")=true:=by rfl
 rw[if_pos (by rw[ht,Bool.or_true];rfl)];refine aH (listItems_at hob hdb ?_);refine aH (listItems_at e1 rfl ?_);rw[if_neg (extend_door (a:=vs) (b:=us) (by rw[aT];exact aJ hsz (by decide)))];refine aH (listUpdate_at e1 rfl ?_ (by rw[aT];exact aJ (aJ (nr _ _) hsz) (by decide)) (by rw[aT,Array.size_append];exact aJ hsz (by decide)));refine bg ⟨_,rfl, ?_⟩;have hs':Heap.SameBut a s1.heap (s1.heap.update a (Obj.mapSeq fun x=>x++us)):=Heap.SameBut.update ..;have pl':(s1.heap.update a (Obj.mapSeq fun x=>x++us)).PlainList a (vs++us):=⟨_,IsL.update (n:=n1) e1 _⟩;have ht:bD O [a] s1.heap:=fun b m o e=>by
  rcases aS m with rfl
  exact F1.turn b (F.mo n b ha) o e
 have rr:ak G.w O (s1.heap.update a (Obj.mapSeq fun x=>x++us)) (vs++us).toList (xs++ys):=by rw[Array.toList_append];exact((r.keep x1.keep).append rb).but (cY (aQ hs')) ht
 obtain⟨F2,sp⟩:=F1.turned (hn.1▸hno) ha hg l1 hs' pl' rr (by rw[dR];exact aJ (il hl) (by decide));exact q _ own O M _ rfl hn F2 (bW.trans F.mO x1.step sp)
inductive KI (G:GC)(A:Around)(env:Env)(O Oc M:a9)(I a:Addr)(n:Nat)(ns:Nk)(f:D->aF->Option gZ)(out:gZ)(s s1:Shared)(m:Nat)(s':Shared):Prop
 |mk (i:Nat) (ρi:aF)(own':dM)(O' M':a9)(hg:ox f n m i ρi=some out)(L:LI G A env O Oc M [I] ⟨ns.l,some (n,a)⟩ s s1 ρi own' O' M' s')(st':s'.heap.IsListIter I a i)
theorem Jp (N:ee G env n y)(I:cV G A env own O ρ s)(ho:n∈own.ns)(hg:ρ.get n=some (.list xs)):∃a vs,own.at' n=some a/\a∈O/\s.heap.PlainList a vs/\ak G.w O s.heap vs.toList xs:=by
 have un:∀{v},cL G.w own n O s.heap v (.list xs)->∃a vs,own.at' n=some a/\a∈O/\s.heap.PlainList a vs/\ak G.w O s.heap vs.toList xs:=fun r=>by
  unfold cL at r;rw[if_pos ho]at r;rcases r with⟨a,vs,xs,h1,_,h3,h4,_,h6,h7⟩|⟨_,_,_,_,e,_⟩
  .cases h4;exact⟨a,vs,h1,h3,h6,h7⟩
  .exact nomatch e
 obtain⟨k,hk,hkk⟩:=N.kd;rcases hkk with rfl|hkk
 .obtain⟨m,_,hv⟩:=I.envr.ns;obtain⟨v,_,r⟩:=hv n y _ N.nm hk hg;exact un r
 .obtain⟨c,v,_,_,r⟩:=I.envr.cl n y _ N.nm (by rcases hkk with rfl|rfl;exact .inl hk;exact .inr hk) hg;exact un r
theorem Ha {n K:Nat}{tg:aN}{xs:List D}{f:D->aF->Option gZ}{out:gZ}(N:ee G env n y)(hno:n∈ns.l)(hp0:ns.p=none)(hg:ρ.get n=some (.list xs))(hnt:cK target=true)
  (ht:∀own,own.ns=ns.l->cN G env own target tg)(hb:∀a x ρ' o,f x ρ'=some o->∃ρ'',bx ρ' tg x=some ρ''/\cr G A (execs body env) env Oc ⟨ns.l,some (n,a)⟩ ρ'' o)(hf:ox f n K 0 ρ=some out) :
  cr G A (exec (.For target (.Name y np) body [] pos) env) env Oc ns ρ out:=fun own O M s hn F Q E q1 q2=>by
 refine wpAny_For (iM N F.inv (hn.1▸hno) hg fun a us ha aO z pl rv=>wpAny_pyIter_list pl.isList ?_) (fun x=>jK rfl env x);generalize hs1:({ s with heap:=s.heap.push { cls:=.type "list_iterator",data:=.fields #[.ref a, .int 0 0] } }:Shared)=s1;have gext:Ext G s s1:=by rw[<- hs1];exact .all (t:=s.toks) F.inv.base (fun b o e=>gv _ e) F.inv.pos
 have st0:s1.heap.IsListIter s.heap.objs.size a 0:=by rw[<- hs1];exact⟨_,iV _ rfl,rfl,rfl⟩
 generalize hI:s.heap.objs.size=I at st0 ⊢;have hIn:s.heap.get? I=none:=by rw[<- hI];exact aD _
 have h1:∀b∈[I],s.heap.get? b=none:=fun b m=>by rw[aS m];exact hIn
 refine codeAny_forLoop_any (KI G A env O Oc M I a n ns f out s s1) (fun m s' hI=>?_) K
  ⟨0,ρ,own,O,M,hf, .start F gext h1 ⟨hn.1,fun p e=>aG e▸ha⟩,st0⟩
 obtain⟨i,ρi,own',O',M',hg,L,st'⟩:=hI;have hwz:∀b∈[I],∀o,s'.heap.get? b=some o->HF false o:=fun b m o e=>by obtain⟨o',e',c,dd⟩:=st';rw[aS m,e']at e;obtain rfl:=aG e;exact jD c dd (by decide)
 cases m with
 |zero=>exact Bz hg
 |succ m =>
  refine cZ hg fun xs' gx hg=>?_;obtain⟨a',vs',ha',aO',pl',rv'⟩:=Jp N L.F.inv (L.hn.1▸hno) gx;obtain rfl:a'=a:=aG (ha'.symm.trans (L.hn.2 _ rfl));cases hx:xs'[i]? with
  |none =>
   rw[hx]at hg;obtain rfl:=aG hg;have hv:vs'[i]?=none:=by rw[<- Array.getElem?_toList];exact Dm (by rw[rv'.length];exact List.getElem?_eq_none_iff.mp hx)
   refine wpAny_pyNext_list_end L.F.inv.hh st' pl'.isList hv fun g hk=>wpAny_execs_nil ?_;obtain⟨L2,_⟩:=L.turn hwz (fun b o m e=>hk b o (fun q=>m (List.mem_singleton.mpr q)) e) L.F.inv.pos;exact q1 ρi own' O' M' _ rfl ⟨L.hn.1,fun p e=>by rw[hp0]at e;exact nn e⟩ L2.F L2.done
  |some d =>
   rw[hx]at hg;obtain⟨v,hv,rv⟩:=rv'.get i d hx;rw[Array.getElem?_toList]at hv;refine wpAny_pyNext_list_item st' pl'.isList hv fun g hit sb=>pH hnt hit ?_;have hk:∀b o,b∉[I]->s'.heap.get? b=some o->g.get? b=some o:=fun b o m e=>sb.extBut b o (fun q=>m (List.mem_singleton.mpr q)) e;obtain⟨L2,t2⟩:=L.turn hwz hk L.F.inv.pos;have ri:az G.w O' g v d:=rv.but (fun b o m e _=>hk b o m e) t2;have hg:qA (f d ρi) (ox f n m (i+1))=some out:=hg;cases hfo:f d ρi with
   |none=>rw[hfo]at hg;exact Bz hg
   |some o =>
    rw[hfo]at hg;obtain⟨ρ'',hbd,hst⟩:=hb a' _ _ _ hfo;refine fB (W:=wtg G env tg) (ht own' L.hn.1) L2.F.inv ri hbd (gK tg) fun s3 x3 k3 I3=>?_;have L3:=L2.stored x3 I3;have itk:∀(t t':Shared)(j:Nat),t.heap.IsListIter I a' j->aL M' t.heap t'.heap->t'.heap.IsListIter I a' j:=fun t t' j ⟨o,e,c,dd⟩ kb=>⟨o,kb I o (L.wM I (.head _)) e (cA c),c,dd⟩;have st3:=itk { s' with heap:=g } s3 _ hit (L2.F.step x3).sx.keep;refine hst own' O' M' s3 L.hn L3.F _ _ (fun ρ3 own3 O3 M3 s4 e3 hn3 F4 sp4=>?_) (fun d' v' s4 e3 sx4 r4=>?_)
    .subst e3;exact⟨m,Nat.lt_succ_self m,i+1,ρ3,own3,O3,M3,hg,L3.next (fun a q e=>by obtain⟨o,e',_⟩:=st3;rw[aS q,e']at e;exact Bz e.symm) hn3 F4 sp4,itk s3 s4 _ st3 sp4.sx.keep⟩
    .subst e3;obtain rfl:=aG hg;exact q2 d' v' s4 rfl (L3.back sx4) r4
theorem Ex (X:∀own,own.is ns->bV G A S c env own)(hch:a7 c (.p elt gs) (.ListComp e gens scope lp)=true)(hev:ev S ρ (.p elt gs)=some (.list ys))
  (nm:G.names[n]?=some x)(hk:env.kindOf x=some k)(hkk:k=.local\/k=.cell)(hno:n∈ns.l)(hpn:ns.free n)(hfn:env.scope.kind=.function)(hs:iZ env.kindOf x np (.ListComp e gens scope lp)=true) :
  cr G A (exec (.Assign [.Name x np] (.ListComp e gens scope lp) pos) env) env Oc ns ρ (.n (ρ.set n (.list ys))):=fun own O M s hn F Q E q _=>by
 rw[exec_Assign_Name_used _ _ _ _ (by rw[ix hfn,hs])];refine aH (wpAny_standAt (aH ?_));show wpAny _ A (comprehension (.ListComp e gens scope lp) scope env (firstIterPos gens lp) (newList []) (firstAsync gens) (firstIter gens env) (some (assign (.Name x np) env)) >>= fun _=>pure ()) _ _ s;refine aH (uw (X own hn) hch hev F.inv fun C D s' vs out hd hl xs h1 h2 h3 h4 h5 h6 h7 h8 h9=>?_);obtain rfl:=PyData.list.inj hd;obtain⟨mm,hmm⟩:=h6;have hsol:∀{h:Heap} {m},h.Ns C m->∃o,h.get? C=some o/\gq o:=fun{h m} ⟨o,es,ep,e,dd,_⟩=>⟨o,e, .inr fun vs q=>by rw[dd]at q;cases q⟩;have FC:=F.addC xs h2 (hsol hmm);have hCM:C∉M:=fun m=>by obtain⟨o,e,_⟩:=F.back C m;rw[h2]at e;exact nn e
 have hDO:D∉C::O:=fun m=>(bA m).elim (fun m=>h1 m.symm) fun m=>F.inv.ov.new h3 m;obtain⟨FD,sr⟩:=FC.ownAt (n:=n) (O2:=C::D::O) hDO h5 (fun a m=>by
   rcases bA m with rfl|m
   .exact .inr (.head _)
   .exact(bA m).imp id fun m=>.tail _ m) (.tail _ (.head _)) (fun a m=>by
   rcases bA m with rfl|m
   .exact .head _
   .exact .tail _ (.tail _ m)) h9.envr h7 h8 hl (hn.1▸hno)
 refine wpAny_assign_Name (d5 (W:=wtg G env [n]) FD.inv nm hk hkk sr ⟨dX,fun hc c e=>(gK (G:=G) (env:=env) [n]).2 n (by simp) x c nm hc e⟩ fun s2 x2 _ I2=>?_);have F2:=FD.stored x2 I2;have hCw:C∉wtg G env [n]:=fun m=>hCM (FC.wtg C m);have hm2:=x2.keep.ns hCw hmm;refine⟨mm,hm2,fun h' hs'=>bg (bg ?_)⟩;have hCO:C∉D::O:=fun m=>(bA m).elim h1 fun m=>F.inv.ov.new h2 m;have F3:=F2.letC hCO (fun a m=>(bA m).elim (fun e=>e▸.head _) fun m=>.tail _ (F.mO a m)) (fun a m=>.tail _ (F.cO a m)) h4 ⟨mm,hm2⟩ hs';refine q _ (own.put n D) (D::O) (D::M) _ rfl ⟨hn.1,fun p e=>(if_neg (hpn p e)).trans (hn.2 p e)⟩ (F3.weaken fun m d e=>by rw[zF];exact e) ⟨?_,fun a m=>.tail _ m,fun a m=>.tail _ m,fun a m=>(bA m).elim (fun e=>.inr (e▸h3)) .inl,fun a m=>(bA m).elim (fun e=>.inr (e▸h3)) .inl⟩;have y:bI G (C::M) s { s2 with heap:=h' }:=by refine(xs.sext.trans (x2.mono fun a m=>eh _ (FC.wtg a m))).trans ⟨⟨rfl,rfl⟩,(cY (aQ hs')).mono fun a m=>by rcases aS m with rfl;exact dX,F3.inv.base,F3.inv.pos,fun b m e=>bw (fun o q=>aQ hs' b o (fun mm=>m (by rcases aS mm with rfl;exact dX)) q) e⟩
 refine⟨y.same,fun b o m e c=>y.keep b o (fun mm=>?_) e c,y.base,y.pos,fun b m e=>?_⟩
 .rcases bA mm with rfl|mm
  .rw[h2]at e;exact nn e
  .exact m mm
 .by_cases c:b=C
  .rw[c];exact h2
  .exact y.back b (fun q=>(bA q).elim c m) e
end
end
section
section
variable {G:GC}{A:Around}{S:cU}{env:Env}{own:dM}{O Oc M:a9}{ρ:aF}{d:D}{ns:Nk}{c:Cx}
def p9 (c:Cx)(e:E)(gs:Gs)(x:Expr):Bool:=jR x fun ke gens scope _=>(decide (scope.kind=.function)&&d9 c.nm c.sc scope.names (j1 gs)&&decide ((j1 gs).Nodup)&&a7 { c with sc:=hG scope.names c.sc } e ke&&j5 c { c with sc:=hG scope.names c.sc } scope.names true gs gens)
theorem vQ {ss:List Str}{s:Shared}{Q E:ba}(X:bV G A S c env own)(h:p9 c e gs x=true)(he:nk S ρ e gs=some ss)(I:cV G A env own O ρ s)
  (q:∀D s',Ext G s s'->s.heap.get? D=none->dz G.w s'.heap D ss->(∀x∈ss,sok (.str x)=true)->Q (.ref D) s'):wpAny (bC G) A (eval x env) Q E s:=by
 refine gE h fun ke gens scope sp h=>nf h fun h2 h3 h4 h5 h6=>aq he fun out hout he=>?_;revert q;refine eg (P:=fun ss=>(∀D s',Ext G s s'->s.heap.get? D=none->dz G.w s'.heap D ss->(∀x∈ss,sok (.str x)=true)->Q (.ref D) s')->_) he fun hl0 q=>?_;obtain⟨hl,hz⟩:=cE hl0;clear hl0;rcases gs with⟨⟩|⟨tg,src,ifs,r⟩
 .exact ff hz
 .exact vP (aE e) (eL src) (a8 ifs) (ii r) X h2 h3 h4 h5 h6 hout (bJ hl) hz I fun D s' x1 hD ac=>q D s' x1 hD ac.1 (mP (l:=[]) ac.2 (fun _ m=>nomatch m))
theorem He (m:y∈fh l x):y∈l\/y=x:=by
 unfold fh at m;by_cases c:l.any (· == x)=true
 .rw[if_pos c]at m;exact .inl m
 .rw[if_neg c]at m;exact(cy m).imp id aS
theorem Hb (X:∀own,own.ns=ns.l->bV G A S c env own)(h1:p9 c e1 g1 x1=true)(h2:p9 c e2 g2 x2=true)(he1:nk S ρ e1 g1=some s1)(he2:nk S ρ e2 g2=some s2)
  (l1:s1.length<=3)(l2:s2.length<=1)(nm:G.names[n]?=some x)(hk:env.kindOf x=some k)(hkk:k=.local\/k=.cell)(hno:n∈ns.l)(hfn:env.scope.kind=.function) :
  cr G A (exec (.Assign [.Name x np] (.BinOp x1 .BitOr x2 bp) pos) env) env Oc ns ρ (.n (ρ.set n (.tuple ((s2.foldl fh s1).map .str)))):=fun own O M s hn F Q E q _=>by
 refine wpAny_Assign_Name (wpAny_BinOp (vQ (X own hn.1) h1 he1 F.inv fun D1 t1 y1 f1 a1 z1=>vQ (X own hn.1) h2 he2 (F.inv.ext y1) fun D2 t2 y2 f2 a2 z2=>?_)) (by rw[ix hfn];rfl);obtain⟨o1,ho1,hc1,_⟩:=a1.obj;have a1':=a1.at fun o e=>y2.keep D1 o e (by rw[ho1]at e;obtain rfl:=aG e;exact .inl (by rw[hc1];nofun));refine JH a1' a2 (fun q=>by rw[q,f2]at ho1;exact nn ho1) l1 l2 fun D h' tk fD ht kp a3=>?_;have y12:=y1.trans y2;have y3:Ext G s { t2 with heap:=h',toks:=tk }:=y12.trans (.all y2.base kp (kS y2.pos ht));have F3:=F.ext y3;have hlen:(s2.foldl fh s1).length<=4/\∀y∈s2.foldl fh s1,sok (.str y)=true:=by
  rcases s2 with⟨⟩|⟨z,⟨⟩|⟨z',r⟩⟩
  .exact⟨Nat.le_succ_of_le l1,z1⟩
  .refine⟨?_,fun y m=>(He m).elim (z1 y) fun e=>z2 y (e▸.head _)⟩;show(fh s1 z).length<=4;unfold fh;by_cases c:s1.any (· == z)=true
   .rw[if_pos c];exact Nat.le_succ_of_le l1
   .rw[if_neg c,dR];exact Nat.succ_le_succ l1
  .exact absurd l2 (by simp)
 have sr:cL G.w own n O h' (.ref D) (.tuple ((s2.foldl fh s1).map .str)):=by unfold cL;rw[if_pos (hn.1▸hno)];exact .inr ⟨D,_,rfl,F.inv.ov.new (y12.back D fD),rfl,a3,hlen.1,hlen.2⟩
 refine d5 (W:=wtg G env [n]) F3.inv nm hk hkk sr ⟨dX,fun hc c e=>(gK (G:=G) (env:=env) [n]).2 n (by simp) x c nm hc e⟩ fun s2 x2 _ I2=>?_;exact q _ own O M s2 rfl hn (F3.stored x2 I2) (bW.trans F.mO y3.step (F3.step x2))
end
end
section
noncomputable def tgt (c:Cx)(n:Nat)(y:Str):Bool:=c.nm[n]?==some y&&(c.sc.lookup y==some .local || c.sc.lookup y==some .cell)
def JV (c:Cx)(es:dN)(e:Expr):Bool:=!(fX e fun _ _ _=>true) || fX e fun vs _ _=>(tK (fun y=>c.sc.lookup y) es vs).isSome
def DG (e:Expr):Bool:=!(fX e fun _ _ _=>true)
def Do (i:Int)(e:Expr):Bool:=et e fun k _ _=>(match k with|.int j=>i==j|_=>false)
def HM (i:Int)(x:Expr):Bool:=Do i x || jS x fun o a _=>(decide (o=.USub)&&Do (-i) a)
set_option tactic.hygienic true in
theorem Dp (h:Do i x=true):∃n p,x=.Constant (.int i) n p:=by
 refine cz (P:=fun x=>∃n p,x=.Constant (.int i) n p) h fun k n p h=>?_;rcases k with⟨⟩|⟨⟩
 case int j=>exact⟨n,p,by rw[eM h]⟩
 all_goals exact absurd h g6
noncomputable def C0 (e:E):Bool:=match e with|.p _ _=>true|_=>false
set_option tactic.hygienic true in
theorem Ah (h:C0 e=true):∃el gs,e=.p el gs:=by
 cases e
 case p el gs=>exact⟨el,gs,rfl⟩
 all_goals exact ff h
def jq (x:Stmt)(k:Expr->Expr->Bool):Bool:=rB x fun z v _=>fz z fun t=>k t v
@[elab_as_elim] theorem da {k:Expr->Expr->Bool}{P:Stmt->Prop}(h:jq x k=true)(q:∀t v p,k t v=true->P (.Assign [t] v p)):P x:=by refine pS h fun z v p h=>?_;exact aP h fun t h=>q t v p h
def tr (x:Stmt)(k:Str->Str->dN->Pos->Pos->Bool):Bool:=oJ x fun z _=>lE z fun o m ap es p=>bh o fun y _=>k y m es ap p
@[elab_as_elim] theorem js {k:Str->Str->dN->Pos->Pos->Bool}{P:Stmt->Prop}(h:tr x k=true)(q:∀y np m es ap p sp,k y m es ap p=true->P (.Expr (.Call (.Attribute (.Name y np) m ap) es [] p) sp)):P x:=by refine iK h fun z sp h=>?_;refine fW h fun o m ap es p h=>?_;exact aA h fun y np h=>q y np m es ap p sp h
def Lq (x:ExceptHandler)(k:Str->Str->Bool->Bool):Bool:=NR x fun a n b _=>iL a fun a=>bh a fun z _=>gB n <| fz b fun b=>jq b fun t v=>bh t fun y _=>et v fun v _ _=>zr v fun b=>k z y b
@[elab_as_elim] theorem A1 {k:Str->Str->Bool->Bool}{P:ExceptHandler->Prop}(h:Lq x k=true)(q:∀z y b zp yp n p p' hp,k z y b=true->P (.ExceptHandler (some (.Name z zp)) none [.Assign [.Name y yp] (.Constant (.bool b) n p) p'] hp)):P x:=by refine DN h fun a n b hp h=>?_;refine eH h fun a h=>?_;refine aA h fun z zp h=>?_;refine cW h fun h=>?_;refine aP h fun b h=>?_;refine da h fun t v p' h=>?_;refine aA h fun y yp h=>?_;refine cz h fun v n p h=>?_;exact td h fun b h=>q z y b zp yp n p p' hp h
def DP (x:Stmt)(k:Str->dN->Str->Str->Bool->Bool):Bool:=xj x fun b hs e f _=>fz b fun s=>oJ s fun s _=>ch s fun y es=>fz hs fun h=>Lq h fun z v b=>bK e <| bK f (k y es z v b)
@[elab_as_elim] theorem nF {k:Str->dN->Str->Str->Bool->Bool}{P:Stmt->Prop}(h:DP x k=true)(q:∀y es z v b np cp ep zp vp n p p' hp tp,k y es z v b=true->P (.Try [.Expr (.Call (.Name y np) es [] cp) ep] [.ExceptHandler (some (.Name z zp)) none [.Assign [.Name v vp] (.Constant (.bool b) n p) p'] hp] [] [] tp)):P x:=by refine nD h fun b hs e f tp h=>?_;refine aP h fun s h=>?_;refine iK h fun s ep h=>?_;refine aR h fun y np es cp h=>?_;refine aP h fun hd h=>?_;refine A1 h fun z v b zp vp n p p' hp h=>?_;refine aI h fun h=>?_;exact aI h fun h=>q y es z v b np cp ep zp vp n p p' hp tp h
def KB (c:Cx)(n:Nat):Bool:=bu c.own fun m r=>m==n&&r.contains n
def vA (c:Cx):Bool:=!(bu c.own fun m r=>r.contains m)
mutual
noncomputable def Ix (c:Cx):St->Stmt->Bool
 |.s n e,x=>jq x fun z v=>bh z fun y np=>(tgt c n y&&!c.own.contains n&&a7 c e v&&(C0 e || !iZ (fun y=>c.sc.lookup y) y np v))
 |.u tg e,x=>jq x fun z v=>fX z fun es k tp=>(tO c tg (.Tuple es k tp)&&decide tg.Nodup&&JV c es v&&a7 c e v)
 |.aug n o e,x=>lH x fun z1 o' v w2=>bh z1 fun y w1=>(decide (o=o')&&tgt c n y&&!c.own.contains n&&!(y==("__classdict__" : Str))&&a7 c e v)
 |.newO n es,x=>jq x fun z v=>bh z fun y _=>xh v fun xs _=>(tgt c n y&&c.own.contains n&&!KB c n&&eP c es xs)
 |.splitO n a b,x=>jq x fun z v=>bh z fun y _=>lE v fun ob m ap es p=>fz es fun arg=>(tgt c n y&&(c.own.contains n&&!KB c n)&&decide (m = "split")&&gS ob&&aY arg&&(ap.endLine==p.line)&&a7 c a ob&&a7 c b arg)
 |.compO n e gs,x=>jq x fun z v=>bh z fun y np=>(tgt c n y&&c.own.contains n&&!KB c n&&a7 c (.p e gs) v&&iZ (fun y=>c.sc.lookup y) y np v)
 |.a n e,x=>tr x fun y m es ap p=>fz es fun elt=>(decide (m = "append")&&fw c n y&&c.own.contains n&&(ap.endLine==p.line)&&aY elt&&a7 c e elt)
 |.ext n e,x=>tr x fun y m es ap p=>fz es fun elt=>(decide (m = "extend")&&fw c n y&&c.own.contains n&&(ap.endLine==p.line)&&aY elt&&a7 c e elt)
 |.rev n,x=>tr x fun y m es ap p=>bK es <| (decide (m = "reverse")&&fw c n y&&c.own.contains n&&(ap.endLine==p.line))
 |.del n i,x=>rC x fun z _=>fz z fun z=>eI z fun z idx _=>bh z fun y _=>(fw c n y&&c.own.contains n&&HM i idx)
 |.i t a b,x=>zt x fun e xs ys w1=>(a7 c t e&&ni c a xs&&ni c b ys)
 |.l tg src body,x=>xi x fun target iter bd z1 w1=>bK z1 <| (tO c tg target&&(Eu src target&&!dC src)&&wB c src iter&&ni c body bd)
 |.r e,x=>jQ x fun z1 w1=>iL z1 fun v=>(a7 c e v)
 |.tryE body,x=>xj x fun bd z1 z2 z3 w3=>bu z1 fun w1 w2=>bK z2 <| bK z3 <| (ni c body bd)
 |.tryZ f args n b,x=>DP x fun y es z v b'=>(mS c y&&y==("int_divmod" : Str)&&c.nm[f]?==some y&&eP c args es&&z==("ZeroDivisionError" : Str)&&mS c z&&tgt c n v&&!c.own.contains n&&b==b'&&vA c)
 |.assert e,x=>rA x fun v w1 w2=>(a7 c e v)
 |.hole,_=>true
 |.grow n tg body,x=>xi x fun target iter bd z1 w1=>bK z1 <| bh iter fun y _=>(tO c tg target&&cK target&&fw c n y&&c.own.contains n&&vA c&&ni { c with own:=n::c.own } body bd)
 |.setU n a g b h,x=>jq x fun z v=>bh z fun y _=>oI v fun l o r _=>(decide (o=.BitOr)&&tgt c n y&&c.own.contains n&&p9 c a g l&&p9 c b h r)
noncomputable def ni (c:Cx):nU->ez->Bool
 |.n,xs=>bK xs true
 |.c s r,xs=>bu xs fun x xs=>(Ix c s x&&ni c r xs)
end
section
variable {G:GC}{A:Around}{S:cU}
theorem bV.tgt (X:bV G A S c env own)(h:Internal.tgt c n y=true):G.names[n]?=some y/\∃k,env.kindOf y=some k/\(k=.local\/k=.cell):=by
 obtain⟨h1,h2⟩:=cE h;have e:env.kindOf y=c.sc.lookup y:=by show env.scope.names.lookup y=_;rw[X.sc]
 exact⟨X.nm▸eM h1,(Bool.or_eq_true_iff.mp h2).elim (fun h=>⟨_,e.trans (eM h), .inl rfl⟩) fun h=>⟨_,e.trans (eM h), .inr rfl⟩⟩
theorem IX (h:HM i x=true):Fi G A x env ns ρ (.int i):=fun own O _=>by
 rcases Bool.or_eq_true_iff.mp h with h|h
 .obtain⟨n,p,rfl⟩:=Dp h;exact sk
 .refine jt h fun o a p h=>?_;obtain⟨h1,h2⟩:=cE h;obtain rfl:=bJ h1;obtain⟨n,q,rfl⟩:=Dp h2;have e:bq G A (.UnaryOp .USub (.Constant (.int (-i)) n q) p) env own O ρ (.int (- -i)):=yn sk;rw[Int.neg_neg]at e;exact e
theorem EG (h:oS G env own es tg):es.length=tg.length:=by
 induction h with
 |nil=>rfl
 |cons _ _ _ _ _ ih=>simp[ih]
theorem tL (h:tK kind ts vs=some (some names)):fY kind ts=names/\names.length=ts.length:=
 g7 h (fun _ q=>nn (aG q)) fun _ h=>g7 h (fun _ q=>nn (aG q)) fun _ h=>g7 h (fun _ q=>nn (aG q)) fun c h=>g7 h (fun _ q=>nn (aG q)) fun _ h=>g7 h (fun _ q=>nn q) fun _ q=>by obtain rfl:=aG (aG q);exact⟨rfl,bne_eq_false_iff_eq.mp (Bool.or_eq_false_iff.mp c).1⟩
def MP (G:GC)(A:Around)(S:cU)(c:Cx)(env:Env)(ns:Nk):Prop:=S.rz=true->∀{f:Nat}{args:Es}{n:Nat}{b:Bool}{x:Stmt}{ρ:aF}{Oc:a9}{a:Int},
 Ix c (.tryZ f args n b) x=true->mK S ρ args=some [.int a, .int 0]->cr G A (exec x env) env Oc ns ρ (.n (ρ.set n (.bool b)))
structure i0 (G:GC)(A:Around)(S:cU)(c:Cx)(env:Env)(ns:Nk):Prop where
 cx:∀own,own.ns=ns.l->bV G A S c env own
 ck:∀y c,env.cells.lookup y=some c->env.kindOf y=some .cell\/env.kindOf y=some .free
 pn:∀p,ns.p=some p->KB c p.1=true
 rz:ns.p=none->MP G A S c env ns
variable {c:Cx}{env:Env}{ns:Nk}{Oc:a9}
theorem i0.any (X:i0 G A S c env ns):bV G A S c env ⟨ns.l,fun _=>none⟩:=X.cx _ rfl
theorem i0.ev (X:i0 G A S c env ns)(h:a7 c e x=true)(he:ev S ρ e=some d):Fi G A x env ns ρ d:=fun own O hn=>(aE e (X.cx own hn.1) h).1 d he
theorem i0.evT (X:i0 G A S c env ns)(h:a7 c e x=true)(he:evT S ρ e=some b):M6 G A x env ns ρ b:=fun own O hn=>(aE e (X.cx own hn.1) h).2 b he
theorem i0.free (X:i0 G A S c env ns)(h:(!KB c n)=true):ns.free n:=fun p e q=>by rw[<- q,X.pn p e]at h;exact ff h
theorem i0.nop (X:i0 G A S c env ns)(h:vA c=true):ns.p=none:=by
 cases e:ns.p with
 |none=>rfl
 |some p =>
  have:=X.pn p e;unfold KB at this;unfold vA at h;revert h;refine ay (P:=fun l=>(!(bu l fun m r=>r.contains m))=true->some p=none) this fun m r k h=>?_;obtain⟨k1,k2⟩:=ai k;rw[eM k1]at h;have h:(!(r.contains p.1))=true:=h;rw[k2]at h;exact ff h
theorem qE (h:DG v=true):swappedStores [.Tuple es k tp] v env=pure none:=by cases v <;> first|rfl|exact ff h
variable {st:St}{sts a' b':nU}{e a b:E}{es args:Es}{n f:Nat}
def eC (G:GC)(A:Around)(S:cU)(c:Cx)(env:Env)(ns:Nk)(Oc:a9)(st:St):Prop:=∀{x:Stmt}{ρ:aF}{out:gZ},i0 G A S c env ns->Ix c st x=true->ex S ρ st=some out->cr G A (exec x env) env Oc ns ρ out
def kU (G:GC)(A:Around)(S:cU)(c:Cx)(env:Env)(ns:Nk)(Oc:a9)(sts:nU):Prop:=∀{xs:ez}{ρ:aF}{out:gZ},i0 G A S c env ns->ni c sts xs=true->dP S ρ sts=some out->cr G A (execs xs env) env Oc ns ρ out
theorem i0.kd (X:i0 G A S c env ns):env.kindOf=fun y=>c.sc.lookup y:=by funext y;show env.scope.names.lookup y=_;rw[X.any.sc]
theorem Mg:eC G A S c env ns Oc (.s n e):=fun X h he=>by
 refine da h fun t v pos h=>aA h fun y np h=>gt h fun h1 h2 h3 h4=>ky (P:=cr G A _ env Oc ns _) he fun d e1=>?_;obtain⟨nm,k,hk,hkk⟩:=X.any.tgt h1;rw[<- X.kd]at h4;rcases Bool.eq_false_or_eq_true (iZ env.kindOf y np v)with hs|hs
 .rw[hs,Bool.not_true,Bool.or_false]at h4;obtain⟨el,gs,rfl⟩:=Ah h4;exact d7 (P:=fun v=>iZ env.kindOf y np v=true->a7 c (.p el gs) v=true->cr G A (exec (.Assign [.Name y np] v pos) env) env Oc ns _ _) h3 (fun _ _ _ _ _ hs h3=>xP (fun own hn=>X.cx own hn.1) h3 e1 nm hk hkk (X.any.nown h2) X.any.fn hs) hs h3
 .exact JS nm hk hkk (X.any.nown h2) X.any.fn hs (X.ev h3 e1)
theorem J2 (v:Expr):DG v=true\/∃vs k p,v=.Tuple vs k p:=by
 rcases v with⟨⟩|⟨⟩
 case Tuple=>exact .inr ⟨_,_,_,rfl⟩
 all_goals exact .inl rfl
theorem DE {a b:aF}(h:gZ.n a=.n b):a=b:=by cases h;rfl
theorem Mh {tg:aN}:eC G A S c env ns Oc (.u tg e):=fun{x ρ out} X h he=>by
 refine da h fun t v pos h=>dK h fun es k tp h=>gt h fun h1 h2 h3 h4=>tP he fun xs hx he=>eg (P:=cr G A _ env Oc ns _) he fun hl=>?_;have ht:∀own,own.is ns->cN G env own (.Tuple es k tp) tg:=fun own hn=>(X.cx own hn.1).target h1;have key:∀r,swappedStores [.Tuple es k tp] v env=pure r->(∀names,r=some names->(∀own,own.is ns->gO G env own names tg)/\names.length=tg.length)->cr G A (exec (.Assign [.Tuple es k tp] v pos) env) env Oc ns ρ (.n (bF ρ tg xs)):=fun r hr hn=>by
  rcases r with _|names
  .exact JU ht hl hr (X.ev h4 hx)
  .exact Hc (hn names rfl).1 hl (bJ h2) hr (hn names rfl).2 (X.ev h4 hx)
 rcases J2 v with hv|⟨vs,k',p',rfl⟩
 .exact key none (qE hv) fun _ e=>Bz e
 .obtain⟨r,hr⟩:=Option.isSome_iff_exists.mp (show(tK (fun y=>c.sc.lookup y) es vs).isSome=true from h3);rw[<- X.kd]at hr;refine key r (Bt X.any.fn hr) fun names e1=>?_;subst e1;obtain⟨n1,n2⟩:=tL hr;have hT:∀own,own.ns=ns.l->oS G env own es tg:=fun own hn=>by
   cases (X.cx own hn).target h1 with
   |tup h _=>exact h
  exact⟨fun own hn=>Jj (hT own hn.1) n1 n2,n2.trans (EG (hT ⟨ns.l,fun _=>none⟩ rfl))⟩
theorem L8:eC G A S c env ns Oc (.aug n o e):=fun X h he=>by refine lI h fun t o' v pos h=>aA h fun y np h=>nf h fun q0 h1 h2 h3 h4=>aq he fun a hg he=>aq he fun b hb he=>ky (P:=cr G A _ env Oc ns _) he fun d e1=>?_;obtain rfl:=bJ q0;obtain⟨nm,k,hk,hkk⟩:=X.any.tgt h1;exact JL nm hk hkk (X.any.nown h2) (im h3) hg (X.ev h4 hb) e1
theorem Kb:eC G A S c env ns Oc (.newO n es):=fun X h he=>by refine da h fun t v pos h=>aA h fun y np h=>nB h fun xs lp h=>gt h fun h1 h2 hp h3=>aq he fun ds hds he=>eg (P:=cr G A _ env Oc ns _) he fun hl=>?_;obtain⟨nm,k,hk,hkk⟩:=X.any.tgt h1;exact zO nm hk hkk (X.any.own' h2) (X.free hp) X.any.fn rfl (aJ hl (by decide)) fun own O s hn I=>vy I ((a8 es (X.cx own hn.1) h3).el ds hds) hl
theorem EZ:eC G A S c env ns Oc (.splitO n a b):=fun X h he=>by refine da h fun t v pos h=>aA h fun y np h=>fW h fun ob m ap es p h=>aP h fun arg h=>yl h fun h1 h2 q2 h3 h4 h5 h6 h7=>jV he fun xx ha he=>jV he fun yy hb he=>eg (P:=cr G A _ env Oc ns _) he fun g=>?_;obtain rfl:=bJ q2;obtain⟨g1,g2⟩:=ai g;obtain⟨nm,k,hk,hkk⟩:=X.any.tgt h1;exact zO nm hk hkk (X.any.own' (ai h2).1) (X.free (ai h2).2) X.any.fn rfl (bJ (ai (b:=sokAll _) g2).1) fun own O s hn I=>AT I h3 h4 h5 (X.ev h6 ha own O hn) (X.ev h7 hb own O hn) (bJ g1) g2
theorem L7:eC G A S c env ns Oc (.a n e):=fun X h he=>by refine js h fun y np m es ap p sp h=>aP h fun elt h=>hZ h fun q0 h1 h2 h3 h4 h5=>cZ he fun xs hg he=>aq he fun d hd he=>eg (P:=cr G A _ env Oc ns _) he fun hl=>?_;obtain rfl:=bJ q0;exact JK (X.any.name h1) (X.any.own' h2) hg h3 h4 X.any.fn (X.ev h5 hd) hl
theorem Ht {gs:Gs}:eC G A S c env ns Oc (.compO n e gs):=fun X h he=>by refine da h fun t v pos h=>aA h fun y np h=>nf h fun h1 h2 hp h3 h4=>cZ he fun ys hy he=>aG he▸?_;obtain⟨nm,k,hk,hkk⟩:=X.any.tgt h1;rw[<- X.kd]at h4;exact d7 (P:=fun v=>iZ env.kindOf y np v=true->a7 c (.p e gs) v=true->cr G A (exec (.Assign [.Name y np] v pos) env) env Oc ns _ _) h3 (fun _ _ _ _ _ hs h3=>Ex (fun own hn=>X.cx own hn.1) h3 hy nm hk hkk (X.any.own' h2) (X.free hp) X.any.fn hs) h4 h3
theorem Ma:eC G A S c env ns Oc (.ext n e):=fun X h he=>by refine js h fun y np m es ap p sp h=>aP h fun elt h=>hZ h fun q0 h1 h2 h3 h4 h5=>cZ he fun xs hg he=>cZ he fun ys hd he=>eg (P:=cr G A _ env Oc ns _) he fun hl=>?_;obtain rfl:=bJ q0;exact JN (X.any.name h1) (X.any.own' h2) hg h3 h4 X.any.fn (X.ev h5 hd) hl
theorem Kc {g g':Gs}:eC G A S c env ns Oc (.setU n a g b g'):=fun X h he=>by refine da h fun t v pos h=>aA h fun y np h=>iI h fun l o r bp h=>nf h fun q0 h1 h2 h3 h4=>aq he fun s1 e1 he=>aq he fun s2 e2 he=>eg (P:=cr G A _ env Oc ns _) he fun hl=>?_;obtain rfl:=bJ q0;obtain⟨nm,k,hk,hkk⟩:=X.any.tgt h1;exact Hb X.cx h3 h4 e1 e2 (bJ (ai hl).1) (bJ (ai hl).2) nm hk hkk (X.any.own' h2) X.any.fn
theorem i0.grow (X:i0 G A S c env ns)(h:c.own.contains n=true)(w:Addr):i0 G A S { c with own:=n::c.own } env ⟨ns.l,some (n,w)⟩:=by
 refine⟨fun own hn=>?_,X.ck,fun p e=>?_,fun e=>Bz e.symm⟩
 .have y:=X.cx own hn;refine⟨y.nm,y.sc,fun m=>?_,y.fn,y.F,y.gl,y.hh,y.hu⟩;rw[<- y.ow m,List.contains_iff_mem,List.contains_iff_mem,List.mem_cons];exact⟨fun q=>q.elim (fun q=>q▸List.contains_iff_mem.mp h) id, .inr⟩
 .obtain rfl:=aG e;show(n==n&&c.own.contains n)=true;rw[beq_self_eq_true,h];rfl
theorem J9 (hb:∀w:Addr,kU G A S { c with own:=n::c.own } env ⟨ns.l,some (n,w)⟩ Oc sts):eC G A S c env ns Oc (.grow n tg sts):=fun{x ρ out} X h he=>by refine nC h fun target iter bd z pos h=>aI h fun h=>aA h fun y np h=>hZ h fun h1 h2 h3 h4 h5 h6=>?_;have he:ox (fun d ρ'=>(bx ρ' tg d).bind fun ρ''=>dP S ρ'' sts) n qX 0 ρ=some out:=he;obtain⟨xs,hg⟩:=IQ (by decide) he;exact Ha (X.any.name h3) (X.any.own' h4) (X.nop h5) hg h2 (fun own hn=>(X.cx own hn).target h1) (fun w x ρ' o ho=>aq ho fun ρ'' hb' ho=>⟨ρ'',hb',hb w (X.grow h4 w) h6 ho⟩) he
theorem Mf:eC G A S c env ns Oc (.rev n):=fun X h he=>by refine js h fun y np m es ap p sp h=>aI h fun h=>gt h fun q0 h1 h2 h3=>cZ he fun xs hg he=>aG he▸?_;obtain rfl:=bJ q0;exact JR (X.any.name h1) (X.any.own' h2) hg h3 X.any.fn
theorem L9:eC G A S c env ns Oc (.del n i):=fun X h he =>
 pT h fun z pos h=>aP h fun z h=>cQ h fun z idx sp h=>aA h fun y np h=>gP h fun h1 h2 h3=>cZ he fun xs hg he=>aq he fun j hj he=>aG he ▸
  JM (X.any.name h1) (X.any.own' h2) hg (IX h3) hj
theorem Mb (ha:kU G A S c env ns Oc a')(hb:kU G A S c env ns Oc b'):eC G A S c env ns Oc (.i e a' b'):=fun X h he =>
 kC h fun t xs ys pos h=>gP h fun h1 h2 h3=>oV he (fun ht he=>HZ (X.evT h1 ht) (fun _=>ha X h2 he) MT) fun ht he=>HZ (X.evT h1 ht) Gk fun _=>hb X h3 he
theorem Ka (hb:kU G A S c env ns Oc sts):eC G A S c env ns Oc (.l tg src sts):=fun{x ρ out} X h he=>by refine nC h fun target iter bd z pos h=>aI h fun h=>gt h fun h1 h2 h4 h5=>aq he fun ds hds he=>?_;have hbody:∀x ρ' o,((bx ρ' tg x).bind fun ρ''=>dP S ρ'' sts)=some o->∃ρ'',bx ρ' tg x=some ρ''/\cr G A (execs bd env) env Oc ns ρ'' o:=fun x ρ' o ho=>aq ho fun ρ'' hb' ho=>⟨ρ'',hb',hb X h5 ho⟩;refine JO (fun own O hn=>?_) (eL src (O:=[]) (tg:=target) X.any h4 (ai h2).1 ds hds).2 (fun own hn=>(X.cx own hn.1).target h1) hbody he;have:=(eL src (O:=O) (tg:=target) (X.cx own hn.1) h4 (ai h2).1 ds hds).1;rw[im (ai h2).2]at this;exact this
theorem Me:eC G A S c env ns Oc (.r e):=fun X h he =>
 gD h fun z pos h=>eH h fun v h=>ky (P:=cr G A _ env Oc ns _) he fun d e1=>JQ (X.ev h e1)
theorem Kd (hb:kU G A S c env ns Oc sts):eC G A S c env ns Oc (.tryE sts):=fun X h he =>
 nD h fun bd z1 z2 z3 pos h=>ay h fun w1 w2 h=>aI h fun h=>aI h fun h=>JT (hb X h he)
set_option tactic.hygienic true in
theorem I9 (h:NN ds=true):∃a,ds=[.int a, .int 0]:=by
 rcases ds with⟨⟩|⟨a,⟨⟩|⟨b,⟨⟩|⟨c,r⟩⟩⟩
 .exact ff h
 .exact ff h
 .rcases a with⟨⟩|⟨⟩
  case int a =>
   rcases b with⟨⟩|⟨⟩
   case int b=>exact⟨a,by rw[eM (show(b==0)=true from h)]⟩
   all_goals exact ff h
  all_goals exact ff h
 .exact ff h
theorem Ke {z:Bool}:eC G A S c env ns Oc (.tryZ f args n z):=fun X h he =>
 aq he fun ds hds he=>eg (P:=cr G A _ env Oc ns _) he fun g =>
  let⟨a,ea⟩:=I9 (ai g).1
  X.rz (X.nop (nF (P:=fun _=>vA _=true) h fun _ _ _ _ _ _ _ _ _ _ _ _ _ _ _ h=>(ai h).2)) (ai g).2 h (ea▸hds)
theorem EY:eC G A S c env ns Oc (.assert e):=fun X h he =>
 pR h fun v m pos h=>oV he (fun ht he=>aG he▸Bn (X.evT h ht)) fun _ he=>Bz he
theorem Mc:kU G A S c env ns Oc .n:=fun X h he=>aI h fun _=>aG he▸JP
theorem J8 (hs:eC G A S c env ns Oc st)(hr:kU G A S c env ns Oc sts):kU G A S c env ns Oc (.c st sts):=fun{xs ρ out} X h he =>
 ay h fun x xs h=>qH h fun h1 h2=>by
  have he:(match ex S ρ st with|some (.n ρ')=>dP S ρ' sts|o=>o)=some out:=he;rcases e:ex S ρ st with _|ρ'|d
  .rw[e]at he;exact Bz he
  .rw[e]at he;exact zN (hs X h1 e) (fun ρ2 e=>DE e▸hr X h2 he) (fun d e=>gZ.noConfusion e)
  .rw[e]at he;exact zN (hs X h1 e) (fun ρ2 e=>gZ.noConfusion e) (fun d' e=>aG he▸e)
mutual
theorem CI:∀(st:St){c:Cx}{ns:Nk},eC G A S c env ns Oc st
 |.s ..,_,_=>Mg
 |.u ..,_,_=>Mh
 |.aug ..,_,_=>L8
 |.newO ..,_,_=>Kb
 |.splitO ..,_,_=>EZ
 |.compO ..,_,_=>Ht
 |.a ..,_,_=>L7
 |.ext ..,_,_=>Ma
 |.rev ..,_,_=>Mf
 |.del ..,_,_=>L9
 |.i _ a b,_,_=>Mb (fq a) (fq b)
 |.l _ _ body,_,_=>Ka (fq body)
 |.r ..,_,_=>Me
 |.tryE body,_,_=>Kd (fq body)
 |.tryZ ..,_,_=>Ke
 |.assert ..,_,_=>EY
 |.hole,_,_=>fun X h he=>Bz he
 |.grow _ _ body,_,_=>J9 fun w=>fq body
 |.setU ..,_,_=>Kc
theorem fq:∀(sts:nU){c:Cx}{ns:Nk},kU G A S c env ns Oc sts
 |.n,_,_=>Mc
 |.c s r,_,_=>J8 (CI s) (fq r)
end
end
end
section
section
variable {G:GC}{A:Around}
theorem qK {kindOf:Str->Option NameKind}:∀(xs:List Str)(vs:fO)(m:Str->Option Value)(y:Str),y∉xs->bindL kindOf (xs.zip vs) m y=m y
 |[],_,m,y,_=>rfl
 |_::_,[],m,y,_=>rfl
 |x::xs,v::vs,m,y,h=>by
  refine(qK xs vs _ y fun q=>h (.tail _ q)).trans ?_;by_cases c:kindOf x=some .local
  .rw[if_pos c];exact if_neg fun q:y=x=>h (by rw[q];exact .head _)
  .rw[if_neg c]
theorem mC {kindOf:Str->Option NameKind}:∀(xs:List Str)(vs:fO)(m:Str->Option Value)(y:Str)(v:Value),xs.Nodup->kindOf y=some .local->(xs.zip vs).lookup y=some v->bindL kindOf (xs.zip vs) m y=some v
 |[],_,_,_,_,_,_,e=>nn e
 |_::_,[],_,_,_,_,_,e=>nn e
 |x::xs,u::vs,m,y,v,hn,hk,e=>by
  obtain⟨h1,h2⟩:=List.nodup_cons.mp hn;rw[List.zip_cons_cons,List.lookup_cons]at e;by_cases c:y=x
  .subst c;rw[beq_self_eq_true]at e;obtain rfl:=aG e;refine(qK xs vs _ y h1).trans ?_;rw[if_pos hk];exact if_pos rfl
  .rw[beq_eq_false_iff_ne.mpr c]at e;exact mC xs vs _ y v h2 hk e
theorem yq {kindOf:Str->Option NameKind}:∀(l:List (Str × Value))(m:Str->Option Value),bindC kindOf l m=bindL (fun n=>if kindOf n=some .local then none else some .local) l m
 |[],_=>rfl
 |(n,v)::r,m=>by
  refine(yq r _).trans (congrArg (bindL _ r) ?_);show _=if(if kindOf n=some .local then none else some NameKind.local)=some .local then _ else _;by_cases c:kindOf n=some .local
  .rw[if_pos c,if_pos c,if_neg nofun]
  .rw[if_neg c,if_neg c,if_pos rfl]
theorem Ab {kindOf:Str->Option NameKind}(xs:List Str)(vs:fO)(m:Str->Option Value)(y:Str)(v:Value)(hn:xs.Nodup)(hk:kindOf y≠some .local)(e:(xs.zip vs).lookup y=some v):bindC kindOf (xs.zip vs) m y=some v:=
 (congrFun (yq _ m) y).trans (mC xs vs m y v hn (if_neg hk) e)
inductive ud (G:GC):List Str->aN->Prop
 |nil:ud G [] []
 |cons {x n xs ns}:G.names[n]?=some x->ud G xs ns->ud G (x::xs) (n::ns)
set_option tactic.hygienic true in
theorem GK (hnd:G.names.Nodup):∀{xs:List Str}{tg:aN}{vs:fO}{ds:List D},ud G xs tg->ak w O h vs ds->∀{n:Nat}{d:D}{y:Str},(tg.zip ds).lookup n=some d->G.names[n]?=some y ->
  ∃v,(xs.zip vs).lookup y=some v/\az w O h v d:=by
 intro xs tg vs ds hp
 induction hp generalizing vs ds with
 |nil=>intro r n d y h;simp at h
 |cons h1 h2 ih =>
  rename_i x m xs tg;intro r n d y hl hy;cases ds with
  |nil=>simp at hl
  |cons d0 ds =>
   obtain⟨v,vs,rfl,r1,r2⟩:=r.cons_inv;rw[List.zip_cons_cons,List.lookup_cons]at hl;rw[List.zip_cons_cons,List.lookup_cons];by_cases c:n=m
   .subst c;simp only[beq_self_eq_true]at hl;obtain rfl:=aG hl;rw[h1]at hy;obtain rfl:=aG hy;exact⟨v,by simp,r1⟩
   .have hb:(n==m)=false:=by simpa using c
    rw[hb]at hl;have hyx:y≠x:=fun e=>c (jP hnd (e▸hy) h1);have hb2:(y==x)=false:=by simpa using hyx
    rw[hb2];exact ih r2 hl hy
end
end
section
section
variable {G:GC}{A:Around}{S:cU}
structure iS (G:GC)(a:Addr)(fd:FuncData)(body:ez)(xs:List Str):Prop where
 at':∃o,G.h₀.get? a=some o/\o.data=.func fd
 code:G.h₀.CodeRec fd.code fd.qualname
 body:fd.body=.stmts body
 clo:fd.closure=[]
 gl:fd.globals=mainGlobals
 bi:fd.builtins=builtinsNs
 bind:∀vals:fO,vals.length=xs.length->bindArgs fd ⟨vals,[]⟩=pure (xs.zip vals)
 co:fd.scope.isCoroutine=false
 gen:fd.scope.isGenerator=false
 kind:fd.scope.kind=.function
noncomputable def iG (nm:List Str)(f:Fn)(fd:FuncData)(xs:List Str):Bool:=
 decide xs.Nodup&&decide f.params.Nodup&&decide (f.params.map (nm[·]?)=xs.map some)&&f.params.all (fun n=>!f.own.contains n) &&
 fd.scope.names.all (fun p=>p.2 != .free)&&xs.all (fun x=>fd.scope.names.lookup x==some .local || fd.scope.names.lookup x==some .cell)
theorem pw {nm:List Str}{f:Fn}{fd:FuncData}{xs:List Str}(h:iG nm f fd xs=true):((((xs.Nodup/\f.params.Nodup)/\f.params.map (nm[·]?)=xs.map some)/\f.params.all (fun n=>!f.own.contains n)=true)/\fd.scope.names.all (fun p=>p.2 != .free)=true)/\xs.all (fun x=>fd.scope.names.lookup x==some .local || fd.scope.names.lookup x==some .cell)=true:=
 let⟨h,h7⟩:=cE h
 let⟨h,h6⟩:=cE h
 let⟨h,h5⟩:=cE h
 let⟨h,h4⟩:=cE h
 let⟨h2,h3⟩:=cE h
 ⟨⟨⟨⟨⟨bJ h2,bJ h3⟩,bJ h4⟩,h5⟩,h6⟩,h7⟩
def wQ (nm:List Str)(f:Fn)(fd:FuncData)(body:ez)(xs:List Str):Bool:=
 ni ⟨nm,fd.scope.names,f.own⟩ f.body body&&iG nm f fd xs&&fd.scope.names.all (fun p=>p.2 != .cell || fd.scope.names.lookup p.1==some .cell)
theorem DV:∀{ps:aN}{xs:List Str},ps.map (nm[·]?)=xs.map some->nm=G.names->ud G xs ps
 |[],[],_,_=>.nil
 |[],_::_,h,_=>by simp at h
 |_::_,[],h,_=>by simp at h
 |n::ps,x::xs,h,e=>by simp only[i8,List.cons.injEq]at h;exact .cons (e▸h.1) (DV h.2 e)
theorem uF (ok:oQ G)(hh:A.handled=none)(B:a5 G s.heap)(p1:0<s1.toks)(ov:dH Oc s.heap)(r:ak G.w Oc s.heap vs ds)(Df:iS G a fd body xs)(hf:iG G.names f fd xs=true)(hl:ds.length=f.params.length)
  (x:InCallC s (callEnvC fd s.heap.objs.size a).locals (bindL (callEnvC fd s.heap.objs.size a).kindOf (xs.zip vs) fun _=>none) (callEnvC fd s.heap.objs.size a).cells (bindC (callEnvC fd s.heap.objs.size a).kindOf (xs.zip vs) fun _=>none) s1) :
  ∃O M,FI G A (callEnvC fd s.heap.objs.size a) ⟨f.own,fun _=>none⟩ O Oc M (bF [] f.params ds) s1/\(∀b∈M,s.heap.get? b=none)/\Ext G s s1:=by
 obtain⟨⟨⟨⟨⟨h2,h3⟩,h4⟩,h5⟩,h6⟩,h7⟩:=pw hf;generalize hce:callEnvC fd s.heap.objs.size a=ce at x ⊢;have e1:ce.scope=fd.scope:=by rw[<- hce];rfl
 have e2:ce.locals=s.heap.objs.size:=by rw[<- hce];rfl
 have e3:ce.globals=fd.globals:=by rw[<- hce];rfl
 have e4:ce.cells=cellsFrom (s.heap.objs.size+1) fd.scope.names []:=by rw[<- hce];rfl
 have e5:ce.builtins=fd.builtins:=by rw[<- hce];rfl
 have xk:=x.toInCall.keep;obtain⟨hh1,tk1,e6⟩:=x.toInCall.same;have X:Ext G s s1:=by refine⟨by rw[e6];exact⟨rfl,rfl⟩, .of xk,B.all xk,p1,fun b e=>bw (fun o q=>xk b o q) e⟩
 have hab:∀y c,ce.cells.lookup y=some c->s.heap.objs.size<c:=fun y c e=>by have:=x.above y c (mem_of_lookup e);rw[e2]at this;exact this
 have fr:∀b,s.heap.objs.size<=b->s.heap.get? b=none:=fun b q=>gR q;have fr0:∀b,s.heap.get? b=none->G.h₀.get? b=none:=fun b e=>bw (fun o q=>B.keep b o q) e
 let mcs:=fd.scope.names.filterMap fun p=>ce.cells.lookup p.1
 have hM:∀b∈ce.locals::mcs,s.heap.get? b=none:=fun b m=>by
  rcases bA m with rfl|m
  .rw[e2];exact fr _ (fc _)
  .obtain⟨p,_,hp⟩:=List.mem_filterMap.mp m;have:=x.above p.1 b (mem_of_lookup hp);rw[e2]at this;exact fr _ (il this)
 have celem:∀y c,ce.cells.lookup y=some c->c∈ce.locals::mcs:=fun y c e=>eh _ (List.mem_filterMap.mpr ⟨(y, .cell),(dU _ _ _ _ (e4▸mem_of_lookup e)).1,e⟩);have kd:∀y,ce.kindOf y=fd.scope.names.lookup y:=fun y=>by show ce.scope.names.lookup y=_;rw[e1]
 have nofree:∀y,ce.kindOf y≠some .free:=fun y e=>by rw[kd]at e;exact ff (br h6 _ (mem_of_lookup e))
 have val:∀n y d,G.names[n]?=some y->(bF [] f.params ds).get n=some d->∃v,(xs.zip vs).lookup y=some v/\az G.w Oc s.heap v d/\n∉f.own:=fun n y d hy hd=>by
  rw[iN _ _ _ _ h3]at hd;cases q:(f.params.zip ds).lookup n with
  |none=>rw[q]at hd;simp[aF.get]at hd
  |some d' =>
   rw[q]at hd;obtain rfl:=aG hd;obtain⟨v,e,rv⟩:=GK ok.nd (DV h4 rfl) r q hy;have hm:n∈f.params:=by have:=(gy (by rw[List.map_fst_zip (by lia)];exact h3)).mp q;exact(List.of_mem_zip this).1
   have:=br h5 n hm;exact⟨v,e,rv,by simpa using this⟩
 have grow:∀{v d},az G.w Oc s.heap v d->az G.w ((ce.locals::mcs)++Oc) s1.heap v d:=fun r=>(r.news hM).keep X.keep;have cellv:∀y c,ce.cells.lookup y=some c->s1.heap.IsCell c (bindC ce.kindOf (xs.zip vs) (fun _=>none) y):=fun y c e=>x.cell y c e;have jZ:∀{n v d},n∉f.own->az G.w Oc s.heap v d->cL G.w ⟨f.own,fun _=>none⟩ n ((ce.locals::mcs)++Oc) s1.heap v d:=fun hn r=>gX hn (grow r);refine⟨(ce.locals::mcs)++Oc,ce.locals::mcs,⟨⟨ok,hh,X.base,X.pos,fun b m=>?_,⟨e1▸Df.kind,e3.trans Df.gl,e5.trans Df.bi,ij _ dX,fr0 _ (hM _ dX),fun n b e=>(by exact nn e),fun y c e=>⟨ij _ (celem y c e),fr0 _ (hM _ (celem y c e))⟩,fun y z c e e'=>name_of_addr x.apart (mem_of_lookup e) (mem_of_lookup e'),fun y hy=>?_,⟨_,x.toInCall.ns,fun n y d h8 h9 h10=>?_⟩,fun n y d h8 h9 h10=>?_⟩⟩,fun b m=>ij _ m,dX,celem,fun n b e=>(by exact nn e),fun b m=>fr0 _ (hM b m),fun b m o e=>?_,fun b m=>hJ _ m,fun b m m'=>?_,fun n m b e=>(by exact nn e)⟩,hM,X⟩
 .rcases cy m with m|m
  .rcases bA m with rfl|m
   .obtain⟨o,es,ep,e,dd,_⟩:=x.toInCall.ns;exact⟨o,e, .inr fun vs q=>by rw[dd]at q;cases q⟩
   .obtain⟨p,_,hp⟩:=List.mem_filterMap.mp m;obtain⟨o,e,dd⟩:=cellv p.1 b hp;exact⟨o,e, .inr fun vs q=>by rw[dd]at q;cases q⟩
  .obtain⟨o,e,q⟩:=ov b m;exact⟨o,xk b o e,q⟩
 .rcases hy with hy|hy
  .rw[kd]at hy;obtain⟨c,hc⟩:=bT _ (s.heap.objs.size+1) _ (mem_of_lookup hy);obtain⟨c',e'⟩:=bU (l:=ce.cells) (by rw[e4];exact hc);exact⟨c',_,e',cellv y c' e'⟩
  .exact absurd hy (nofree y)
 .obtain⟨v,v1,v2,v3⟩:=val n y d h8 h10;exact⟨v,mC _ _ _ _ _ h2 h9 v1,jZ v3 v2⟩
 .have hnl:ce.kindOf y≠some .local:=fun q=>by rw[q]at h9;rcases h9 with h9|h9 <;> cases h9
  obtain⟨v,v1,v2,v3⟩:=val n y d h8 h10;rcases h9 with h9|h9
  .rw[kd]at h9;obtain⟨c,hc⟩:=bT _ (s.heap.objs.size+1) _ (mem_of_lookup h9);obtain⟨c',e'⟩:=bU (l:=ce.cells) (by rw[e4];exact hc);have:=cellv y c' e';rw[Ab _ _ _ _ _ h2 hnl v1]at this;exact⟨c',v,e',this,jZ v3 v2⟩
  .exact absurd h9 (nofree y)
 .rcases bA m with rfl|m
  .obtain⟨o',es,ep,e',dd,_⟩:=x.toInCall.ns;rw[e']at e;obtain rfl:=aG e;exact dY dd
  .obtain⟨p,_,hp⟩:=List.mem_filterMap.mp m;obtain⟨o',e',dd⟩:=cellv p.1 b hp;rw[e']at e;obtain rfl:=aG e;exact lB dd
 .obtain⟨o,e,_⟩:=ov b m';rw[hM b m]at e;exact nn e
end
end
section
section
variable {G:GC}{A:Around}{S:cU}
theorem uR (ok:oQ G)(hh:A.handled=none)(hr:A.depth<recursionLimit)(hu:A.units+103<cLine)(B:a5 G s.heap)(p:0<s.toks)(ov:dH Oc s.heap)(r:ak G.w Oc s.heap vs ds)
  (Df:iS G a fd body xs)(hf:wQ G.names f fd body xs=true)(F:∀env,oP G (A.deeper env) S.cal)(gl:gY G S.gl)(Z:MP G (A.deeper (callEnvC fd s.heap.objs.size a)) S ⟨G.names,fd.scope.names,f.own⟩ (callEnvC fd s.heap.objs.size a) ⟨f.own,none⟩) (h:aV S f ds=some d):dG G A Oc (call (.ref a) vs) s d:=fun Q E q=>by
 have hl:ds.length=f.params.length:=by
  by_cases c:ds.length=f.params.length
  .exact c
  .exact nn ((if_neg c).symm.trans h)
 obtain⟨h10,hck⟩:=cE hf;obtain⟨h1,hf0⟩:=cE h10;obtain⟨⟨⟨⟨⟨h2,h3⟩,h4⟩,h5⟩,h6⟩,h7⟩:=pw hf0;have hpl:xs.length=f.params.length:=by have:=congrArg List.length h4;simpa using this.symm
 obtain⟨o,ho,hdat⟩:=Df.at';have hvl:vs.length=xs.length:=by rw[r.length,hl,hpl]
 refine wpAny_call (codeAny_call_function hr (B.keep _ _ ho) hdat Df.co Df.gen Df.body (Df.code.keeps B.keep) ?_);rw[Df.bind vs hvl,Df.clo];refine bg (wpAny_with_toks (fc s.toks) (wpAny_newFunctionEnv_cells Df.kind (fun y hy=>?_) fun env he s1 x tk=>?_))
 .obtain⟨y1,y2⟩:=y;have hm:=(List.of_mem_zip hy).1;have:=br h7 y1 hm;rcases Bool.or_eq_true_iff.mp this with e|e
  .exact .inl (by simpa using e)
  .have e:fd.scope.names.lookup y1=some .cell:=by simpa using e
   refine .inr ⟨e, ?_⟩;obtain⟨c,hc⟩:=bT _ (s.heap.objs.size+1) _ (mem_of_lookup e);obtain⟨c',e'⟩:=bU hc;exact Option.isSome_iff_exists.mpr ⟨c',e'⟩
 .have he:env=callEnvC fd s.heap.objs.size a:=he;subst he;refine⟨(ok.lim.keeps B.keep).keeps x.toInCall.keep,codeAny_func ?_⟩;obtain⟨O,M,FF,hM,X⟩:=uF (A:=A.deeper (callEnvC fd s.heap.objs.size a)) ok hh B (kS p tk) ov r Df hf0 hl x;have hb:∃out,dP S (bF [] f.params ds) f.body=some out/\(match out with|.r d'=>d'=d|.n _=>d=.none):=by exact aq ((if_pos hl).symm.trans h) fun o e h=>⟨o,e,by cases o with|r d'=>exact aG h|n _=>exact(aG h).symm⟩
  obtain⟨out,e1,e2⟩:=hb;have FX:i0 G (A.deeper (callEnvC fd s.heap.objs.size a)) S ⟨G.names,fd.scope.names,f.own⟩ (callEnvC fd s.heap.objs.size a) ⟨f.own,none⟩ :=
   ⟨fun own hn=>⟨rfl,rfl,fun n=>by rw[hn];simp,Df.kind,F _,gl,hh,(by show A.units+3+100<cLine;assumption)⟩,fun y c e=>.inl (by
    have m:=(dU _ _ _ _ (show(y,c)∈cellsFrom (s.heap.objs.size+1) fd.scope.names []from mem_of_lookup e)).1;have:=br hck _ m;have h9:fd.scope.names.lookup y=some .cell:=by simpa using this
    exact h9),(fun p e=>Bz e),fun _=>Z⟩
  refine fq f.body FX h1 e1 _ O M s1 ⟨rfl,fun p e=>Bz e⟩ FF _ _ (fun ρ' own' O' M' s' eo _ F' st=>?_) (fun d' v s' eo sx rv=>?_)
  .subst eo;cases e2;exact q _ _ ((X.sext.trans st.sx).ext hM) .none
  .subst eo;cases e2;exact q _ _ ((X.sext.trans sx).ext hM) rv
end
end
section
section
variable {G:GC}{A:Around}
noncomputable abbrev dE:dM:=⟨[],fun _=>none⟩
theorem fF:cL G.w dE n O h v d=az G.w O h v d:=by unfold cL;rw[if_neg (by simp)]
structure oR (G:GC)(h:Heap)(f:Addr)(fd:FuncData)(body:ez)(clos:List (Str × Addr)):Prop where
 at':∃o,h.get? f=some o/\o.data=.func fd
 code:∃c,fd.code=.ref c/\md h c fd.qualname
 body:fd.body=.stmts body
 clo:fd.closure=clos
 gl:fd.globals=mainGlobals
 bi:fd.builtins=builtinsNs
 co:fd.scope.isCoroutine=false
 gen:fd.scope.isGenerator=false
 kind:fd.scope.kind=.function
theorem oR.keepBut {h h':Heap}{body:ez}{clos:List (Str × Addr)}{W:a9}(x:oR G h f fd body clos)(k:aL W h h')(hW:∀a∈W,∀o,h.get? a=some o->(∀fd,o.data≠.func fd)/\(∀vs,o.data≠.fields vs)):oR G h' f fd body clos:=
 { x with
  at':=let⟨o,e,d⟩:=x.at';⟨o,k _ _ (fun m=>(hW _ m _ e).1 _ d) e (.inr fun vs q=>by rw[d]at q;cases q),d⟩
  code:=by obtain⟨c,e,o,vs,t,a,b,d,r⟩:=x.code;exact⟨c,e,o,vs,t,k _ _ (fun m=>(hW _ m _ a).2 _ d) a (.inl (by rw[b];nofun)),b,d,r⟩ }
theorem oR.keep {fd:FuncData}{body:ez}{clos:List (Str × Addr)}(x:oR G h f fd body clos)(k:dS h h'):oR G h' f fd body clos:=
 x.keepBut (W:=[]) (fun b o _ e c=>k b o e c) (fun _ m=>by cases m)
theorem rq {clos:List (Str × Addr)}{xs:List Str}{vs:fO}{ρ:aF}{Q:ba}{E:ba}
  (ok:oQ G)(hh:A.handled=none)(hr:A.depth<recursionLimit)(B:a5 G s.heap)(p:0<s.toks)(ov:dH O s.heap)(N:oR G s.heap f fd body clos)
  (bind:bindArgs fd ⟨vs,[]⟩=pure (xs.zip vs))(loc:∀x∈xs,fd.scope.names.lookup x=some .local)(nocell:∀x∈fd.scope.names,x.2≠.cell)
  (cin:∀x c,clos.lookup x=some c->c∈O/\G.h₀.get? c=none)(inj:∀x y c,clos.lookup x=some c->clos.lookup y=some c->x=y)
  (ce:∀x,fd.scope.names.lookup x=some .free->∃c v,clos.lookup x=some c/\s.heap.IsCell c v)
  (hl:∀n x d,G.names[n]?=some x->fd.scope.names.lookup x=some .local->ρ.get n=some d->∃v,(xs.zip vs).reverse.lookup x=some v/\az G.w O s.heap v d)
  (hf:∀n x d,G.names[n]?=some x->fd.scope.names.lookup x=some .free->ρ.get n=some d->∃c v,clos.lookup x=some c/\s.heap.IsCell c (some v)/\az G.w O s.heap v d)
  (k:∀env s1,env.scope=fd.scope->env.cells=clos->s.heap.get? env.locals=none->Ext G s s1->cV G (A.deeper env) env dE (env.locals::O) ρ s1 ->
   ∀E',wpAny (bC G) (A.deeper env) (execs body env) (fun fl s'=>Q (match fl with|.ret v=>v|_=>.none) s') E' s1) :
  wpAny (bC G) A (call (.ref f) vs) Q E s:=by
 obtain⟨o,ho,hdat⟩:=N.at';obtain⟨c,hc,hci⟩:=N.code;refine wpAny_call (codeAny_call_function hr ho hdat N.co N.gen N.body (by rw[hc];exact hci.rec') ?_);rw[bind,N.clo];refine bg (wpAny_newFunctionEnv nocell (fun y hy=>loc y.1 (List.of_mem_zip hy).1) (fun h' hns hsb=>⟨?_,codeAny_func ?_⟩) N.kind)
 .exact((ok.lim.keeps B.keep).keeps fun b o e=>hsb.extBut b o (Nat.ne_of_lt (Heap.lt_size e)) (gv _ e))
 .generalize he:newEnv fd.scope s.heap.objs.size fd.globals clos (fd.qualname ++ ".<locals>.") (some f) fd.code none fd.builtins=env;have e1:env.scope=fd.scope:=by rw[<- he];rfl
  have e2:env.locals=s.heap.objs.size:=by rw[<- he];rfl
  have e3:env.globals=fd.globals:=by rw[<- he];rfl
  have e4:env.cells=clos:=by rw[<- he];rfl
  have e5:env.builtins=fd.builtins:=by rw[<- he];rfl
  have kk:∀b o,s.heap.get? b=some o->h'.get? b=some o:=fun b o e=>hsb.extBut b o (Nat.ne_of_lt (Heap.lt_size e)) (gv _ e);have X:Ext G s { s with heap:=h',toks:=s.toks+(xs.zip vs).length }:=Ext.all B kk (kS p (nr _ _));have hL:s.heap.get? env.locals=none:=by rw[e2];exact aD _
  have hns:h'.Ns env.locals (fun x=>(xs.zip vs).reverse.lookup x):=by rw[e2];exact hns
  have kd:∀y,env.kindOf y=fd.scope.names.lookup y:=fun y=>by show env.scope.names.lookup y=_;rw[e1]
  have grow:∀{v d},az G.w O s.heap v d->az G.w (env.locals::O) h' v d:=fun r=>(az.news (N:=[env.locals]) r fun b m=>by rcases aS m with rfl;exact hL).keep X.keep;have nocell':∀y,env.kindOf y≠some .cell:=fun y e=>by rw[kd]at e;exact nocell _ (mem_of_lookup e) rfl
  refine k env _ e1 e4 hL X ⟨ok,hh,X.base,X.pos,fun b m=>?_,⟨by rw[e1];exact N.kind,by rw[e3];exact N.gl,by rw[e5];exact N.bi,dX,bw (fun o q=>B.keep _ o q) hL,fun n a e=>(by exact nn e),fun x c e=>?_,fun x y c=>by rw[e4];exact inj x y c,fun x hx=>?_,⟨_,hns,fun n x d h1 h2 h3=>?_⟩,fun n x d h1 h2 h3=>?_⟩⟩ _
  .rcases bA m with rfl|m
   .obtain⟨o,es,ep,e,dd,_⟩:=hns;exact⟨o,e, .inr fun vs q=>by rw[dd]at q;cases q⟩
   .obtain⟨o,e,q⟩:=ov b m;exact⟨o,kk b o e,q⟩
  .rw[e4]at e;exact⟨eh _ (cin x c e).1,(cin x c e).2⟩
  .have hx:fd.scope.names.lookup x=some .free:=by
    rcases hx with hx|hx
    .exact absurd hx (nocell' x)
    .rwa [kd]at hx
   obtain⟨c,v,a1,a2⟩:=ce x hx;exact⟨c,v,by rw[e4];exact a1,a2.keeps kk⟩
  .rw[kd]at h2;obtain⟨v,a1,a2⟩:=hl n x d h1 h2 h3;exact⟨v,a1,by rw[fF];exact grow a2⟩
  .have h2:fd.scope.names.lookup x=some .free:=by
    rcases h2 with h2|h2
    .exact absurd h2 (nocell' x)
    .rwa [kd]at h2
   obtain⟨c,v,a1,a2,a3⟩:=hf n x d h1 h2 h3;exact⟨c,v,by rw[e4];exact a1,a2.keeps kk,by rw[fF];exact grow a3⟩
theorem Jd {e:E}{v:Expr}{np pos:Pos}{d:D}{s:Shared}{Q:Flow->Shared->Prop}{E:ba}(X:bV G A S c env dE)(I:cV G A env dE O ρ s)
  (nm:G.names[n]?=some x)(hk:env.kindOf x=some .local)(hs:iZ env.kindOf x np v=false)(hc:a7 c e v=true)(he:ev S ρ e=some d)
  (q:∀s',bI G [env.locals] s s'->cV G A env dE O (ρ.set n d) s'->Q .next s'):wpAny (bC G) A (exec (.Assign [.Name x np] v pos) env) Q E s:=by
 refine wpAny_Assign_Name ((aE e X hc).1 d he s I _ _ fun u s1 x1 r1=>?_) (by rw[ix X.fn,hs]);refine d5 (W:=[env.locals]) (I.ext x1) nm hk (.inl rfl) (gX (by simp) r1) ⟨dX,fun hc c e=>by rw[hk]at hc;cases hc⟩ fun s2 x2 _ I2=>?_;exact q s2 (x1.sext.trans x2) I2
end
end
section
section
variable {G:GC}{A:Around}
structure kc (G:GC):Prop where
 out:∀t∈G.tabs,G.h₀.get? t.P=none
 inj:∀t∈G.tabs,∀t'∈G.tabs,t.P=t'.P->t=t'
theorem FQ {env:Env}{t:wi}{scope:Scope}{body:FuncBody}{s:Shared}{Q:ba}{E:ba}(T:kc G)(B:a5 G s.heap)(ht:t∈G.tabs)(hc:env.code=.ref t.c)
  (q:∀c' h' tk,Heap.ExtBut t.P s.heap h'->dS s.heap h'->a5 G h'->0<tk->md h' c' t.qual->Q (.ref c') { s with heap:=h',toks:=tk })(p:0<s.toks) :
  wpAny (bC G) A (functionCode env t.pos firstLine name t.qual params scope body) Q E s:=by
 obtain⟨C,ps,e1,e2,e3⟩:=B.memo t ht;rcases e3 with e3|⟨c',e3,e4⟩
 .refine wpAny_with_toks (fc s.toks) (wpAny_functionCodeX hc (C.code e1 e2) (C.tab e1) e3 fun c' h' tk hx hge hlt hco hrec htb hnew htk=>?_);obtain⟨P',_,_,⟨⟨o,vs,f1,f2,f3,f4⟩,_⟩⟩:=hnew;have ci:md h' c' t.qual:=by obtain⟨c₂,o₂,vs₂,t₂,g1,g2,g3,g4⟩:=hrec;cases g1;rw[f1]at g2;obtain rfl:=aG g2;rw[f3]at g3;cases g3;exact⟨o,vs,t₂,f1,f2,f3,g4⟩
  have kp:dS s.heap h':=fun b o e c=>hx b o (fun q=>by
   rw[q,e1]at e;obtain rfl:=aG e;rcases c with c|c
   .exact c rfl
   .exact c _ rfl) e
  refine q c' h' tk hx kp ⟨fun b o e=>hx b o (fun q=>by rw[q,T.out t ht]at e;exact nn e) (B.keep b o e),fun t' ht'=>?_⟩ (kS p htk) ci;by_cases hP:t'.P=t.P
  .obtain rfl:=T.inj _ ht' _ ht hP;refine⟨CodeHd.of hco htb,_,htb.2, ?_, .inr ⟨c', ?_,ci⟩⟩
   .simpa using TriplesOk_snoc _ _ _ _ e2
   .simpa using codeAmong_snoc _ e2 e3
  .obtain⟨⟨o',vs',file,tf,flags,tg,inF,text,tt,b1,b2,b3⟩,ps',d1,d2,d3⟩:=B.memo t' ht';refine⟨⟨o',vs',file,tf,flags,tg,inF,text,tt,kp _ _ b1 (.inl (by rw[b2];nofun)),b2,b3⟩,ps',hx _ _ hP d1,d2, ?_⟩;rcases d3 with d3|⟨c₃,d3,o₃,vs₃,t₃,i1,i2,i3⟩
   .exact .inl d3
   .exact .inr ⟨c₃,d3,o₃,vs₃,t₃,kp _ _ i1 (.inl (by rw[i2];nofun)),i2,i3⟩
 .exact wpAny_functionCode_hit hc (C.code e1 e2) e3 (q c' s.heap s.toks (fun b o _ e=>e) (.refl _) B p e4)
theorem GA {env:Env}{t:wi}{body:ez}{clos:List (Str × Addr)}{s:Shared}{Q:ba}{E:ba}(ok:oQ G)(T:kc G)(B:a5 G s.heap)(ht:t∈G.tabs)(hc:env.code=.ref t.c)
  (hcl:closureFor scope env=pure clos)(hne:clos≠[])(hge:env.globals=mainGlobals)(hco:scope.isCoroutine=false)(hgen:scope.isGenerator=false)(hk:scope.kind=.function)(hdoc:docOf body=none)
  (q:∀f fd s',Ext G s s'->s.heap.get? f=none->oR G s'.heap f fd body clos->fd.params=params->fd.scope=scope->fd.defaults=.none->fd.kwdefaults=.none->Q (.ref f) s')(p:0<s.toks) :
  wpAny (bC G) A (makeFunction name t.qual params (.stmts body) scope env [] [] [] t.pos t.pos.line) Q E s:=by
 obtain⟨bm,ob,hbm,hne0,hneG,hbo,hcls,hdict,hdata⟩:=ok.bm;rw[makeFunction_eq];simp -iota only[List.zip_nil_right,List.filterMap_nil,List.isEmpty_nil,if_true,pure_bind];unfold makeTail;rw[hcl,hge];refine aH (bg ?_);cases clos with
 |nil=>exact absurd rfl hne
 |cons u r =>
  simp -iota only[List.isEmpty_cons,Bool.false_eq_true,if_false];refine aH (wpAny_newTextTuple ?_);refine aH (FQ T (B.all fun b o e=>gv _ e) ht hc (fun c' h' tk hx kp B' p' ci=>?_) p);refine aH (wpAny_builtinsFor (ok.g.keeps B'.keep) hbm hne0 (B'.keep _ _ hbo) hcls hdict hdata ?_);refine aH (wpAny_nsGet (ok.g.keeps B'.keep) ?_);refine aH ?_;rw[hdoc];refine bg ?_;refine wpAny_newObj_type ?_ (by size_fits);have k0:dS s.heap h':=fun b o e c=>kp b o (gv _ e) c;have back0:∀b,h'.get? b=none->s.heap.get? b=none:=fun b e=>by
   cases hb:s.heap.get? b with
   |none=>rfl
   |some o =>
    by_cases hP:b=t.P
    .subst hP;obtain⟨_,ps,e1,_⟩:=B'.memo t ht;rw[e]at e1;exact nn e1
    .rw[hx b o hP (gv _ hb)]at e;cases e
  have hf:h'.get? h'.objs.size=none:=aD _;obtain⟨o,vs,tk',i1,i2,i3,i4⟩:=ci;refine q _ _ _ ⟨⟨rfl,rfl⟩,fun b o e c=>gv _ (k0 b o e c),B'.all fun b o e=>gv _ e,p',fun b e=>back0 b (bw (fun o q=>gv _ q) e)⟩ (back0 _ hf)
   ⟨⟨_,iV _ rfl,rfl⟩,⟨c',rfl,o,vs,tk',gv _ i1,i2,i3,i4⟩,rfl,rfl,rfl,rfl,hco,hgen,hk⟩ rfl rfl rfl rfl
theorem Ci {env:Env}{t:wi}{body:ez}{clos:List (Str × Addr)}{s:Shared}{Q:Flow->Shared->Prop}{E:ba}(ok:oQ G)(T:kc G)(B:a5 G s.heap)(ht:t∈G.tabs)(hc:env.code=.ref t.c)(hq:qualnameIn env name name=t.qual)
  (hcl:closureFor scope env=pure clos)(hne:clos≠[])(hge:env.globals=mainGlobals)(hco:scope.isCoroutine=false)(hgen:scope.isGenerator=false)(hk:scope.kind=.function)(hdoc:docOf body=none)
  (hd0:params.defaults=[])(hk0:params.kw_defaults=[])(ha:annTrees params none env=[])
  (q:∀f fd s',Ext G s s'->s.heap.get? f=none->oR G s'.heap f fd body clos->fd.params=params->fd.scope=scope->fd.defaults=.none->fd.kwdefaults=.none->wpAny (bC G) A (storeName env name (.ref f)) (fun _ s''=>Q .next s'') E s') (p:0<s.toks) :
  wpAny (bC G) A (exec (.FunctionDef name params body [] none [] scope none name t.pos) env) Q E s:=by
 refine nestDef_K hd0 hk0 ha ?_;rw[hq];exact GA ok T B ht hc hcl hne hge hco hgen hk hdoc q p
end
end
section
noncomputable def FW (n x i:Nat):Nat:=x / 2^(n*i) % 2^n
def dA (n x k:Nat):aN:=(List.range k).map (FW n x)
theorem fK (n x k:Nat):(dA n x k).length=k:=(dx _).trans List.length_range
theorem ID (n x i:Nat):FW n x i<2^n:=Nat.mod_lt _ (Nat.two_pow_pos n)
theorem FY (h:i<k):FW n (x % 2^(n*k)) i=FW n x i:=by
 delta FW
 have e:n*k=n*i+(n*(k-i-1)+n):=by
  have:k=i+((k-i-1)+1):=by rw[Nat.sub_add_cancel (Nat.sub_pos_of_lt h),Nat.add_sub_cancel' (il h)]
  conv=>lhs;rw[this]
  rw[Nat.mul_add,Nat.mul_add,Nat.mul_one]
 rw[e,Nat.pow_add,Nat.mod_mul_right_div_self,Nat.pow_add,Nat.mod_mul_left_mod]
theorem Ck:FW n (x / 2^(n*k)) i=FW n x (k+i):=by
 delta FW
 rw[Nat.div_div_eq_div_mul,<- Nat.pow_add,<- Nat.mul_add]
theorem pf (n x a b:Nat):dA n (x % 2^(n*a)) a++dA n (x / 2^(n*a)) b=dA n x (a+b):=by
 delta dA
 rw[List.range_add,List.map_append,kR]
 congr 1
 .exact List.map_congr_left fun i hi=>FY (List.mem_range.mp hi)
 .exact List.map_congr_left fun i _=>Ck
theorem uz (n x:Nat)(h:x<2^n):dA n x 1=[x]:=by simp[dA,FW,Nat.mod_eq_of_lt h]
noncomputable def kQ (n:Nat):aN->Nat
 |[]=>0
 |d::r=>d+2^n*kQ n r
theorem gJ (n:Nat):∀(xs ys:aN),kQ n (xs++ys)=kQ n xs+2^(n*xs.length)*kQ n ys
 |[],ys=>by show _=0+2^0*kQ n ys;rw[Nat.pow_zero,Nat.one_mul,Nat.zero_add];rfl
 |x::xs,ys=>by show x+2^n*kQ n (xs++ys)=x+2^n*kQ n xs+_;rw[gJ n xs ys,sW,Nat.mul_add,Nat.mul_add,Nat.mul_one,Nat.pow_add,<- Nat.add_assoc,<- Nat.mul_assoc,Nat.mul_comm (2^n) (2^(n*xs.length))]
theorem EP:∀{xs:aN},(∀x∈xs,x<2^n)->kQ n xs<2^(n*xs.length)
 |[],_=>Nat.one_pos
 |x::xs,h=>by
  have h1:=h x dX;have h2:=EP (n:=n) (xs:=xs) fun y m=>h y (eh _ m);show x+2^n*kQ n xs<_;rw[sW,Nat.mul_add,Nat.mul_one,Nat.pow_add];have h3:2^n*kQ n xs+2^n<=2^(n*xs.length)*2^n:=by
   rw[Nat.mul_comm (2^(n*xs.length))]
   calc 2^n*kQ n xs+2^n=2^n*(kQ n xs+1):=by rw[Nat.mul_add,Nat.mul_one]
    _<=_:=Nat.mul_le_mul_left _ h2
  lia
theorem wf (n:Nat):∀(k x:Nat),kQ n (dA n x k)=x % 2^(n*k)
 |0,x=>(Nat.mod_one x).symm
 |k+1,x=>by rw[Nat.add_comm k 1,<- pf n x 1 k,gJ,fK,Nat.mul_one,wf n k,uz _ _ (Nat.mod_lt _ (Nat.two_pow_pos n))];rw[show∀d,kQ n [d]=d from fun _=>rfl,Nat.mul_add,Nat.mul_one,Nat.pow_add,Nat.mod_mul]
noncomputable abbrev ae (n:Nat):D:=PyData.int (n:Int)
theorem qZ {n k:Nat}(h:n<2^k):ib (n:Int)<=k:=by
 delta ib Builtin.Int.intBits
 by_cases c:n=0
 .subst c;simp
 .have:((n:Int)==0)=false:=by simpa using c
  rw[this];simp only[Bool.false_eq_true,if_false,Int.natAbs_natCast];have:=(Nat.log2_lt c).mpr h
  assumption
theorem yQ {n:Nat}(h:n<2^64):fits (n:Int)=true:=by have:=qZ h;exact dg (by exact qp ‹_› rfl)
theorem G3 (a k:Nat):(a:Int).fdiv (2^((k:Int)).toNat)=((a / 2^k:Nat):Int):=by
 rw[mY,Int.fdiv_eq_ediv_of_nonneg _ (by exact_mod_cast gL _)]
 norm_cast
theorem Gz (x k:Nat):x &&& (x / 2^k*2^k)=x / 2^k*2^k:=by
 rw[<- Nat.shiftRight_eq_div_pow,<- Nat.shiftLeft_eq];apply Nat.eq_of_testBit_eq;intro i;rw[Nat.testBit_and,Nat.testBit_shiftLeft];by_cases c:k<=i
 .rw[Nat.testBit_shiftRight];simp[c]
 .simp[c]
theorem Hu (x k:Nat):Builtin.bitXor (x:Int) (((x / 2^k:Nat):Int)*2^((k:Int)).toNat)=((x % 2^k:Nat):Int):=by
 have e:(((x / 2^k:Nat):Int)*2^((k:Int)).toNat)=((x / 2^k*2^k:Nat):Int):=by rw[mY];norm_cast
 rw[e,PyProof.Rows.bitXor_and];have:Builtin.bitAnd (x:Int) ((x / 2^k*2^k:Nat):Int)=((x / 2^k*2^k:Nat):Int):=by rw[PyProof.Rows.bitAnd_pp (Int.natCast_nonneg _) (Int.natCast_nonneg _)];simp only[mY,Gz]
 rw[this];rw[Int.two_mul,Int.add_sub_add_right,<- Int.ofNat_sub (Nat.div_mul_le_self x _),Nat.mul_comm];exact congrArg Int.ofNat (Nat.sub_eq_of_eq_add (Nat.mod_add_div x (2^k)).symm)
theorem mI (a k:Nat):eE .RShift (ae a) (ae k)=some (ae (a / 2^k)):=by
 show eR .RShift a k=_
 delta eR
 simp only[G3];rw[if_pos (by simp)]
theorem mH {m:Nat}(h:a<2^m)(hm:m+k<=2^27):eE .LShift (ae a) (ae k)=some (ae (a*2^k)):=by
 show eR .LShift a k=_;have:=qZ h;have c:(decide ((0:Int)<=(k:Int))&&decide ((ib (a:Int):Int)+(k:Int)<=2^27))=true:=by
  rw[eO,jE,jE];have e:(2:Int)^27=134217728:=by decide
  rw[e]
  lia
 have e:eR .LShift (a:Int) (k:Int)=if decide ((0:Int)<=(k:Int))&&decide ((ib (a:Int):Int)+(k:Int)<=2^27)then some (.int ((a:Int)*2^(k:Int).toNat))else none:=rfl;rw[e,if_pos c,mY]
 norm_cast
theorem eF (a b:Nat):eE .Add (ae a) (ae b)=some (ae (a+b)):=by
 show eR .Add a b=_
 norm_cast
theorem ge (h:b<=a):eE .Sub (ae a) (ae b)=some (ae (a-b)):=by show eR .Sub a b=_;exact congrArg (fun i=>some (PyData.int i)) (Int.ofNat_sub h).symm
theorem jG {a b:Nat}(ha:a<2^64)(hb:b<2^64):eE .Mult (ae a) (ae b)=some (ae (a*b)):=by
 show eR .Mult a b=_
 delta eR
 simp only[yQ ha,yQ hb,Bool.and_self,if_true]
 norm_cast
theorem sE (x k:Nat):eE .BitXor (ae x) (ae (x / 2^k*2^k))=some (ae (x % 2^k)):=by
 show eR .BitXor x _=_
 delta eR
 have:=Hu x k;rw[show(((x / 2^k:Nat):Int)*2^((k:Int)).toNat)=((x / 2^k*2^k:Nat):Int) by rw[mY];norm_cast]at this;simp only[this]
theorem uJ (a b:Nat):bH .Eq (ae a) (ae b)=some (.bool (decide (a=b))):=by
 show(if gc 8 (ae a)&&gc 8 (ae b)then some (PyData.bool (PyData.eqv (ae a) (ae b)))else none)=_;rw[if_pos (by rfl)]
 congr 2
 show decide ((a:Int)=(b:Int))=_;exact decide_eq_decide.mpr (by lia)
section
variable {G:GC}{A:Around}{s:Shared}
theorem Bi {D:Addr}{vs:Array Value}{k:Int}{t:Tok}{v:Value}{Q:Unit->Shared->Prop}{E:ba}(hl:s.heap.PlainList D vs)(h0:0<=k)(hf:k<2^63)(hn:k<vs.size)
  (q:∀h',h'.PlainList D (vs.setIfInBounds k.toNat v)->Heap.SameBut D s.heap h'->Q () { s with heap:=h' }):wpAny (bC G) A (setItem (.ref D) (.int k t) v) Q E s:=by
 obtain⟨n,ho⟩:=id hl;have hi:s.heap.IsList D vs:=hl.isList;unfold setItem
 try with_reducible refine wpAny_holding ?_
 first|refine aH (bg ?_)|skip
 refine aH (wpAny_sequenceKey hi.typeIs (by decide) ?_);refine aH (wpAny_callSpecial?_slot (name:=Str.ofString "__setitem__") hi.typeIs slot_list_setitem
  (wpAny_call_entry slot_list_setitem hi.typeIs entry_list_setitem ?_ (args_list_setitem _ _ _)))
 show wpAny _ _ (Builtin.List.listSubscript? (.int k t) >>= _) _ _ s;refine aH (wpAny_listSubscript_int (fitsIndex_of h0 hf) ?_);clear hf;obtain⟨j,rfl⟩:=Int.eq_ofNat_of_zero_le h0;have hj:j<vs.size:=by lia
 have hx:vs[j]?=some vs[j]:=Array.getElem?_eq_getElem hj;show wpAny _ _ ((seqItemAt D j >>= fun r=>pure (r.map (j,·))) >>= _) _ _ s;refine aH (aH (wpAny_seqItemAt ho rfl (bg ?_)));rw[hx];show wpAny _ _ (setSeqItemAt D j v >>= _) _ _ s;have hm:Obj.mapSeq (·.setIfInBounds j v) { cls:=.type "list",data:=.seq vs n }={ cls:=.type "list",data:=.seq (vs.setIfInBounds j v) n }:=by simp[Obj.mapSeq]
 have fin:(s.heap.update D (Obj.mapSeq (·.setIfInBounds j v))).PlainList D (vs.setIfInBounds j v):=⟨n,by rw[Heap.get?_update_self _ ho (by rw[hm];rfl),hm]⟩;refine aH (wpAny_setSeqItemAt ho rfl ?_)
 first
  |exact aH (bg (bg ⟨.none,rfl,bg (q _ fin (Heap.SameBut.update ..))⟩))
  |exact bg ⟨.none,rfl,bg (q _ fin (Heap.SameBut.update ..))⟩
def IV (vs:fO)(ns:aN):Prop:=vs.length=ns.length/\∀(i n:Nat),ns[i]?=some n->∃t:Tok,vs[i]?=some (Value.int (n:Int) t)
theorem IV.reps (x:IV vs ns):ak w O h vs (ns.map ae):=by refine ak.of_get (by simpa using x.1) fun i v d h1 h2=>?_;rw[List.getElem?_map]at h2;obtain⟨n,h3,rfl⟩:=Option.map_eq_some_iff.mp h2;obtain⟨t,h4⟩:=x.2 i n h3;rw[h1]at h4;obtain rfl:=aG h4;exact .int
theorem IV.of (r:ak w O h vs (ns.map ae)):IV vs ns:=by refine⟨by simpa using r.length,fun i n h1=>?_⟩;obtain⟨v,h2,h3⟩:=r.get i (ae n) (by rw[List.getElem?_map,h1];rfl);obtain⟨t,rfl⟩:=h3.int_inv;exact⟨t,h2⟩
set_option tactic.hygienic true in
theorem IV.set (x:IV vs ns)(k n:Nat)(t:Tok):IV (vs.set k (Value.int (n:Int) t)) (ns.set k n):=by
 refine⟨by simpa using x.1,fun i m h=>?_⟩;rw[List.getElem?_set]at h ⊢;by_cases c:k=i
 .subst c;rw[if_pos rfl]at h ⊢;split at h
  .rename_i hk;obtain rfl:=aG h;rw[if_pos (by rw[x.1];exact hk)];exact⟨t,rfl⟩
  .exact nn h
 .rw[if_neg c]at h ⊢;exact x.2 i m h
theorem bI.drop (x:bI G (L::W) s s')(h:s.heap.get? L=none):bI G W s s':=
 ⟨x.same,fun b o m e c=>x.keep b o (fun q=>by
   rcases bA q with rfl|q
   .rw[h]at e;exact nn e
   .exact m q) e c,x.base,x.pos,fun b m e=>if c:b=L then c▸h else x.back b (fun q=>(bA q).elim c m) e⟩
noncomputable def jn:List Str:=["a_digits", "inner", "n", "x", "L", "R", "mid", "shift", "upper", "lower", "digits", "a"]
noncomputable def S0:cU:=⟨fun _ _=>none,fun _=>none,false⟩
theorem CQ:oP G A S0.cal:=⟨fun f x ds d _ h=>(by exact nn h)⟩
theorem u5:gY G S0.gl:=fun n x d _ h=>(by exact nn h)
theorem oF (h:Nat.ble a b=true):a<=b:=Nat.le_of_ble_eq_true h
theorem bi (h:o=some x)(e:k x=r):o.bind k=r:=by rw[h];exact e
theorem li (h:o=some (.list x))(e:k x=r):fM o k=r:=bi h e
theorem si (h:o=some (.str x))(e:k x=r):jA o k=r:=bi h e
theorem ti (h:o=some (.tuple x))(e:k x=r):xV o k=r:=bi h e
theorem aC (ha:ev S ρ a=some x)(hb:ev S ρ b=some y)(h:eE o x y=some z):ev S ρ (.b o a b)=some z:=bi ha (bi hb h)
theorem aa (h:ρ.get n=some d):ev S ρ (.v n)=some d:=h
theorem ar:ev S ρ (.l d)=some d:=rfl
theorem ah (h:ev S ρ e=some d)(hs:mK S ρ es=some ds):mK S ρ (.c e es)=some (d::ds):=bi h (bi hs rfl)
theorem jm {np pos:Pos}{args:dN}{ds:List D}{Q:ba}{E:ba}(I:cV G A env dE O ρ s)
  (hk:env.kindOf x=some .free\/env.kindOf x=some .cell)(hc:env.cells.lookup x=some ci)(hq:s.heap.IsCell ci (some (.ref f))) (h1:(x==("__classdict__" : Str))=false) (h2:(x==("__debug__" : Str))=false)
  (hf:∃o fd,s.heap.get? f=some o/\o.data=.func fd)(hst:cC args=true)(ha:mf G A args env dE O ρ ds)
  (k:∀s1 vs,Ext G s s1->ak G.w O s1.heap vs ds->wpAny (bC G) A (call (.ref f) vs) Q E s1):wpAny (bC G) A (eval (.Call (.Name x np) args [] pos) env) Q E s:=by
 obtain⟨o,fd,f1,f2⟩:=hf;have go:wpAny (bC G) A (callWith pos (.ref f) [] (backTo pos (starEach args env)) (backToKw pos (keywordEach [] env))) Q E s:=by refine callWith_function_kw (o:=o) (fd:=fd) (bl hst (ha s pos I _ _ fun vs s1 x1 r1=>⟨⟨x1.keep _ _ f1 (.inr fun vs q=>by rw[f2]at q;cases q),f2⟩, ?_⟩));exact k s1 vs x1 r1
 refine wpAny_Call_Name_kw (wpAny_Name ?_ h2);rcases hk with hk|hk
 .exact wpAny_loadName_free I.envr.fn hk hc hq go h1
 .exact wpAny_loadName_cell I.envr.fn hk hc hq go
end
end
section
section
variable {G:GC}{A:Around}{s:Shared}
noncomputable def ji:List (Str × NameKind):=[("x", .local),("L", .local),("R", .local),("mid", .local),("shift", .local),("upper", .local),("lower", .local),("a_digits", .free),("inner", .free),("n", .free)]
noncomputable abbrev KS:E:=.b .RShift (.b .Add (.v 4) (.v 5)) (.l (.int 1))
noncomputable abbrev Co:E:=.b .Mult (.b .Sub (.v 6) (.v 4)) (.v 2)
noncomputable abbrev N3:E:=.b .RShift (.v 3) (.v 7)
noncomputable abbrev Na:E:=.b .BitXor (.v 3) (.b .LShift (.v 8) (.v 7))
noncomputable abbrev F7:E:=.q .Eq (.b .Add (.v 4) (.l (.int 1))) (.v 5)
def xf (s:Stmt)(k:Str->Expr->Bool):Bool:=jq s fun t v=>bh t fun m _=>k m v
@[elab_as_elim] theorem nu {s:Stmt}{k:Str->Expr->Bool}{P:Stmt->Prop}(h:xf s k=true)(q:∀m np v p,k m v=true->P (.Assign [.Name m np] v p)):P s:=by refine da h fun t v p h=>?_;exact aA h fun m np h=>q m np v p h
def tm (s:Stmt)(k:Str->dN->Bool):Bool:=oJ s fun z _=>ch z k
@[elab_as_elim] theorem lF {s:Stmt}{k:Str->dN->Bool}{P:Stmt->Prop}(h:tm s k=true)(q:∀f np a cp ep,k f a=true->P (.Expr (.Call (.Name f np) a [] cp) ep)):P s:=by refine iK h fun z ep h=>?_;exact aR h fun f np a cp h=>q f np a cp ep h
def zs (s:Stmt)(k:Expr->ez->Bool):Bool:=zt s fun t b e _=>bK e (k t b)
@[elab_as_elim] theorem kB {s:Stmt}{k:Expr->ez->Bool}{P:Stmt->Prop}(h:zs s k=true)(q:∀t b p,k t b=true->P (.If t b [] p)):P s:=by refine kC h fun t b e p h=>?_;exact aI h fun h=>q t b p h
def HV (s:Stmt)(k:Str->Expr->Expr->Bool):Bool:=jq s fun z v=>eI z fun z i _=>bh z fun y _=>k y i v
@[elab_as_elim] theorem xm {s:Stmt}{k:Str->Expr->Expr->Bool}{P:Stmt->Prop}(h:HV s k=true)(q:∀y np i sp v p,k y i v=true->P (.Assign [.Subscript (.Name y np) i sp] v p)):P s:=by refine da h fun z v p h=>?_;refine cQ h fun z i sp h=>?_;exact aA h fun y np h=>q y np i sp v p h
def pQ (s:Stmt)(k:Expr->Bool):Bool:=jQ s fun z _=>iL z k
@[elab_as_elim] theorem gU {s:Stmt}{k:Expr->Bool}{P:Stmt->Prop}(h:pQ s k=true)(q:∀e p,k e=true->P (.Return (some e) p)):P s:=by refine gD h fun z p h=>?_;exact eH h fun e h=>q e p h
def DO (s:Stmt)(k:Bool):Bool:=jQ s fun z _=>gB z k
@[elab_as_elim] theorem vE {s:Stmt}{k:Bool}{P:Stmt->Prop}(h:DO s k=true)(q:∀p,k=true->P (.Return none p)):P s:=by refine gD h fun z p h=>?_;exact cW h fun h=>q p h
def zq (x:Expr)(o:Operator)(k:Expr->Expr->Bool):Bool:=oI x fun l o' r _=>DM o' o (k l r)
@[elab_as_elim] theorem kz {k:Expr->Expr->Bool}{P:Expr->Prop}(h:zq x o k=true)(q:∀l r p,k l r=true->P (.BinOp l o r p)):P x:=by refine iI h fun l o' r p h=>?_;exact ry h fun h=>q l r p h
def DK (s:Stmt)(k:Str->Arguments->ez->Scope->Str->Pos->Bool):Bool:=gC s fun n ps ib z1 z2 z3 sc z4 bnd p=>bK z1 <| gB z2 <| bK z3 <| gB z4 (k n ps ib sc bnd p)
@[elab_as_elim] theorem pP {s:Stmt}{k:Str->Arguments->ez->Scope->Str->Pos->Bool}{P:Stmt->Prop}(h:DK s k=true)(q:∀n ps ib sc bnd p,k n ps ib sc bnd p=true->P (.FunctionDef n ps ib [] none [] sc none bnd p)):P s:=by refine jY h fun n ps ib z1 z2 z3 sc z4 bnd p h=>?_;refine aI h fun h=>?_;refine cW h fun h=>?_;refine aI h fun h=>?_;exact cW h fun h=>q n ps ib sc bnd p h
def Jc (c:Cx)(i:Nat)(e:E)(s:Stmt):Bool:=xf s fun m v=>c.nm[i]?==some m&&c.sc.lookup m==some .local&&!lT v&&a7 c e v
def Nc (c:Cx)(es:Es)(s:Stmt):Bool:=tm s fun f a=>f==("inner" : Str)&&eP c es a
def Ls (c:Cx)(t:Expr)(y1:Str)(i1 v1:Expr):Bool:=a7 c F7 t&&y1==("a_digits" : Str)&&a7 c (.v 4) i1&&a7 c (.v 3) v1&&!lT v1
def HY (c:Cx)(s2 s3 s4 s5 s6 s7:Stmt):Bool:=Jc c 6 KS s2&&Jc c 7 Co s3&&Jc c 8 N3 s4&&Jc c 9 Na s5&&Nc c (.c (.v 9) (.c (.v 4) (.c (.v 6) .n))) s6&&Nc c (.c (.v 8) (.c (.v 6) (.c (.v 5) .n))) s7
inductive KJ (c:Cx):ez->Prop
 |mk {t:Expr}{y1:Str}{q1:Pos}{i1:Expr}{q2:Pos}{v1:Expr}{q3:Pos}{q4:Pos}{q5:Pos}{s2 s3 s4 s5 s6 s7:Stmt}(h1:Ls c t y1 i1 v1=true)(h2:HY c s2 s3 s4 s5 s6 s7=true):KJ c [.If t [.Assign [.Subscript (.Name y1 q1) i1 q2] v1 q3, .Return none q4] [] q5,s2,s3,s4,s5,s6,s7]
def oy (c:Cx)(b:ez):Bool:=
 bu b fun s1 r=>bu r fun s2 r=>bu r fun s3 r=>bu r fun s4 r=>bu r fun s5 r=>bu r fun s6 r=>fz r fun s7=>HY c s2 s3 s4 s5 s6 s7&&zs s1 fun t b=>bu b fun a r=>fz r fun r=>DO r <| HV a fun y1 i1 v1=>Ls c t y1 i1 v1
theorem u9 {c:Cx}{b:ez}(h:oy c b=true):KJ c b:=by refine ay h fun s1 r h=>ay h fun s2 r h=>ay h fun s3 r h=>ay h fun s4 r h=>ay h fun s5 r h=>ay h fun s6 r h=>aP h fun s7 h=>?_;refine kB (ai h).2 fun t b p k=>ay k fun a r k=>aP k fun r k=>vE k fun p2 k=>xm k fun y np i sp v p3 k=>.mk k (ai h).1
theorem rg {env:Env}{O:a9}{ρ:aF}{i:Nat}{e:E}{st:Stmt}{d:D}{Q:Flow->Shared->Prop}{E:ba}(X:bV G A S c env dE)(I:cV G A env dE O ρ s)
  (h:Jc c i e st=true)(he:ev S ρ e=some d)(q:∀s',bI G [env.locals] s s'->cV G A env dE O (ρ.set i d) s'->Q .next s'):wpAny (bC G) A (exec st env) Q E s:=by
 refine nu h fun m np v p h=>gt h fun h1 h2 h3 h4=>?_;exact Jd X I (X.nm▸eM h1) (by show env.scope.names.lookup m=_;rw[X.sc];exact eM h2) (xS (im h3) _ _ _) h4 he q
theorem HP {env:Env}{O:a9}{ρ:aF}{f ci:Addr}{es:Es}{ds:List D}{st:Stmt}{Q:Flow->Shared->Prop}{E:ba}(X:bV G A S c env dE)(I:cV G A env dE O ρ s)
  (h:Nc c es st=true)(hk:env.kindOf "inner" = some .free\/env.kindOf "inner" = some .cell) (hc:env.cells.lookup ("inner" : Str)=some ci) (hq:s.heap.IsCell ci (some (.ref f)))
  (hf:∃o fd,s.heap.get? f=some o/\o.data=.func fd)(he:mK S ρ es=some ds)
  (k:∀s1 vs,Ext G s s1->ak G.w O s1.heap vs ds->wpAny (bC G) A (call (.ref f) vs) (fun v s'=>match v with|.ref _=>False|_=>Q .next s') E s1):wpAny (bC G) A (exec st env) Q E s:=by
 refine lF h fun y np a cp ep h=>qH h fun h1 h2=>?_;obtain rfl:=eM h1;exact wpAny_Expr (jm I hk hc hq rfl rfl hf (dy.ns (a8 es) X h2) ((a8 es X h2).el _ he) k) (gi X.fn) (cg rfl _ _ _)
theorem iR {A B C:Str}{x y z:Addr}{k:Str}{v:Addr}{P:Str->Addr->Prop}(h:([(A,x),(B,y),(C,z)]:List (Str × Addr)).lookup k=some v)(a:P A x)(b:P B y)(c:P C z):P k v:=by
 rcases bA (mem_of_lookup h)with e|m
 .cases e;exact a
 .rcases bA m with e|m
  .cases e;exact b
  .cases aS m;exact c
theorem zR {A B C:Str}{x y z:Addr}(n1:z≠y)(n2:y≠x)(n3:z≠x){k k':Str}{v:Addr}(h:([(A,x),(B,y),(C,z)]:List (Str × Addr)).lookup k=some v)(h':([(A,x),(B,y),(C,z)]:List (Str × Addr)).lookup k'=some v):k=k':=
 iR (P:=fun k v=>∀k',([(A,x),(B,y),(C,z)]:List (Str × Addr)).lookup k'=some v->k=k') h
  (fun k' h'=>iR (P:=fun k' v=>v=x->A=k') h' (fun _=>rfl) (fun e=>absurd e n2) (fun e=>absurd e n3) rfl)
  (fun k' h'=>iR (P:=fun k' v=>v=y->B=k') h' (fun e=>absurd e.symm n2) (fun _=>rfl) (fun e=>absurd e n1) rfl)
  (fun k' h'=>iR (P:=fun k' v=>v=z->C=k') h' (fun e=>absurd e.symm n3) (fun e=>absurd e.symm n1) (fun _=>rfl) rfl) k' h'
set_option tactic.hygienic true in
@[elab_as_elim] theorem oL {n:Nat}{v:D}{P:Nat->D->Prop}(h:aF.get [(a,x),(b,y),(c,z),(d,w)] n=some v)(pa:P a x)(pb:P b y)(pc:P c z)(pd:P d w):P n v:=by
 rw[aF.get_cons]at h;split at h
 .rename_i e;subst e;exact aG h▸pa
 .rw[aF.get_cons]at h;split at h
  .rename_i e;subst e;exact aG h▸pb
  .rw[aF.get_cons]at h;split at h
   .rename_i e;subst e;exact aG h▸pc
   .rw[aF.get_cons]at h;split at h
    .rename_i e;subst e;exact aG h▸pd
    .exact nn h
theorem EI {A B C y:Str}{P:Str->Prop}(h:[A,B,C].contains y=true)(a:P A)(b:P B)(c:P C):P y:=by
 rcases bA (List.contains_iff_mem.mp h)with e|m
 .exact e▸a
 .rcases bA m with e|m
  .exact e▸b
  .exact aS m▸c
theorem yV {sc:List (Str × NameKind)}{A B C y:Str}{P:Str->Prop}(hs:sc.all (fun p=>p.2 != .free || [A,B,C].contains p.1)=true)(h:sc.lookup y=some .free)(a:P A)(b:P B)(c:P C):P y:=
 EI (show[A,B,C].contains y=true from br hs _ (mem_of_lookup h)) a b c
theorem bQ (nm:∀(i:Nat) (x:Str),jn[i]?=some x->G.names[i]?=some x){n:Nat}{y z:Str}(h:G.names[n]?=some y)(hz:jn[n]?=some z):y=z:=aG (h.symm.trans (nm n z hz))
theorem fA {h:Heap}(x:h.IsCell c v):∃o,h.get? c=some o/\gq o:=by obtain⟨o,e,d⟩:=x;exact⟨o,e, .inr fun vs q=>by rw[d]at q;cases q⟩
structure rW (G:GC)(h:Heap)(f D ca ci cn:Addr)(nb:Nat)(fd:FuncData)(body:ez):Prop where
 N:oR G h f fd body [("n",cn),("inner",ci),("a_digits",ca)]
 a:h.IsCell ca (some (.ref D))
 i:h.IsCell ci (some (.ref f))
 n:∃t,h.IsCell cn (some (.int (nb:Int) t))
def BC (o:Obj):Prop:=(∀fd,o.data≠.func fd)/\(∀vs,o.data≠.fields vs)/\∀v,o.data≠.cell v
theorem kX (x:h.IsCell c v)(k:aL W h h')(hW:∀a∈W,∀o,h.get? a=some o->BC o):h'.IsCell c v:=
 let⟨o,e,d⟩:=x;⟨o,k _ _ (fun m=>(hW _ m _ e).2.2 _ d) e (.inr fun vs q=>by rw[d]at q;cases q),d⟩
theorem rW.but {h h':Heap}{f D ca ci cn:Addr}{nb:Nat}{fd:FuncData}{body:ez}{W:a9}(x:rW G h f D ca ci cn nb fd body)(k:aL W h h')(hW:∀a∈W,∀o,h.get? a=some o->BC o):rW G h' f D ca ci cn nb fd body:=
 ⟨x.N.keepBut k fun a m o e=>⟨(hW a m o e).1,(hW a m o e).2.1⟩,kX x.a k hW,kX x.i k hW,let⟨t,y⟩:=x.n;⟨t,kX y k hW⟩⟩
theorem rW.keep {f D ca ci cn:Addr}{nb:Nat}{fd:FuncData}{body:ez}(x:rW G h f D ca ci cn nb fd body)(k:dS h h'):rW G h' f D ca ci cn nb fd body:=
 x.but (W:=[]) (fun b o _ e c=>k b o e c) fun _ m=>by cases m
theorem zL {h:Heap}(x:h.Ns a m):∀b∈[a],∀o,h.get? b=some o->BC o:=fun b mb o e=>by
 rcases aS mb with rfl
 obtain⟨o',es,ep,e',d,_⟩:=x;rw[e']at e;obtain rfl:=aG e;exact⟨fun _ q=>(by rw[d]at q;cases q),fun _ q=>(by rw[d]at q;cases q),fun _ q=>(by rw[d]at q;cases q)⟩
theorem rK {h:Heap}(x:h.PlainList a vs):∀b∈[a],∀o,h.get? b=some o->BC o:=fun b mb o e=>by
 rcases aS mb with rfl
 obtain⟨n,e'⟩:=x;rw[e']at e;have e:=aG e;have hd:o.data=.seq vs n:=by rw[<- e]
 exact⟨fun _ q=>(by rw[hd]at q;cases q),fun _ q=>(by rw[hd]at q;cases q),fun _ q=>(by rw[hd]at q;cases q)⟩
theorem xM {xs:aN}{a b:aN}(h1:L<=m)(h2:m<=R)(h3:R<=xs.length)(ha:a.length=m-L) :
  (xs.take L++a++xs.drop m).take m++b++(xs.take L++a++xs.drop m).drop R=xs.take L++(a++b)++xs.drop R:=by
 have e:(xs.take L++a).length=m:=by rw[dR,List.length_take,ha,Nat.min_eq_left (aJ h1 (aJ h2 h3)),Nat.add_sub_cancel' h1]
 rw[List.take_left' e,List.drop_append,e,List.drop_of_length_le (aJ (Nat.le_of_eq e) h2),List.nil_append,List.drop_drop,Nat.add_sub_cancel' h2,List.append_assoc (xs.take L)]
end
end
section
section
variable {G:GC}{A:Around}{s:Shared}
theorem IV.three (h:IV vals [x,L,R]):∃t1 t2 t3,vals=[.int x t1, .int L t2, .int R t3]:=by
 obtain⟨t1,h1⟩:=h.2 0 x rfl;obtain⟨t2,h2⟩:=h.2 1 L rfl;obtain⟨t3,h3⟩:=h.2 2 R rfl;refine⟨t1,t2,t3,List.ext_getElem? fun i=>?_⟩
 match i with
 |0=>exact h1
 |1=>exact h2
 |2=>exact h3
 |n+3 =>
  rw[Dm (by rw[h.1];exact Nat.le_add_left 3 n)];rfl
theorem cV.turn {env:Env}{D:Addr}{vs vs':Array Value}{s':Shared}(I:cV G A env dE O ρ s)(x:bI G [D] s s')(l:s.heap.PlainList D vs)(l':s'.heap.PlainList D vs')(hD:D∈O)(hc:∀y c,env.cells.lookup y=some c->c≠D):cV G A env dE O ρ s':=by
 obtain⟨n,e⟩:=id l;obtain⟨n',e'⟩:=id l';have ne_loc:env.locals∉[D]:=fun m=>by obtain⟨mm,⟨o,es,ep,e2,e3,_⟩,_⟩:=I.envr.ns;rw[aS m,e]at e2;obtain rfl:=aG e2;cases e3
 have ne_cell:∀y c,env.cells.lookup y=some c->c∉[D]:=fun y c h m=>hc y c h (aS m);exact⟨I.ok,I.hh,x.base,x.pos,I.ov.but x.keep fun a m=>by rcases aS m with rfl;exact⟨_,e', .inl (by show Value.type _≠_;nofun)⟩,
  I.envr.but x.keep (fun a m o h=>by
   rcases aS m with rfl
   rw[e]at h;have h:=aG h;subst h;exact⟨ik rfl rfl,fun _=>hD⟩) ne_loc ne_cell fun n a vs h=>by exact nn h⟩
theorem dI {h:Heap}{c D:Addr}{v:Option Value}{vs:Array Value}(x:h.IsCell c v)(l:h.PlainList D vs):c≠D:=fun q=>by obtain⟨o,e,d⟩:=x;obtain⟨n,e'⟩:=l;rw[q,e']at e;have e:=aG e;rw[<- e]at d;cases d
theorem bI.of_list {D:Addr}{vs vs':Array Value}{h':Heap}(B:a5 G s.heap)(p:0<s.toks)(hD:G.h₀.get? D=none)(l:s.heap.PlainList D vs)(l':h'.PlainList D vs')(hs:Heap.SameBut D s.heap h'):bI G [D] s { s with heap:=h' }:=by
 obtain⟨n,e⟩:=id l;refine⟨⟨rfl,rfl⟩,cY (aQ hs),B.but (aQ hs) (fun a m=>by rcases aS m with rfl;exact hD) (fun a m o q=>?_),p,fun b m e'=>bw (fun o q=>aQ hs b o m q) e'⟩;rcases aS m with rfl
 rw[e]at q;have q:=aG q;subst q;exact ik rfl rfl
def KZ (x L R nb:Nat):aF:=[(3,ae x),(4,ae L),(5,ae R),(2,ae nb)]
def MX (G:GC)(f D ca ci cn:Addr)(nb:Nat)(fd:FuncData)(body:ez)(k:Nat):Prop:=
 ∀{A:Around}{s:Shared}{xs:aN}{x L R:Nat}{vals:fO}{vs:Array Value},A.handled=none->A.depth+k<recursionLimit->A.units+3*(k+1)+100<cLine->a5 G s.heap->0<s.toks ->
   rW G s.heap f D ca ci cn nb fd body->s.heap.PlainList D vs->IV vs.toList xs->IV vals [x,L,R]->L<R->R<=xs.length->R-L<=2^k->nb*xs.length<=2^26->x<2^(nb*(R-L)) ->
   ∀(Q:ba)(E:ba),(∀s' vs',bI G [D] s s'->s'.heap.PlainList D vs'->IV vs'.toList (xs.take L++dA nb x (R-L)++xs.drop R)->Q .none s')->wpAny (bC G) A (call (.ref f) vals) Q E s
theorem tG {L m R:Nat}(h1:L<=m)(h2:m<=R):m-L+(R-m)=R-L:=(Nat.add_comm _ _).trans (Nat.sub_add_sub_cancel h2 h1)
theorem Lj (h:L<R)(h1:¬ L+1=R)(b:L+R<2*m+2):L<m:=by lia
theorem Lk (h:L<R)(a:2*m<=L+R):m<R:=by lia
theorem Ll (hk:R<=2*p+L)(a:2*m<=L+R):m<=p+L:=by lia
theorem Lm (hk:R<=2*p+L)(b:L+R<2*m+2):R<=p+m:=by lia
theorem Dx (h:L<R)(h1:¬ L+1=R)(hk:R-L<=2*p)(hm:m=(L+R) / 2):L<m/\m<R/\m-L<=p/\R-m<=p:=by have a:2*m<=L+R:=hm▸Nat.mul_div_le _ _;have b:L+R<2*m+2:=hm▸Nat.lt_mul_div_succ (L+R) (by decide);clear hm;have c:=Nat.le_add_of_sub_le hk;exact⟨Lj h h1 b,Lk h a,Nat.sub_le_of_le_add (Ll c a),Nat.sub_le_of_le_add (Lm c b)⟩
set_option tactic.hygienic true in
theorem vb (ok:oQ G)(nm:∀(i:Nat) (x:Str),jn[i]?=some x->G.names[i]?=some x){f D ca ci cn:Addr}{nb:Nat}{fd:FuncData}{body:ez}
  (hb:oy ⟨G.names,ji,[]⟩ body=true)(hsc:fd.scope.names=ji)(hbind:∀a b c,bindArgs fd ⟨[a,b,c],[]⟩=pure [(("x" : Str),a),(("L" : Str),b),(("R" : Str),c)])
  (h0:G.h₀.get? ca=none/\G.h₀.get? ci=none/\G.h₀.get? cn=none/\G.h₀.get? D=none)(hne:ca≠ci/\ci≠cn/\ca≠cn)(hnb:0<nb){k:Nat}(ih:∀j,k=j+1->MX G f D ca ci cn nb fd body j):MX G f D ca ci cn nb fd body k:=by
 intro A s xs x L R vals vs hh hr hu B p C l iv ivv hLR hR hk hsz hx Q E q;obtain⟨t1,t2,t3,rfl⟩:=ivv.three;obtain⟨hca,hci,hcn,hD⟩:=h0;obtain⟨tn,Cn⟩:=C.n;have neD':∀y c,([("n",cn),("inner",ci),("a_digits",ca)]:List (Str × Addr)).lookup y=some c->c≠D:=fun y c h=>iR (P:=fun _ c=>c≠D) h (dI Cn l) (dI C.i l) (dI C.a l);refine rq (O:=[ca,ci,cn,D]) (xs:=["x", "L", "R"]) (ρ:=KZ x L R nb) ok hh (by lia) B p (fun a m=>?_) C.N (hbind _ _ _) (fun y hy=>?_) (fun y hy=>?_) (fun y c h=>?_) (fun y z c h h'=>?_) (fun y hy=>?_) (fun n y d h1 h2 h3=>?_) (fun n y d h1 h2 h3=>?_) fun env s1 e1 e2 e3 X1 I1 E'=>?_
 .rcases bA m with rfl|m
  .exact fA C.a
  .rcases bA m with rfl|m
   .exact fA C.i
   .rcases bA m with rfl|m
    .exact fA Cn
    .obtain rfl:=aS m;obtain⟨n,e⟩:=l;exact⟨_,e, .inl (by show Value.type _≠_;nofun)⟩
 .rw[hsc];exact eM (br (show(["x", "L", "R"]:List Str).all (fun y=>ji.lookup y==some .local)=true from rfl) y hy)
 .rw[hsc]at hy;exact br (show ji.all (fun p=>decide (p.2≠.cell))=true from rfl) y hy |> bJ
 .exact iR (P:=fun _ c=>c∈([ca,ci,cn,D]:a9)/\G.h₀.get? c=none) h ⟨.tail _ (.tail _ (.head _)),hcn⟩ ⟨.tail _ (.head _),hci⟩ ⟨.head _,hca⟩
 .exact zR hne.1 hne.2.1 hne.2.2 h h'
 .rw[hsc]at hy;exact yV (P:=fun y=>∃c v,([("n",cn),("inner",ci),("a_digits",ca)]:List (Str × Addr)).lookup y=some c/\s.heap.IsCell c v) (A:="a_digits") (B:="inner") (C:="n") rfl hy ⟨_,_,rfl,C.a⟩ ⟨_,_,rfl,C.i⟩ ⟨_,_,rfl,Cn⟩
 .revert h1 h2;refine oL h3 ?_ ?_ ?_ ?_
  .intro h1 _;obtain rfl:=bQ nm h1 rfl;exact⟨_,rfl, .int⟩
  .intro h1 _;obtain rfl:=bQ nm h1 rfl;exact⟨_,rfl, .int⟩
  .intro h1 _;obtain rfl:=bQ nm h1 rfl;exact⟨_,rfl, .int⟩
  .intro h1 h2;obtain rfl:=bQ nm h1 rfl;rw[hsc]at h2;exact absurd h2 (by decide)
 .revert h1 h2;refine oL h3 ?_ ?_ ?_ ?_
  .intro h1 h2;obtain rfl:=bQ nm h1 rfl;rw[hsc]at h2;exact absurd h2 (by decide)
  .intro h1 h2;obtain rfl:=bQ nm h1 rfl;rw[hsc]at h2;exact absurd h2 (by decide)
  .intro h1 h2;obtain rfl:=bQ nm h1 rfl;rw[hsc]at h2;exact absurd h2 (by decide)
  .intro h1 _;obtain rfl:=bQ nm h1 rfl;exact⟨cn,_,rfl,Cn, .int⟩
 .have hI:=u9 hb;clear hb;cases hI;rename_i hb hr
  .refine nf hb fun b1 b2 b3 b4 b5=>hZ hr fun b6 b7 b8 b9 b11 b13=>?_;have b2:=eM b2;have b5:=im b5;have X:bV G (A.deeper env) S0 ⟨G.names,ji,[]⟩ env dE:=⟨rfl,by rw[e1,hsc],fun n=>by simp,by rw[e1];exact C.N.kind,CQ,u5,hh,by show A.units+3+100<cLine;lia⟩;have kd:∀y,env.kindOf y=ji.lookup y:=fun y=>by show env.scope.names.lookup y=_;rw[e1,hsc]
   have hfn:=X.fn;have hw:(2:Nat)^26<2^64:=by decide
   have hm1:nb*(R-L)<=nb*xs.length:=Nat.mul_le_mul_left _ (aJ (Nat.sub_le _ _) hR);have hm2:R<=nb*xs.length:=aJ hR (Nat.le_mul_of_pos_left _ hnb);have h26:(2:Nat)^26=67108864:=by decide
   have ne_loc:env.locals∉[D]:=fun m=>by obtain⟨n,e⟩:=l;rw[aS m]at e3;rw[e3]at e;exact nn e
   have ldD:∀{s2:Shared}{Q:ba}{E:ba}{np:Pos},s2.heap.IsCell ca (some (.ref D))->Q (.ref D) s2->wpAny (bC G) (A.deeper env) (eval (.Name "a_digits" np) env) Q E s2:=fun h q =>
    wpAny_Name (wpAny_loadName_free hfn ((kd _).trans rfl) (by rw[e2];rfl) h q) rfl
   rw[arm_execs_cons];refine aH (wpAny_If ((aE F7 X b1).2 (decide (L+1=R)) ?_ s1 I1 _ _ fun s2 x2=>?_))
   .exact bi (bi (aC (x:=ae L) (y:=ae 1) (z:=ae (L+1)) rfl rfl (eF L 1)) (bi (aa (show(KZ x L R nb).get 5=some (ae R)from rfl)) (uJ _ _))) rfl
   have I2:=I1.ext x2;have C2:=(C.keep X1.keep).keep x2.keep;have l2:s2.heap.PlainList D vs:=bj (bj l X1.keep) x2.keep;by_cases hone:L+1=R
   .refine y8 (dg hone) ?_;subst b2;rw[arm_execs_cons];refine aH (wpAny_Assign_Subscript ((aE (.v 3) X b4).1 (ae x) rfl s2 I2 _ _ fun v s3 x3 r3=>?_) (cg b5 _ _ _));obtain⟨tv,rfl⟩:=r3.int_inv;have I3:=I2.ext x3;refine ldD (fk C2.a x3.keep) ((aE (.v 4) X b3).1 (ae L) rfl s3 I3 _ _ fun iv' s4 x4 r4=>?_);obtain⟨ti,rfl⟩:=r4.int_inv;have I4:=I3.ext x4;have l4:s4.heap.PlainList D vs:=bj (bj l2 x3.keep) x4.keep;have hvl:vs.size=xs.length:=by have:=iv.1;simpa using this
    refine Bi l4 (by lia) (by lia) (by rw[hvl];lia) fun h' l5 hs=>?_;have x5:=bI.of_list I4.base I4.pos hD l4 l5 hs;rw[arm_execs_cons];refine aH (wpAny_Return_none (bg (bg ?_)));refine q _ _ ((((X1.sext.trans x2.sext).trans x3.sext).trans x4.sext).trans x5) l5 ?_;rw[Array.toList_setIfInBounds,mY];have hx':x<2^nb:=by rw[<- hone]at hx;simpa using hx
    have e:xs.take L++dA nb x (R-L)++xs.drop R=xs.set L x:=by rw[<- hone,Nat.add_sub_cancel_left,uz _ _ hx',List.set_eq_take_append_cons_drop,if_pos (kS hLR hR)];simp
    rw[e];exact iv.set L x tv
   .refine Da (fun c=>hone (bJ c)) ?_;refine wpAny_execs_nil ?_;show wpAny _ _ (execs _ env) _ _ _;obtain⟨j,rfl⟩:∃j,k=j+1:=by
     cases k with
     |zero=>simp at hk;lia
     |succ j=>exact⟨j,rfl⟩
    have h2k:2^(j+1)=2*2^j:=by rw[Nat.pow_succ,Nat.mul_comm]
    generalize hmid:(L+R) / 2^1=mid;have hmid':mid=(L+R) / 2:=by rw[<- hmid]
    obtain⟨g1,g2,g3,g4⟩:=Dx hLR hone (h2k▸hk) hmid';generalize hsh:(mid-L)*nb=sh;have hsh':sh=nb*(mid-L):=by rw[<- hsh,Nat.mul_comm]
    have hsz':sh+nb*(R-mid)=nb*(R-L):=by rw[hsh',<- Nat.mul_add,tG (il g1) (il g2)]
    have hup:x / 2^sh<2^(nb*(R-mid)):=by rw[Nat.div_lt_iff_lt_mul (Nat.two_pow_pos _),<- Nat.pow_add,Nat.add_comm,hsz'];exact hx
    have hlo:x % 2^sh<2^(nb*(mid-L)):=by rw[<- hsh'];exact Nat.mod_lt _ (Nat.two_pow_pos _)
    have hnb26:nb<=2^26:=aJ (Nat.le_mul_of_pos_right _ (kS (Nat.zero_lt_of_lt g2) hR)) hsz;rw[arm_execs_cons];refine aH (rg X I2 b6 (aC (aC (aa rfl) (aa rfl) (eF L R)) ar (mI (L+R) 1)) fun s3 x3 I3=>?_);show wpAny _ _ (execs _ env) _ _ _;rw[hmid]at I3;rw[arm_execs_cons];refine aH (rg X I3 b7 (aC (aC (aa rfl) (aa rfl) (ge (il g1))) (aa rfl) (jG (lC (aJ (Nat.sub_le _ _) (aJ (il g2) (aJ hm2 hsz))) hw) (lC hnb26 hw))) fun s4 x4 I4=>?_);show wpAny _ _ (execs _ env) _ _ _;rw[hsh]at I4;rw[arm_execs_cons];refine aH (rg X I4 b8 (aC (aa rfl) (aa rfl) (mI x sh)) fun s5 x5 I5=>?_);show wpAny _ _ (execs _ env) _ _ _;rw[arm_execs_cons];refine aH (rg X I5 b9 (aC (aa rfl) (aC (aa rfl) (aa rfl) (mH hup (aJ (Nat.le_of_eq ((Nat.add_comm _ _).trans hsz')) (aJ hm1 (aJ hsz (by decide)))))) (sE x sh)) fun s6 x6 I6=>?_);show wpAny _ _ (execs _ env) _ _ _;have x26:bI G [env.locals] s2 s6:=((x3.trans x4).trans x5).trans x6;obtain⟨m2,hns2,_⟩:=id I2.envr.ns;have C6:=C2.but x26.keep (zL hns2);have l6:s6.heap.PlainList D vs:=x26.keep.plain (fun m=>ne_loc (by rw[aS m];exact List.mem_singleton.mpr rfl)) l2;have hcell:∀y c,env.cells.lookup y=some c->c≠D:=fun y c h=>neD' y c (by rw[<- e2];exact h);have atf:∀{h:Heap}{body':ez},rW G h f D ca ci cn nb fd body'->∃o fd',h.get? f=some o/\o.data=.func fd':=fun C=>let⟨o,e,d⟩:=C.N.at';⟨o,_,e,d⟩;rw[arm_execs_cons];refine aH (HP X I6 b11 (.inl ((kd _).trans rfl)) (by rw[e2];rfl) C6.i (atf C6) (ds:=[ae (x % 2^sh),ae L,ae mid]) rfl fun s7 vs7 x7 r7=>?_);have C7:=C6.keep x7.keep;have l7:=bj l6 x7.keep;have I7:=I6.ext x7;refine ih j rfl (A:=A.deeper env) hh (by show A.depth+1+j<_;lia) (by show A.units+3+3*(j+1)+100<_;lia) x7.base x7.pos C7 l7 iv (IV.of (ns:=[x % 2^sh,L,mid]) r7) g1 (aJ (il g2) hR) g3 hsz hlo _ _ fun s8 vs8 x8 l8 iv8=>?_;have C8:=C7.but x8.keep (rK l7);have I8:=I7.turn x8 l7 l8 (by simp) hcell;show wpAny _ _ (execs _ env) _ _ _;rw[arm_execs_cons];refine aH (HP X I8 b13 (.inl ((kd _).trans rfl)) (by rw[e2];rfl) C8.i (atf C8) (ds:=[ae (x / 2^sh),ae mid,ae R]) rfl fun s9 vs9 x9 r9=>?_);have C9:=C8.keep x9.keep;have l9:=bj l8 x9.keep;have hlen:(xs.take L++dA nb (x % 2^sh) (mid-L)++xs.drop mid).length=xs.length:=by rw[dR,dR,List.length_take,List.length_drop,fK,Nat.min_eq_left (aJ (il (Nat.lt_trans g1 g2)) hR),Nat.add_sub_cancel' (il g1),Nat.add_sub_cancel' (aJ (il g2) hR)]
    refine ih j rfl (A:=A.deeper env) hh (by show A.depth+1+j<_;lia) (by show A.units+3+3*(j+1)+100<_;lia) x9.base x9.pos C9 l9 iv8 (IV.of (ns:=[x / 2^sh,mid,R]) r9) g2 (by rw[hlen];exact hR) g4 (by rw[hlen];exact hsz) hup _ _ fun s10 vs10 x10 l10 iv10=>?_;show wpAny _ _ (execs _ env) _ _ _;refine wpAny_execs_nil (q s10 vs10 ?_ l10 ?_)
    .have sub1:∀a∈[env.locals],a∈[env.locals,D]:=fun a m=>by rcases aS m with rfl;simp
     have sub2:∀a∈[D],a∈[env.locals,D]:=fun a m=>by rcases aS m with rfl;simp
     exact bI.drop ((((((X1.sext.trans x2.sext).trans (x26.mono sub1)).trans x7.sext).trans (x8.mono sub2)).trans x9.sext).trans (x10.mono sub2)) e3
    .rw[xM (il g1) (il g2) hR (fK ..)]at iv10;have e:dA nb (x % 2^sh) (mid-L)++dA nb (x / 2^sh) (R-mid)=dA nb x (R-L):=by rw[hsh',pf,tG (il g1) (il g2)]
     rw[e]at iv10;exact iv10
end
end
section
section
variable {G:GC}{A:Around}{s:Shared}{O:a9}
theorem yY (ok:oQ G)(nm:∀(i:Nat) (x:Str),jn[i]?=some x->G.names[i]?=some x){f D ca ci cn:Addr}{nb:Nat}{fd:FuncData}{body:ez}
  (hb:oy ⟨G.names,ji,[]⟩ body=true)(hsc:fd.scope.names=ji)(hbind:∀a b c,bindArgs fd ⟨[a,b,c],[]⟩=pure [(("x" : Str),a),(("L" : Str),b),(("R" : Str),c)])
  (h0:G.h₀.get? ca=none/\G.h₀.get? ci=none/\G.h₀.get? cn=none/\G.h₀.get? D=none)(hne:ca≠ci/\ci≠cn/\ca≠cn)(hnb:0<nb):∀k,MX G f D ca ci cn nb fd body k
 |0=>vb ok nm hb hsc hbind h0 hne hnb fun j e=>by cases e
 |k+1=>vb ok nm hb hsc hbind h0 hne hnb fun j e=>by cases e;exact yY ok nm hb hsc hbind h0 hne hnb k
theorem sZ {u:Tok}{vs:Array Value}{xs:List D}{Q E:ba}(la:s.heap.IsList a vs)(ra:ak G.w O s.heap vs.toList xs)
  (h0:0<=n)(h1:n<=16777216)(hl:xs.length*n.toNat<=16777216)
  (q:∀h' (ws:Array Value),(∀b o,s.heap.get? b=some o->h'.get? b=some o)->h'.PlainList s.heap.objs.size ws->ak G.w O h' ws.toList (List.replicate n.toNat xs).flatten->Q (.ref s.heap.objs.size) { s with heap:=h' }):wpAny (bC G) A (binaryOp .Mult (.ref a) (.int n u)) Q E s:=by
 obtain⟨⟨cls,d,data,sl⟩,ho,hcl,k,hd⟩:=id la;simp only at hcl hd;subst hcl hd;have e63:(2:Int)^63=9223372036854775808:=by decide
 have e24:(2:Nat)^24=16777216:=by decide
 have e1:=ra.length;simp only[i5]at e1;have hsz':vs.size*n.toNat<=2^24:=by rw[e1,e24];exact hl
 refine wpAny_binaryOp_repeat_ref (T:="list") (U:="int") (by decide) ⟨_,ho,rfl⟩ (fun s'=>typeIs_int s' n u) noFill_list_mul F.fills_int_mul F.slot_int_rmul repeat_list F.slot_int_index.lookup
  (call_meets F.slot_int_rmul (typeIs_int s n u) F.entry_int_rmul (F.args_int_rmul_2 _ _) (lm_int_rmul_list_any n u a vs k d sl)
   ⟨ho,rfl,⟨_,ho,rfl⟩,call_meets F.slot_list_mul ⟨_,ho,rfl⟩ F.entry_list_mul (F.args_list_mul_2 _ _)
    (lm_list_mul_any a vs k d sl n u (by simp[Builtin.List.listFitsIndex];lia) (by lia) (by simp[Builtin.List.listTooLong,sizeLine];assumption))
    ⟨ho, ?_⟩⟩)
 have hk:∀o b' o',s.heap.get? b'=some o'->(s.heap.push o).get? b'=some o':=fun o b' o' e=>gv _ e;refine q _ _ (hk _) ⟨_,iV _ rfl⟩ ?_;rw[listMul_foldl_if]
 simpa using(ak.rep ra n.toNat).keep (.of (hk _))
end
end
section
section
variable {G:GC}{A:Around}
theorem po {Oc:a9}{s:Shared}{vs:fO}{ds:List D}{Q:ba}{E:ba}(ok:oQ G)(hh:A.handled=none)(hr:A.depth<recursionLimit)(B:a5 G s.heap)(p:0<s.toks)(ov:dH Oc s.heap)(r:ak G.w Oc s.heap vs ds)
  (Df:iS G a fd body xs)(hf0:iG G.names f fd xs=true)(hl:ds.length=f.params.length)
  (k:∀s1 O M,FI G (A.deeper (callEnvC fd s.heap.objs.size a)) (callEnvC fd s.heap.objs.size a) ⟨f.own,fun _=>none⟩ O Oc M (bF [] f.params ds) s1->(∀b∈M,s.heap.get? b=none)->Ext G s s1 ->
   ∀E':ba,(∀e s',wpAny (bC G) (A.deeper (callEnvC fd s.heap.objs.size a)) (leaving (callEnvC fd s.heap.objs.size a) e) (fun _ s''=>E e s'') (fun e' s''=>E e' s'') s'->E' e s')->wpAny (bC G) (A.deeper (callEnvC fd s.heap.objs.size a)) (execs body (callEnvC fd s.heap.objs.size a)) (fun fl s'=>Q (match fl with|.ret v=>v|_=>.none) s') E' s1):wpAny (bC G) A (call (.ref a) vs) Q E s:=by
 obtain⟨⟨⟨⟨⟨h2,h3⟩,h4⟩,h5⟩,h6⟩,h7⟩:=pw hf0;have hpl:xs.length=f.params.length:=by have:=congrArg List.length h4;simpa using this.symm
 obtain⟨o,ho,hdat⟩:=Df.at';have hvl:vs.length=xs.length:=by rw[r.length,hl,hpl]
 refine wpAny_call (codeAny_call_function hr (B.keep _ _ ho) hdat Df.co Df.gen Df.body (Df.code.keeps B.keep) ?_);rw[Df.bind vs hvl,Df.clo];refine bg (wpAny_with_toks (fc s.toks) (wpAny_newFunctionEnv_cells Df.kind (fun y hy=>?_) fun env he s1 x tk=>?_))
 .obtain⟨y1,y2⟩:=y;have hm:=(List.of_mem_zip hy).1;have:=br h7 y1 hm;rcases Bool.or_eq_true_iff.mp this with e|e
  .exact .inl (by simpa using e)
  .have e:fd.scope.names.lookup y1=some .cell:=by simpa using e
   refine .inr ⟨e, ?_⟩;obtain⟨c,hc⟩:=bT _ (s.heap.objs.size+1) _ (mem_of_lookup e);obtain⟨c',e'⟩:=bU hc;exact Option.isSome_iff_exists.mpr ⟨c',e'⟩
 .have he:env=callEnvC fd s.heap.objs.size a:=he;subst he;refine⟨(ok.lim.keeps B.keep).keeps x.toInCall.keep,codeAny_func ?_⟩;obtain⟨O,M,FF,hM,X⟩:=uF (A:=A.deeper (callEnvC fd s.heap.objs.size a)) ok hh B (kS p tk) ov r Df hf0 hl x;exact k s1 O M FF hM X _ fun _ _ h=>h
theorem oX {env:Env}{ρ:aF}{c:Addr}{v:Value}{Q:Unit->Shared->Prop}{E:ba}(I:cV G A env dE O ρ s)(nm:G.names[n]?=some x)(hk:env.kindOf x=some .cell)(hc:env.cells.lookup x=some c)(hg:ρ.get n=none)
  (q:∀h',h'.IsCell c (some v)->bI G [c] s { s with heap:=h' }->cV G A env dE O ρ { s with heap:=h' }->Q () { s with heap:=h' }):wpAny (bC G) A (storeName env x v) Q E s:=by
 obtain⟨c',v0,hc',hq⟩:=I.envr.ce x (.inl hk);rw[hc]at hc';obtain rfl:=aG hc';refine wpAny_storeName_cell I.envr.fn hk hc hq fun h' hn' hs'=>?_;obtain⟨oc,e1,e2⟩:=id hq;have ht:bD O [c] s.heap:=fun a ma o e=>by
  rcases aS ma with rfl
  rw[e1]at e;obtain rfl:=aG e;exact⟨lB e2,fun _=>(I.envr.cin _ _ hc).1⟩
 have hkb:aL [c] s.heap h':=cY (aQ hs');have B:a5 G h':=I.base.but (aQ hs') (fun a ma=>by rcases aS ma with rfl;exact(I.envr.cin _ _ hc).2) fun a ma o e=>(ht a ma o e).1;have ov:dH O h':=I.ov.but hkb fun a ma=>by
  rcases aS ma with rfl
  obtain⟨o,e1,e2⟩:=hn';exact⟨o,e1, .inr fun vs q=>by rw[e2]at q;cases q⟩
 obtain⟨m,hm,hmv⟩:=I.envr.ns;have loc_ne:env.locals∉[c]:=fun ma=>by
  rcases aS ma with e
  obtain⟨o,es,ep,e3,e4,_⟩:=hm;rw[e,e1]at e3;obtain rfl:=aG e3;rw[e2]at e4;cases e4
 refine q h' hn' ⟨⟨rfl,rfl⟩,hkb,B,I.pos,fun b mb e=>bw (fun o q=>aQ hs' b o mb q) e⟩ ⟨I.ok,I.hh,B,I.pos,ov,⟨I.envr.fn,I.envr.gl,I.envr.bi,I.envr.lin,I.envr.lfr,I.envr.oin,I.envr.cin,I.envr.inj, ?_,⟨m,hkb.ns loc_ne hm, ?_⟩, ?_⟩⟩
 .intro y hy;obtain⟨c',v',e,qc⟩:=I.envr.ce y hy;by_cases hcc:c'=c
  .subst hcc;exact⟨_,_,e,hn'⟩
  .exact⟨c',v',e,hkb.cell (by simpa using hcc) qc⟩
 .intro n' y d' h1 h2 h3;obtain⟨v',e,r'⟩:=hmv n' y d' h1 h2 h3;rw[fF]at r';exact⟨v',e,by rw[fF];exact az.but r' hkb ht⟩
 .intro n' y d' h1 h2 h3;obtain⟨c',v',e,qc,r'⟩:=I.envr.cl n' y d' h1 h2 h3;have hcc:c'∉[c]:=fun ma=>by
   rcases aS ma with rfl
   have:=I.envr.inj _ _ _ e hc;subst this;have:=jP I.ok.nd h1 nm;subst this;rw[hg]at h3;exact nn h3
  rw[fF]at r';exact⟨c',v',e,hkb.cell hcc qc,by rw[fF];exact az.but r' hkb ht⟩
end
end
section
section
def eJ (p:Arguments)(xs:List Str):Bool:=bK p.posonlyargs <| gB p.vararg <| bK p.kwonlyargs <| bK p.kw_defaults <| gB p.kwarg <| bK p.defaults <| (p.args.map (·.arg)==xs&&p.args.all (·.annotation.isNone))
theorem uQ:∀{l:List α},(∀x∈l,f x=g x)->l.filterMap f=l.filterMap g
 |[],_=>rfl
 |x::l,h=>by rw[List.filterMap_cons,List.filterMap_cons,h x dX,uQ fun y m=>h y (eh _ m)]
theorem ye {xs:List Str}{vals:fO}(hn:xs.Nodup)(hl:vals.length=xs.length):(xs.filterMap fun n=>((xs.zip vals).lookup n).map fun v=>(n,v))=xs.zip vals:=by
 induction xs generalizing vals with
 |nil=>rfl
 |cons x xs ih =>
  cases vals with
  |nil=>cases hl
  |cons v vals =>
   obtain⟨h1,h2⟩:=List.nodup_cons.mp hn;have hl:vals.length=xs.length:=by simpa using hl
   have e:(xs.filterMap fun n=>(((x,v)::xs.zip vals).lookup n).map fun v=>(n,v))=xs.filterMap fun n=>((xs.zip vals).lookup n).map fun v=>(n,v) :=
    uQ fun n hn=>by have:(n==x)=false:=beq_eq_false_iff_ne.mpr fun q=>h1 (q▸hn);rw[List.lookup_cons,this]
   rw[List.zip_cons_cons,List.filterMap_cons,e,ih h2 hl];simp
theorem Fh {xs:List Str}{vals:fO}(hl:vals.length=xs.length):∀n∈xs,((xs.zip vals).lookup n).isNone=false:=by
 induction xs generalizing vals with
 |nil=>intro n h;cases h
 |cons x xs ih =>
  cases vals with
  |nil=>cases hl
  |cons v vals =>
   intro n h;rw[List.zip_cons_cons,List.lookup_cons];cases hb:n==x with
   |true=>rfl
   |false =>
    rcases bA h with rfl|h
    .simp at hb
    .exact ih (by simpa using hl) n h
theorem La (h:c=false):(if c=true then X else Z)=Z:=if_neg (by rw[h];exact g6)
theorem Ky (l:List α)(n:Nat):l.zip (([]:List β).drop n)=[]:=by rw[List.drop_nil,List.zip_nil_right]
theorem Gl {F:α->β->Sem (ForInStep β)}{k:β->Sem γ}{r:Sem γ}(hl:l=[])(h:k i=r):(forIn l i F >>= k)=r:=by subst hl;exact h
theorem nI (h:eJ p xs=true):∃as,p=⟨[],as,none,[],[],none,[]⟩/\as.map (·.arg)=xs/\as.all (·.annotation.isNone)=true:=by obtain⟨a,b,c,d,e,f,g⟩:=p;have h:(bK a <| gB c <| bK d <| bK e <| gB f <| bK g <| (b.map (·.arg)==xs&&b.all (·.annotation.isNone)))=true:=h;refine aI h fun h=>cW h fun h=>aI h fun h=>aI h fun h=>cW h fun h=>aI h fun h=>?_;obtain⟨h1,h2⟩:=cE h;exact⟨_,rfl,eM h1,h2⟩
theorem kh {fd:FuncData}{xs:List Str}(hp:eJ fd.params xs=true)(hn:xs.Nodup)(hd:fd.defaults=.none){vals:fO}(hl:vals.length=xs.length):bindArgs fd ⟨vals,[]⟩=pure (xs.zip vals):=by
 obtain⟨as,hpar,rfl,_⟩:=nI hp;have e:bindArgs fd ⟨vals,[]⟩=bindArgs { fd with params:=⟨[],as,none,[],[],none,[]⟩,defaults:=.none } ⟨vals,[]⟩:=by rw[<- hpar,<- hd]
 have key:∀xs:List Str,xs.Nodup->vals.length=xs.length->(!((xs.take (xs.length-(([]:fO).drop (([]:fO).length-xs.length)).length)).filter fun n=>((xs.zip vals).lookup n).isNone).isEmpty)=false:=fun xs hn hl=>by rw[List.drop_nil,List.filter_eq_nil_iff.mpr fun n hn=>by rw[Fh hl n (List.mem_of_mem_take hn)];exact g6];rfl
 refine e.trans ((La ?_).trans ((La (key _ hn hl)).trans ?_))
 .show(decide (vals.length > (as.map (·.arg)).length)&&true)=false;rw[hl,cG (Nat.lt_irrefl _)];rfl
 .refine Gl (α:=Str × Value) (Ky _ _) ?_;have z:∀xs:List Str,xs.Nodup->vals.length=xs.length->(pure ((xs++[]).filterMap fun n=>((xs.zip vals).lookup n).map fun v=>(n,v)):Sem (List (Str × Value)))=pure (xs.zip vals):=fun xs hn hl=>by rw[List.append_nil,ye hn hl]
  exact z _ hn hl
end
section
variable {G:GC}{A:Around}
noncomputable abbrev HJ:E:=.b .FloorDiv (.b .Sub (.b .Add (.m .bitlen (.v 11) .n) (.v 2)) (.l (.int 1))) (.v 2)
def CV (c:Cx)(t:wi)(y0:Str)(l0 r0:Expr)(nmI:Str)(params:Arguments)(ib:ez)(sc:Scope)(bnd:Str)(ipos:Pos)(ts:Expr)(y1:Str)(a1:dN)(y2:Str):Bool:=(y0==("a_digits" : Str)&&a7 c (.i (.c (.l (.int 0)) .n)) l0&&a7 c HJ r0&&nmI==("inner" : Str)&&bnd==("inner" : Str)&&eJ params ["x", "L", "R"])&&(decide (sc.names=ji)&&decide (sc.kind=.function)&&!sc.isCoroutine&&!sc.isGenerator&&(docOf ib).isNone&&decide (ipos=t.pos))&&(oy ⟨c.nm,ji,[]⟩ ib&&a7 c (.v 11) ts&&y1==("inner" : Str)&&eP c (.c (.v 11) (.c (.l (.int 0)) (.c (.f .len (.c (.v 0) .n)) .n))) a1&&y2==("a_digits" : Str))
inductive KK (c:Cx)(t:wi):ez->Prop
 |mk {y0:Str}{np0:Pos}{l0:Expr}{r0:Expr}{bp:Pos}{ps1:Pos}{nmI:Str}{params:Arguments}{ib:ez}{sc:Scope}{bnd:Str}{ipos:Pos}{ts:Expr}{y1:Str}{np1:Pos}{a1:dN}{cp1:Pos}{xp1:Pos}{ips:Pos}{y2:Str}{np2:Pos}{rp2:Pos}(h:CV c t y0 l0 r0 nmI params ib sc bnd ipos ts y1 a1 y2=true):KK c t ([.Assign [.Name y0 np0] (.BinOp l0 .Mult r0 bp) ps1, .FunctionDef nmI params ib [] none [] sc none bnd ipos, .If ts [.Expr (.Call (.Name y1 np1) a1 [] cp1) xp1] [] ips, .Return (some (.Name y2 np2)) rp2])
def sR (c:Cx)(t:wi)(b:ez):Bool:=
 bu b fun s1 r=>bu r fun s2 r=>bu r fun s3 r=>fz r fun s4=>xf s1 fun y0 v=>zq v .Mult fun l0 r0=>DK s2 fun nmI params ib sc bnd ipos=>zs s3 fun ts b=>fz b fun s=>tm s fun y1 a1=>pQ s4 fun e=>bh e fun y2 _=>CV c t y0 l0 r0 nmI params ib sc bnd ipos ts y1 a1 y2
theorem wV (h:sR c t b=true):KK c t b:=by refine ay h fun s1 r h=>ay h fun s2 r h=>ay h fun s3 r h=>aP h fun s4 h=>nu h fun y0 p0 v p1 h=>kz h fun l0 r0 p2 h=>pP h fun nmI params ib sc bnd ipos h=>kB h fun ts b p3 h=>aP h fun s h=>lF h fun y1 p4 a1 p5 p6 h=>gU h fun e p7 h=>aA h fun y2 p8 h=>.mk h
noncomputable def fL:List (Str × NameKind):=[("a", .local),("n", .cell),("a_digits", .cell),("inner", .cell),("len", .globalImplicit)]
theorem qI (h:eJ params xs=true)(env:Env):params.defaults=[]/\params.kw_defaults=[]/\annTrees params none env=[]:=by
 obtain⟨as,rfl,_,h2⟩:=nI h;refine⟨rfl,rfl, ?_⟩;unfold annTrees;simp only[List.append_nil,Option.toList_none];have:∀l:List Arg,(l.all fun x=>x.annotation.isNone)=true->annotationsOf l env=[]:=by
  intro l
  induction l with
  |nil=>intro _;rfl
  |cons x l ih =>
   intro h;obtain⟨x1,x2,x3⟩:=x;simp only[List.all_cons,eO,Option.isNone_iff_eq_none]at h;obtain⟨rfl,h⟩:=h;exact ih h
 rw[this as h2];rfl
noncomputable def yB (look:Str->Option Addr):List (Str × NameKind)->List (Str × Addr)->Option (List (Str × Addr))
 |[],acc=>some acc
 |p::r,acc=>if(p.2==.free)=true then(look p.1).bind fun c=>yB look r ((p.1,c)::acc)else yB look r acc
theorem oZ {env:Env}{look:Str->Option Addr}(hl:∀y c,look y=some c->env.cells.lookup y=some c) :
  ∀{names:List (Str × NameKind)}{acc cl:List (Str × Addr)},yB look names acc=some cl->forIn (m:=Sem) names acc (fun x cells=>if(x.2==.free)=true then(do let a <- cellOf env x.1;pure (.yield ((x.1,a)::cells)))else pure (.yield cells))=pure cl
 |[],acc,cl,h=>by rw[List.forIn_nil];exact congrArg pure (aG h)
 |p::r,acc,cl,h=>by
  rw[List.forIn_cons];by_cases hk:(p.2==.free)=true
  .refine aq ((if_pos hk).symm.trans h) fun c hc h=>?_;have e:cellOf env p.1=pure c:=by show(match env.cells.lookup p.1 with|some a=>pure a|none=>_)=_;rw[hl _ _ hc]
   rw[if_pos hk,e];exact oZ hl h
  .rw[if_neg hk];exact oZ hl ((if_neg hk).symm.trans h)
theorem o4 {sc:Scope}{env:Env}{nms:List (Str × NameKind)}{tri cl:List (Str × Addr)}(h:sc.names=nms)(hl:∀y c,tri.lookup y=some c->env.cells.lookup y=some c)(hc:yB (fun y=>tri.lookup y) nms []=some cl):closureFor sc env=pure cl:=by unfold closureFor;rw[h];exact congrArg (· >>= fun x=>pure x) (oZ hl hc)
theorem uo (h:sc.names=ji)(h1:env.cells.lookup ("a_digits" : Str)=some ca)(h2:env.cells.lookup ("inner" : Str)=some ci)(h3:env.cells.lookup ("n" : Str)=some cn) :
  closureFor sc env=pure [(("n" : Str),cn),(("inner" : Str),ci),(("a_digits" : Str),ca)] :=
 o4 h (fun y c e=>iR (P:=fun y c=>env.cells.lookup y=some c) e h3 h2 h1) rfl
theorem pW (z:xs.length<=16777216)(ha:a∉O)(l:h.PlainList a vs)(r:ak w O h vs.toList xs):az w O h (.ref a) (.list xs):=
 .list_of z ha l.isList (fun o e=>by obtain⟨n,e'⟩:=l;rw[e]at e';obtain rfl:=aG e';rfl) r
theorem cV.learn (I:cV G A env dE O ρ s)(nm:G.names[n]?=some x)(hk:env.kindOf x=some .cell)(hc:env.cells.lookup x=some c)(hq:s.heap.IsCell c (some v))(r:az G.w O s.heap v d):cV G A env dE O (ρ.set n d) s:=by
 obtain⟨m,hm,hmv⟩:=I.envr.ns;refine⟨I.ok,I.hh,I.base,I.pos,I.ov,⟨I.envr.fn,I.envr.gl,I.envr.bi,I.envr.lin,I.envr.lfr,I.envr.oin,I.envr.cin,I.envr.inj,I.envr.ce,⟨m,hm,fun n' y d' h1 h2 h3=>?_⟩,fun n' y d' h1 h2 h3=>?_⟩⟩
 .rw[aF.get_set]at h3;by_cases e:n'=n
  .subst e;rw[nm]at h1;obtain rfl:=aG h1;rw[hk]at h2;cases h2
  .rw[if_neg e]at h3;exact hmv n' y d' h1 h2 h3
 .rw[aF.get_set]at h3;by_cases e:n'=n
  .subst e;rw[nm]at h1;obtain rfl:=aG h1;rw[if_pos rfl]at h3;obtain rfl:=aG h3;exact⟨c,v,hc,hq,by rw[fF];exact r⟩
  .rw[if_neg e]at h3;exact I.envr.cl n' y d' h1 h2 h3
theorem qn:∀K:Nat,(List.replicate K [ae 0]).flatten=(List.replicate K 0).map ae
 |0=>rfl
 |K+1=>by simp only[List.replicate_succ,List.flatten_cons,qn K,i8];rfl
theorem Ge (h1:ρ.get 11=some (ae x))(h2:ρ.get 2=some (ae nb))(hnb:0<nb)(hnb2:nb<=2^26):ev S0 ρ HJ=some (ae ((ib (x:Int)+nb-1) / nb)):=by
 have e0:ev S0 ρ (.m .bitlen (.v 11) .n)=some (ae (ib (x:Int))):=by exact bi (aa h1) (bi (x:=[]) rfl rfl)
 refine aC (aC (aC e0 (aa h2) (eF _ _)) (y:=ae 1) rfl (ge (by lia))) (aa h2) ?_;have e:eE .FloorDiv (ae (ib (x:Int)+nb-1)) (ae nb)=if(nb:Int) != 0&&decide ((nb:Int).natAbs.log2<9000)then some (.int (((ib (x:Int)+nb-1:Nat):Int).fdiv (nb:Int)))else none:=rfl;rw[e,if_pos]
 .rw[Int.fdiv_eq_ediv_of_nonneg _ (by lia)];norm_cast
 .have h1:((nb:Int) != 0)=true:=by simp;exact Nat.ne_of_gt ‹_›
  have h2:nb.log2<27:=by rw[Nat.log2_lt (by exact Nat.ne_of_gt ‹_›)];exact lC hnb2 (by decide)
  rw[h1,Int.natAbs_natCast];simp;exact qp ‹_› rfl
theorem BY {a n:Nat}(h:1<=a):n<=a+n-1:=Nat.le_sub_of_add_le (Nat.add_comm 1 n▸Nat.add_le_add_right h n)
theorem yr {a n m q:Nat}(e:m+q=a+n-1)(h:q<n):a<=m:=
 Nat.le_of_add_le_add_right (b:=n) (aJ (Nat.le_add_of_sub_le (Nat.le_of_eq e.symm)) (Nat.add_le_add_left h m))
set_option tactic.hygienic true in
theorem Ax (ok:oQ G)(T:kc G)(nm:∀(i:Nat) (x:Str),jn[i]?=some x->G.names[i]?=some x)(ht:t∈G.tabs)(Df:iS G a fd body ["a", "n"])
  (hout:sR ⟨G.names,fL,[]⟩ t body=true)(hs:fd.scope.names=fL)(hcode:fd.code=.ref t.c)(hq:fd.qualname ++ ".<locals>." ++ ("inner" : Str)=t.qual)
  {Oc:a9}{s:Shared}{vs:fO}{x nb K:Nat}(hh:A.handled=none)(hr:A.depth+30<recursionLimit)(hu:A.units+200<cLine)(B:a5 G s.heap)(p:0<s.toks)(ov:dH Oc s.heap)(r:ak G.w Oc s.heap vs [ae x,ae nb])
  (hnb:0<nb)(hnb2:nb<=2^26)(hK:K=(ib (x:Int)+nb-1) / nb) (hsz:nb*K<=2^26)(hK2:K<=2^24):dG G A Oc (call (.ref a) vs) s (.list ((dA nb x K).map ae)):=fun Q E q=>by
 have h26:(2:Nat)^26=67108864:=by decide
 have h24:(2:Nat)^24=16777216:=by decide
 refine po (f:=⟨[11,2],[], .n⟩) ok hh (by lia) B p ov r Df ?_ rfl fun s1 O M FF hM X1 E' _=>?_
 .unfold iG;have e1:=nm 11 _ rfl;have e2:=nm 2 _ rfl;simp only[hs,i8,List.map_nil,e1,e2];rfl
 .generalize henv:callEnvC fd s.heap.objs.size a=env at FF ⊢;have e1:env.scope=fd.scope:=by rw[<- henv];rfl
  have e4:env.cells=[(("inner" : Str),s.heap.objs.size+3),(("a_digits" : Str),s.heap.objs.size+2),(("n" : Str),s.heap.objs.size+1)]:=by
   have:env.cells=cellsFrom (s.heap.objs.size+1) fd.scope.names []:=by rw[<- henv];rfl
   rw[this,hs];rfl
  have e5:env.code=.ref t.c:=by rw[<- hcode,<- henv];rfl
  have e6:env.qual=fd.qualname ++ ".<locals>.":=by rw[<- henv];rfl
  generalize hca:s.heap.objs.size+2=ca at e4;generalize hci:s.heap.objs.size+3=ci at e4;generalize hcn:s.heap.objs.size+1=cn at e4;have hne:ca≠ci/\ci≠cn/\ca≠cn:=by rw[<- hca,<- hci,<- hcn];refine⟨?_, ?_, ?_⟩ <;> (intro h;have h:(_:Nat)=_:=h;lia)
  have I1:=FF.inv;have hfn:=I1.envr.fn;have kd:∀y,env.kindOf y=fL.lookup y:=fun y=>by show env.scope.names.lookup y=_;rw[e1,hs]
  have hI:=wV hout;clear hout;cases hI;rename_i y0 np0 l0 r0 bp ps1 nmI params ib' sc bnd ipos ts y1 np1 a1 cp1 xp1 ips y2 np2 rp2 hout
  .refine gP hout fun ha hb hc=>hZ ha fun b0 b1 b2 b3 b4 b5=>hZ hb fun b6 b7 b8 b9 b10 b11=>nf hc fun b12 b13 b14 b15 b16=>?_;obtain rfl:=eM b0;obtain rfl:=eM b3;obtain rfl:=eM b4;obtain rfl:=bJ b11;obtain rfl:=eM b14;obtain rfl:=eM b16;have b6:=bJ b6;have b7:=bJ b7;have b8:=im b8;have b9:=im b9;have b10:=Option.isNone_iff_eq_none.mp b10;have X:bV G (A.deeper env) S0 ⟨G.names,fL,[]⟩ env dE:=⟨rfl,by rw[e1,hs],fun n=>by simp,hfn,CQ,u5,hh,by show A.units+3+100<cLine;lia⟩;have hlk1:env.cells.lookup ("a_digits" : Str)=some ca:=by rw[e4];rfl
   have hlk2:env.cells.lookup ("inner" : Str)=some ci:=by rw[e4];rfl
   have hlk3:env.cells.lookup ("n" : Str)=some cn:=by rw[e4];rfl
   have hfa:=hM ca (FF.mc _ _ hlk1);have hfi:=hM ci (FF.mc _ _ hlk2);rw[arm_execs_cons];refine aH (wpAny_Assign_Name (wpAny_BinOp ((aE _ X b1).1 (.list [ae 0]) rfl s1 I1 _ _ fun v s2 x2 r2=>(aE _ X b2).1 (ae K) (by rw[hK];exact Ge rfl rfl hnb hnb2) s2 (I1.ext x2) _ _ fun u s3 x3 r3=>?_)) rfl);obtain⟨a',ws,rfl,_,la,ra⟩:=r2.list_inv;obtain⟨tk,rfl⟩:=r3.int_inv;have I3:=(I1.ext x2).ext x3;refine sZ (vf la x3.keep) (ra.keep x3.keep) (by lia) (by lia) (by simp;assumption) fun h4 w4 k4 l4 r4=>?_;generalize hD:s3.heap.objs.size=D at l4 ⊢;have hD3:s3.heap.get? D=none:=by rw[<- hD];exact aD _
   have hDs:s.heap.get? D=none:=X1.back _ (x2.back _ (x3.back _ hD3));have hD0:G.h₀.get? D=none:=bw (fun o q=>B.keep _ o q) hDs;rw[mY,qn]at r4;have x4:Ext G s3 { s3 with heap:=h4 }:=Ext.all (t:=s3.toks) I3.base k4 I3.pos;have I4:=I3.ext x4;refine oX I4 (nm 0 _ rfl) ((kd _).trans rfl) hlk1 (by rfl) fun h5 c5 x5 I5=>?_;show wpAny _ _ (execs _ env) _ _ _;have neD:D≠ca:=dI c5 (x5.keep.plain (by intro m;obtain⟨c',v',p1,p2⟩:=I4.envr.ce ("a_digits" : Str) (.inl ((kd _).trans rfl));rw[hlk1]at p1;obtain rfl:=aG p1;exact dI p2 l4 (aS m).symm) l4) |>.symm;have l5:h5.PlainList D w4:=x5.keep.plain (fun m=>neD (aS m)) l4;have iv:IV w4.toList (List.replicate K 0):=IV.of r4;have hDO:D∉O:=I3.ov.new hD3;have J5:=I5.learn (nm 0 _ rfl) ((kd _).trans rfl) hlk1 c5 (pW (xs:=(List.replicate K 0).map ae) (by simp;assumption) hDO l5 iv.reps);rw[arm_execs_cons];obtain⟨d1,d2,d3⟩:=qI b5 env;refine aH (Ci ok T J5.base ht e5 (by unfold qualnameIn;rw[kd,e6];exact hq) (uo b6 hlk1 hlk2 hlk3) (by nofun) J5.envr.gl b8 b9 b7 b10 d1 d2 d3 (fun f fd' s6 x6 hf6 N6 hpar hscq hdf hkw=>?_) J5.pos);have I6:=J5.ext x6;have l6:s6.heap.PlainList D w4:=bj l5 x6.keep;have c6:s6.heap.IsCell ca (some (.ref D)):=fk c5 x6.keep;obtain⟨cn',vn,n1,n2,n3⟩:=I6.envr.cl 2 ("n" : Str) (ae nb) (nm 2 _ rfl) (.inl ((kd _).trans rfl)) rfl;rw[hlk3]at n1;obtain rfl:=aG n1;rw[fF]at n3;obtain⟨tn,rfl⟩:=n3.int_inv;refine oX (n:=1) I6 (nm 1 _ rfl) ((kd _).trans rfl) hlk2 (by rfl) fun h7 c7 x7 I7=>?_;show wpAny _ _ (execs _ env) _ _ _;have neDi:ci≠D:=by obtain⟨c',v',p1,p2⟩:=I6.envr.ce ("inner" : Str) (.inl ((kd _).trans rfl));rw[hlk2]at p1;obtain rfl:=aG p1;exact dI p2 l6
   have l7:h7.PlainList D w4:=x7.keep.plain (fun m=>neDi (aS m).symm) l6;have C7:rW G h7 f D ca ci cn nb fd' ib':=by
    refine⟨N6.keepBut x7.keep fun b m o e=>?_,x7.keep.cell (fun m=>hne.1 (aS m)) c6,c7,tn,x7.keep.cell (fun m=>hne.2.1 (aS m).symm) n2⟩;rcases aS m with rfl
    obtain⟨c',v',p1,p2⟩:=I6.envr.ce ("inner" : Str) (.inl ((kd _).trans rfl));rw[hlk2]at p1;obtain rfl:=aG p1;obtain⟨o',p3,p4⟩:=p2;rw[p3]at e;obtain rfl:=aG e;exact⟨fun fd h=>(by rw[p4]at h;cases h),fun vs h=>(by rw[p4]at h;cases h)⟩
   have hci0:=(I7.envr.cin _ _ hlk2).2;have hca0:=(I7.envr.cin _ _ hlk1).2;have hcn0:=(I7.envr.cin _ _ hlk3).2;have xall:bI G [ca,ci,D] s { s6 with heap:=h7 }:=by
    have m1:∀a∈[ca],a∈[ca,ci,D]:=fun a m=>by rcases aS m with rfl;simp
    have m2:∀a∈[ci],a∈[ca,ci,D]:=fun a m=>by rcases aS m with rfl;simp
    exact((((((X1.sext.trans x2.sext).trans x3.sext).trans x4.sext).trans (x5.mono m1)).trans x6.sext).trans (x7.mono m2))
   have fin:∀(s9:Shared)(w9:Array Value),bI G [D] { s6 with heap:=h7 } s9->s9.heap.PlainList D w9->IV w9.toList (dA nb x K)->s9.heap.IsCell ca (some (.ref D)) ->
     wpAny (bC G) (A.deeper env) (execs [.Return (some (.Name ("a_digits" : Str) np2)) rp2] env) (fun fl s'=>Q (match fl with|.ret v=>v|_=>.none) s') E' s9:=fun s9 w9 x9 l9 iv9 c9=>by
    rw[arm_execs_cons];refine aH ?_;rw[arm_exec_Return];refine aH (wpAny_standAt (aH (wpAny_Name (wpAny_loadName_cell hfn ((kd _).trans rfl) hlk1 c9 ?_) rfl)));refine bg (bg (q _ _ ((xall.trans (x9.mono fun a m=>by rcases aS m with rfl;simp)).ext fun b m=>?_) (pW (by simp[fK];assumption) (ov.new hDs) l9 iv9.reps)));simp only[List.mem_cons,List.not_mem_nil,or_false]at m;rcases m with rfl|rfl|rfl
    .exact hfa
    .exact hfi
    .exact hDs
   rw[arm_execs_cons];refine aH (wpAny_If ((aE (.v 11) X b13).2 (decide (x≠0)) ?_ _ I7 _ _ fun s8 x8=>?_))
   .show(some (ae x)).bind dq=_;show some ((x:Int) != 0)=_
    congr 1
    by_cases c:x=0
    .subst c;rfl
    .rw[dg c];simp;exact c
   have C8:=C7.keep x8.keep;have l8:=bj l7 x8.keep;have I8:=I7.ext x8;by_cases hx0:x=0
   .subst hx0;refine Da (fun c=>bJ c rfl) (wpAny_execs_nil ?_);have hK0:K=0:=by rw[hK];have:ib ((0:Nat):Int)=0:=rfl;rw[this];exact Nat.div_eq_of_lt ((Nat.zero_add nb).symm▸Nat.sub_lt hnb Nat.one_pos)
    refine fin s8 w4 x8.sext l8 ?_ C8.a;rw[hK0]at iv ⊢;exact iv
   .refine y8 (dg hx0) ?_;have hib:x<2^ib (x:Int):=by
     unfold ib Builtin.Int.intBits;have:((x:Int)==0)=false:=by simpa using hx0
     rw[this];simp only[Bool.false_eq_true,if_false,Int.natAbs_natCast];exact Nat.lt_log2_self
    have hib1:1<=ib (x:Int):=by
     rcases Nat.eq_zero_or_pos (ib (x:Int))with c|c
     .rw[c]at hib;simp at hib;exact absurd hib hx0
     .exact c
    have hKpos:0<K:=by rw[hK];exact Nat.div_pos (BY hib1) hnb
    have hKx:x<2^(nb*K):=by refine kS hib (Nat.pow_le_pow_right (by decide) ?_);have e:=Nat.div_add_mod (ib (x:Int)+nb-1) nb;rw[<- hK]at e;exact yr e (Nat.mod_lt _ hnb)
    rw[arm_execs_cons];have es:=a8 (O:=O) (ρ:=(bF [] [11,2] [ae x,ae nb]).set 0 (.list ((List.replicate K 0).map ae))) _ X b15;obtain⟨fo,hfo,hfd⟩:=C8.N.at';refine aH (wpAny_Expr (jm (ci:=ci) (f:=f) I8 (.inr ((kd _).trans rfl)) hlk2 C8.i rfl rfl ⟨fo,_,hfo,hfd⟩ es.ns (es.el [ae x,ae 0,ae K] ?_) fun s9 vs9 x9 r9=>?_) (gi hfn) (cg rfl _ _ _))
    .refine ah rfl (ah rfl (ah ?_ rfl));show some (PyData.int ((List.replicate K 0).map ae).length)=_;simp
    .have C9:=C8.keep x9.keep;have l9:=bj l8 x9.keep;refine yY ok nm b12 (by rw[hscq];exact b6) (fun a b c=>kh (by rw[hpar];exact b5) (by decide) hdf rfl) ⟨hca0,hci0,hcn0,hD0⟩ hne hnb 24 (A:=A.deeper env) hh (lC (Nat.add_le_add_left (by decide:25<=30) A.depth) hr) (lC (Nat.add_le_add_left (by decide:178<=200) A.units) hu) x9.base x9.pos C9 l9 iv (IV.of (ns:=[x,0,K]) r9) hKpos (by simp) (by simpa using hK2) (by simpa using hsz) (by simpa using hKx) _ _ fun s10 vs10 x10 l10 iv10=>?_;show wpAny _ _ (execs _ env) _ _ _;refine wpAny_execs_nil (fin s10 vs10 ((x8.sext.trans x9.sext).trans x10) l10 ?_ ?_)
     .simpa using iv10
     .exact(C9.but x10.keep (rK l9)).a
end
end
section
section
variable {G:GC}{A:Around}{s:Shared}
noncomputable def jd:List (Str × NameKind):=[("L", .local),("R", .local),("mid", .local),("shift", .local),("digits", .free),("inner", .free),("n", .free)]
def wE (c:Cx)(t d0:Expr)(s2 s3:Stmt)(f1:Str)(a1:dN)(sh1:Expr)(f2:Str)(a2:dN):Bool:=a7 c F7 t&&a7 c (.s (.v 10) (.v 4)) d0&&Jc c 6 KS s2&&Jc c 7 Co s3&&f1==("inner" : Str)&&eP c (.c (.v 6) (.c (.v 5) .n)) a1&&a7 c (.v 7) sh1&&f2==("inner" : Str)&&eP c (.c (.v 4) (.c (.v 6) .n)) a2
inductive KF (c:Cx):ez->Prop
 |mk {t:Expr}{d0:Expr}{q1:Pos}{q2:Pos}{s2 s3:Stmt}{f1:Str}{q7:Pos}{a1:dN}{q8:Pos}{sh1:Expr}{q9:Pos}{f2:Str}{q10:Pos}{a2:dN}{q11:Pos}{q12:Pos}{q13:Pos}(h:wE c t d0 s2 s3 f1 a1 sh1 f2 a2=true):KF c ([.If t [.Return (some d0) q1] [] q2,s2,s3, .Return (some (.BinOp (.BinOp (.Call (.Name f1 q7) a1 [] q8) .LShift sh1 q9) .Add (.Call (.Name f2 q10) a2 [] q11) q12)) q13])
def nZ (c:Cx)(b:ez):Bool:=
 bu b fun s1 r=>bu r fun s2 r=>bu r fun s3 r=>fz r fun s4=>zs s1 fun t b=>fz b fun r=>pQ r fun d0=>pQ s4 fun z=>zq z .Add fun l c2=>zq l .LShift fun c1 sh1=>ch c1 fun f1 a1=>ch c2 fun f2 a2=>wE c t d0 s2 s3 f1 a1 sh1 f2 a2
theorem ux (h:nZ c b=true):KF c b:=by refine ay h fun s1 r h=>ay h fun s2 r h=>ay h fun s3 r h=>aP h fun s4 h=>kB h fun t b p1 h=>aP h fun r h=>gU h fun d0 p2 h=>gU h fun z p3 h=>kz h fun l c2 p4 h=>kz h fun c1 sh1 p5 h=>aR h fun f1 q1 a1 q2 h=>aR h fun f2 q3 a2 q4 h=>.mk h
structure rY (G:GC)(h:Heap)(f cd ci cn:Addr)(ns:aN)(nb:Nat)(fd:FuncData)(body:ez):Prop where
 N:oR G h f fd body [("n",cn),("inner",ci),("digits",cd)]
 d:∃v,h.IsCell cd (some v)/\az G.w [cd,ci,cn] h v (.list (ns.map ae))
 i:h.IsCell ci (some (.ref f))
 n:∃t,h.IsCell cn (some (.int (nb:Int) t))
theorem rY.keep (x:rY G h f cd ci cn ns nb fd body)(k:dS h h'):rY G h' f cd ci cn ns nb fd body:=
 ⟨x.N.keep k,let⟨v,a,b⟩:=x.d;⟨v,fk a k,b.keep k⟩,fk x.i k,let⟨t,y⟩:=x.n;⟨t,fk y k⟩⟩
theorem rY.but (x:rY G h f cd ci cn ns nb fd body)(k:aL W h h')(hW:∀a∈W,∀o,h.get? a=some o->BC o)(hd:∃v,h'.IsCell cd (some v)/\az G.w [cd,ci,cn] h' v (.list (ns.map ae))):rY G h' f cd ci cn ns nb fd body:=
 ⟨x.N.keepBut k fun a m o e=>⟨(hW a m o e).1,(hW a m o e).2.1⟩,hd,kX x.i k hW,let⟨t,y⟩:=x.n;⟨t,kX y k hW⟩⟩
theorem IV.two (h:IV vals [L,R]):∃t1 t2,vals=[.int L t1, .int R t2]:=by
 obtain⟨t1,h1⟩:=h.2 0 L rfl;obtain⟨t2,h2⟩:=h.2 1 R rfl;refine⟨t1,t2,List.ext_getElem? fun i=>?_⟩
 match i with
 |0=>exact h1
 |1=>exact h2
 |n+2 =>
  rw[Dm (by rw[h.1];exact Nat.le_add_left 2 n)];rfl
def MV (G:GC)(f cd ci cn:Addr)(ns:aN)(nb:Nat)(fd:FuncData)(body:ez)(k:Nat):Prop:=
 ∀{A:Around}{s:Shared}{L R:Nat}{vals:fO},A.handled=none->A.depth+k<recursionLimit->A.units+3*(k+1)+100<cLine->a5 G s.heap->0<s.toks ->
   rY G s.heap f cd ci cn ns nb fd body->IV vals [L,R]->L<R->R<=ns.length->R-L<=2^k->nb*ns.length<=2^26 ->
   ∀(Q:ba)(E:ba),(∀s' t,Ext G s s'->Q (.int ((kQ nb ((ns.drop L).take (R-L)):Nat):Int) t) s')->wpAny (bC G) A (call (.ref f) vals) Q E s
def AE (L R nb:Nat)(ns:aN):aF:=[(4,ae L),(5,ae R),(2,ae nb),(10, .list (ns.map ae))]
theorem xT {ns:aN}(h1:L<=m)(h2:m<=R):(ns.drop L).take (R-L)=(ns.drop L).take (m-L)++(ns.drop m).take (R-m):=by rw[<- tG h1 h2,List.take_add,List.drop_drop,Nat.add_sub_cancel' h1]
set_option tactic.hygienic true in
theorem uy (ok:oQ G)(nm:∀(i:Nat) (x:Str),jn[i]?=some x->G.names[i]?=some x){nb:Nat}{fd:FuncData}{body:ez}
  (hb:nZ ⟨G.names,jd,[]⟩ body=true)(hsc:fd.scope.names=jd)(hbind:∀a b,bindArgs fd ⟨[a,b],[]⟩=pure [(("L" : Str),a),(("R" : Str),b)])
  (h0:G.h₀.get? cd=none/\G.h₀.get? ci=none/\G.h₀.get? cn=none)(hne:cd≠ci/\ci≠cn/\cd≠cn)(hnb:0<nb)(hdg:∀d∈ns,d<2^nb){k:Nat}(ih:∀j,k=j+1->MV G f cd ci cn ns nb fd body j):MV G f cd ci cn ns nb fd body k:=by
 intro A s L R vals hh hr hu B p C ivv hLR hR hk hsz Q E q;obtain⟨t1,t2,rfl⟩:=ivv.two;obtain⟨hcd,hci,hcn⟩:=h0;obtain⟨tn,Cn⟩:=C.n;obtain⟨dv,Cd,rd⟩:=C.d;refine rq (O:=[cd,ci,cn]) (xs:=["L", "R"]) (ρ:=AE L R nb ns) ok hh (by lia) B p (fun a m=>?_) C.N (hbind _ _) (fun y hy=>?_) (fun y hy=>?_) (fun y c h=>?_) (fun y z c h h'=>?_) (fun y hy=>?_) (fun n y d h1 h2 h3=>?_) (fun n y d h1 h2 h3=>?_) fun env s1 e1 e2 e3 X1 I1 E'=>?_
 .rcases bA m with rfl|m
  .exact fA Cd
  .rcases bA m with rfl|m
   .exact fA C.i
   .exact aS m▸fA Cn
 .rw[hsc];exact eM (br (show(["L", "R"]:List Str).all (fun y=>jd.lookup y==some .local)=true from rfl) y hy)
 .rw[hsc]at hy;exact br (show jd.all (fun p=>decide (p.2≠.cell))=true from rfl) y hy |> bJ
 .exact iR (P:=fun _ c=>c∈([cd,ci,cn]:a9)/\G.h₀.get? c=none) h ⟨.tail _ (.tail _ (.head _)),hcn⟩ ⟨.tail _ (.head _),hci⟩ ⟨.head _,hcd⟩
 .exact zR hne.1 hne.2.1 hne.2.2 h h'
 .rw[hsc]at hy;exact yV (P:=fun y=>∃c v,([("n",cn),("inner",ci),("digits",cd)]:List (Str × Addr)).lookup y=some c/\s.heap.IsCell c v) (A:="digits") (B:="inner") (C:="n") rfl hy ⟨_,_,rfl,Cd⟩ ⟨_,_,rfl,C.i⟩ ⟨_,_,rfl,Cn⟩
 .revert h1 h2;refine oL h3 ?_ ?_ ?_ ?_
  .intro h1 _;obtain rfl:=bQ nm h1 rfl;exact⟨_,rfl, .int⟩
  .intro h1 _;obtain rfl:=bQ nm h1 rfl;exact⟨_,rfl, .int⟩
  .intro h1 h2;obtain rfl:=bQ nm h1 rfl;rw[hsc]at h2;exact absurd h2 (by decide)
  .intro h1 h2;obtain rfl:=bQ nm h1 rfl;rw[hsc]at h2;exact absurd h2 (by decide)
 .revert h1 h2;refine oL h3 ?_ ?_ ?_ ?_
  .intro h1 h2;obtain rfl:=bQ nm h1 rfl;rw[hsc]at h2;exact absurd h2 (by decide)
  .intro h1 h2;obtain rfl:=bQ nm h1 rfl;rw[hsc]at h2;exact absurd h2 (by decide)
  .intro h1 _;obtain rfl:=bQ nm h1 rfl;exact⟨cn,_,rfl,Cn, .int⟩
  .intro h1 _;obtain rfl:=bQ nm h1 rfl;exact⟨cd,dv,rfl,Cd,rd⟩
 .have hI:=ux hb;clear hb;cases hI;rename_i hb
  .unfold wE at hb;simp only[eO,beq_iff_eq]at hb;obtain⟨⟨⟨⟨⟨⟨⟨⟨b1,b2⟩,b3⟩,b4⟩,b5⟩,b6⟩,b7⟩,b8⟩,b9⟩:=hb;subst b5 b8;have X:bV G (A.deeper env) S0 ⟨G.names,jd,[]⟩ env dE:=⟨rfl,by rw[e1,hsc],fun n=>by simp,by rw[e1];exact C.N.kind,CQ,u5,hh,by show A.units+3+100<cLine;lia⟩;have kd:∀y,env.kindOf y=jd.lookup y:=fun y=>by show env.scope.names.lookup y=_;rw[e1,hsc]
   have hfn:=X.fn;have h26:(2:Nat)^26=67108864:=by decide
   have h27:(2:Nat)^27=134217728:=by decide
   have h64:(2:Nat)^64=18446744073709551616:=by decide
   have hm1:nb*(R-L)<=nb*ns.length:=Nat.mul_le_mul_left _ (aJ (Nat.sub_le _ _) hR);have hm2:R<=nb*ns.length:=aJ hR (Nat.le_mul_of_pos_left _ hnb);have hnb26:nb<=2^26:=aJ (Nat.le_mul_of_pos_right _ (kS (Nat.zero_lt_of_lt hLR) hR)) hsz;rw[arm_execs_cons];refine aH (wpAny_If ((aE F7 X b1).2 (decide (L+1=R)) ?_ s1 I1 _ _ fun s2 x2=>?_))
   .exact bi (bi (aC (x:=ae L) (y:=ae 1) (z:=ae (L+1)) rfl rfl (eF L 1)) (bi (aa (show(AE L R nb ns).get 5=some (ae R)from rfl)) (uJ _ _))) rfl
   have I2:=I1.ext x2;have C2:=(C.keep X1.keep).keep x2.keep;by_cases hone:L+1=R
   .refine y8 (dg hone) ?_;rw[arm_execs_cons];refine aH ?_;rw[arm_exec_Return];have hLn:L<ns.length:=kS hLR hR;have hev:ev S0 (AE L R nb ns) (.s (.v 10) (.v 4))=some (ae ns[L]):=by have e:ev S0 (AE L R nb ns) (.s (.v 10) (.v 4))=(seqIndex? (L:Int) (ns.map ae).length).bind ((ns.map ae)[·]?):=rfl;rw[e,seqIndex_of (by lia) (by simp;assumption)];show(ns.map ae)[((L:Int)).toNat]?=_;rw[mY,List.getElem?_map,List.getElem?_eq_getElem hLn];rfl
    refine aH (wpAny_standAt (aH ((aE _ X b2).1 _ hev s2 I2 _ _ fun v s3 x3 r3=>?_)));obtain⟨tv,rfl⟩:=r3.int_inv;refine bg (bg (bg ?_));have e:kQ nb ((ns.drop L).take (R-L))=ns[L]:=by rw[<- hone,show L+1-L=1 from Nat.add_sub_cancel_left ..,List.drop_eq_getElem_cons hLn,List.take_succ_cons,List.take_zero];rfl
    have:=q s3 tv ((X1.trans x2).trans x3);rw[e]at this;exact this
   .refine Da (fun c=>hone (bJ c)) ?_;refine wpAny_execs_nil ?_;show wpAny _ _ (execs _ env) _ _ _;obtain⟨j,rfl⟩:∃j,k=j+1:=by
     cases k with
     |zero=>simp at hk;lia
     |succ j=>exact⟨j,rfl⟩
    have h2k:2^(j+1)=2*2^j:=by rw[Nat.pow_succ,Nat.mul_comm]
    generalize hmid:(L+R) / 2^1=mid;have hmid':mid=(L+R) / 2:=by rw[<- hmid]
    obtain⟨g1,g2,g3,g4⟩:=Dx hLR hone (h2k▸hk) hmid';generalize hsh:(mid-L)*nb=sh;have hsh':sh=nb*(mid-L):=by rw[<- hsh,Nat.mul_comm]
    have hsz':sh+nb*(R-mid)=nb*(R-L):=by rw[hsh',<- Nat.mul_add,tG (il g1) (il g2)]
    have hlow:∀a b:Nat,((ns.drop a).take b).length<=b:=fun a b=>List.length_take_le _ _;have hsub:∀a b:Nat,∀d∈(ns.drop a).take b,d<2^nb:=fun a b d m=>hdg d (List.mem_of_mem_drop (List.mem_of_mem_take m));generalize hhi:kQ nb ((ns.drop mid).take (R-mid))=hi;generalize hlo:kQ nb ((ns.drop L).take (mid-L))=lo;have hhib:hi<2^(nb*(R-mid)):=by rw[<- hhi];exact kS (EP (hsub _ _)) (Nat.pow_le_pow_right Nat.two_pos (Nat.mul_le_mul_left _ (hlow _ _)))
    have htot:kQ nb ((ns.drop L).take (R-L))=hi*2^sh+lo:=by rw[xT (il g1) (il g2),gJ,hhi,hlo,hsh',List.length_take,List.length_drop,Nat.min_eq_left (Nat.sub_le_sub_right (aJ (il g2) hR) L),Nat.add_comm,Nat.mul_comm]
    rw[arm_execs_cons];refine aH (rg X I2 b3 (aC (aC (aa rfl) (aa rfl) (eF L R)) ar (mI (L+R) 1)) fun s3 x3 I3=>?_);show wpAny _ _ (execs _ env) _ _ _;rw[hmid]at I3;rw[arm_execs_cons];refine aH (rg X I3 b4 (aC (aC (aa rfl) (aa rfl) (ge (il g1))) (aa rfl) (jG (lC (aJ (Nat.sub_le _ _) (aJ (il g2) (aJ (aJ hR (Nat.le_mul_of_pos_left _ hnb)) hsz))) (by decide)) (lC hnb26 (by decide)))) fun s4 x4 I4=>?_);show wpAny _ _ (execs _ env) _ _ _;rw[hsh]at I4;have x24:bI G [env.locals] s2 s4:=x3.trans x4;obtain⟨m2,hns2,_⟩:=id I2.envr.ns;have C4:=C2.but x24.keep (zL hns2) (by obtain⟨c',v,a1,a2,a3⟩:=I4.envr.cl 10 ("digits" : Str) (.list (ns.map ae)) (nm 10 _ rfl) (.inr ((kd _).trans rfl)) rfl;rw[e2]at a1;obtain rfl:=aG a1;rw[fF]at a3;exact⟨v,a2,a3.sub fun a m=>eh _ m⟩);have atf:∀{h:Heap}{body':ez},rY G h f cd ci cn ns nb fd body'->∃o fd',h.get? f=some o/\o.data=.func fd':=fun C=>let⟨o,e,d⟩:=C.N.at';⟨o,_,e,d⟩;rw[arm_execs_cons];refine aH ?_;rw[arm_exec_Return];refine aH (wpAny_standAt (aH ?_));have hlk:env.cells.lookup ("inner" : Str)=some ci:=by rw[e2];rfl
    have es1:=a8 (O:=env.locals::[cd,ci,cn]) (ρ:=((AE L R nb ns).set 6 (ae mid)).set 7 (ae sh)) _ X b6;have es2:=a8 (O:=env.locals::[cd,ci,cn]) (ρ:=((AE L R nb ns).set 6 (ae mid)).set 7 (ae sh)) _ X b9;refine wpAny_BinOp (wpAny_BinOp (jm (ci:=ci) (f:=f) I4 (.inl ((kd _).trans rfl)) hlk C4.i rfl rfl (atf C4) es1.ns (es1.el [ae mid,ae R] rfl) fun s5 vs5 x5 r5=>?_));have C5:=C4.keep x5.keep;have I5:=I4.ext x5;refine ih j rfl (A:=A.deeper env) hh (by show A.depth+1+j<_;lia) (by show A.units+3+3*(j+1)+100<_;lia) x5.base x5.pos C5 (IV.of (ns:=[mid,R]) r5) g2 hR g4 hsz _ _ fun s6 t6 x6=>?_;rw[hhi];have I6:=I5.ext x6;refine(aE (.v 7) X b7).1 (ae sh) rfl s6 I6 _ _ fun v s7 x7 r7=>?_;have I7:=I6.ext x7;refine mB (O:=[]) x7.base x7.pos (fun _ m=>by cases m) (az.int (i:=(hi:Int)) (t:=t6)) (r7.sub fun _ m=>by cases m) (mH hhib (aJ (Nat.le_of_eq ((Nat.add_comm _ _).trans hsz')) (aJ hm1 (aJ hsz (by decide))))) _ _ fun z s8 x8 r8=>?_;obtain⟨t8,rfl⟩:=r8.int_inv;have I8:=I7.ext x8;have C8:=((C5.keep x6.keep).keep x7.keep).keep x8.keep;refine jm (ci:=ci) (f:=f) I8 (.inl ((kd _).trans rfl)) hlk C8.i rfl rfl (atf C8) es2.ns (es2.el [ae L,ae mid] rfl) fun s9 vs9 x9 r9=>?_;refine ih j rfl (A:=A.deeper env) hh (by show A.depth+1+j<_;lia) (by show A.units+3+3*(j+1)+100<_;lia) x9.base x9.pos (C8.keep x9.keep) (IV.of (ns:=[L,mid]) r9) g1 (aJ (il g2) hR) g3 hsz _ _ fun s10 t10 x10=>?_;rw[hlo];refine mB (O:=[]) x10.base x10.pos (fun _ m=>by cases m) (az.int (i:=((hi*2^sh:Nat):Int)) (t:=t8)) (az.int (i:=(lo:Int)) (t:=t10)) (eF _ _) _ _ fun z s11 x11 r11=>?_;obtain⟨t11,rfl⟩:=r11.int_inv;refine bg (bg ?_);have:=q s11 t11 (((((((((X1.trans x2).sext.trans x24).trans x5.sext).trans x6.sext).trans x7.sext).trans x8.sext).trans x9.sext).trans x10.sext).trans x11.sext |>.ext fun b m=>by rw[aS m];exact e3);rw[htot]at this;exact this
end
end
section
section
variable {G:GC}{A:Around}
theorem yI (ok:oQ G)(nm:∀(i:Nat) (x:Str),jn[i]?=some x->G.names[i]?=some x) 
  (hb:nZ ⟨G.names,jd,[]⟩ body=true)(hsc:fd.scope.names=jd)(hbind:∀a b,bindArgs fd ⟨[a,b],[]⟩=pure [(("L" : Str),a),(("R" : Str),b)])
  (h0:G.h₀.get? cd=none/\G.h₀.get? ci=none/\G.h₀.get? cn=none)(hne:cd≠ci/\ci≠cn/\cd≠cn)(hnb:0<nb)(hdg:∀d∈ns,d<2^nb):∀k,MV G f cd ci cn ns nb fd body k
 |0=>uy ok nm hb hsc hbind h0 hne hnb hdg fun j e=>by cases e
 |k+1=>uy ok nm hb hsc hbind h0 hne hnb hdg fun j e=>by cases e;exact yI ok nm hb hsc hbind h0 hne hnb hdg k
def yH (c:Cx)(t:wi)(nmI:Str)(params:Arguments)(ib:ez)(sc:Scope)(bnd:Str)(ipos:Pos)(ts:Expr)(y1:Str)(a1:dN)(z0:Expr):Bool:=(nmI==("inner" : Str)&&bnd==("inner" : Str)&&eJ params ["L", "R"])&&(decide (sc.names=jd)&&decide (sc.kind=.function)&&!sc.isCoroutine&&!sc.isGenerator&&(docOf ib).isNone&&decide (ipos=t.pos))&&(nZ ⟨c.nm,jd,[]⟩ ib&&a7 c (.v 10) ts&&y1==("inner" : Str)&&eP c (.c (.l (.int 0)) (.c (.f .len (.c (.v 10) .n)) .n)) a1&&a7 c (.l (.int 0)) z0)
inductive KG (c:Cx)(t:wi):ez->Prop
 |mk {nmI:Str}{params:Arguments}{ib:ez}{sc:Scope}{bnd:Str}{ipos:Pos}{ts:Expr}{y1:Str}{np1:Pos}{a1:dN}{cp1:Pos}{z0:Expr}{iep:Pos}{rp2:Pos}(h:yH c t nmI params ib sc bnd ipos ts y1 a1 z0=true):KG c t ([.FunctionDef nmI params ib [] none [] sc none bnd ipos, .Return (some (.IfExp ts (.Call (.Name y1 np1) a1 [] cp1) z0 iep)) rp2])
def su (c:Cx)(t:wi)(b:ez):Bool:=
 bu b fun s1 r=>fz r fun s2=>DK s1 fun nmI params ib sc bnd ipos=>pQ s2 fun e=>tq e fun ts z z0 _=>ch z fun y1 a1=>yH c t nmI params ib sc bnd ipos ts y1 a1 z0
theorem wF (h:su c t b=true):KG c t b:=by refine ay h fun s1 r h=>aP h fun s2 h=>pP h fun nmI params ib sc bnd ipos h=>gU h fun e p1 h=>lG h fun ts z z0 p2 h=>aR h fun y1 p3 a1 p4 h=>.mk h
noncomputable def fJ:List (Str × NameKind):=[("digits", .cell),("n", .cell),("inner", .cell),("len", .globalImplicit)]
theorem um (h:sc.names=jd)(h1:env.cells.lookup ("digits" : Str)=some cd)(h2:env.cells.lookup ("inner" : Str)=some ci)(h3:env.cells.lookup ("n" : Str)=some cn) :
  closureFor sc env=pure [(("n" : Str),cn),(("inner" : Str),ci),(("digits" : Str),cd)] :=
 o4 h (fun y c e=>iR (P:=fun y c=>env.cells.lookup y=some c) e h3 h2 h1) rfl
set_option tactic.hygienic true in
theorem An (ok:oQ G)(T:kc G)(nm:∀(i:Nat) (x:Str),jn[i]?=some x->G.names[i]?=some x)(ht:t∈G.tabs)(Df:iS G a fd body ["digits", "n"])
  (hout:su ⟨G.names,fJ,[]⟩ t body=true)(hs:fd.scope.names=fJ)(hcode:fd.code=.ref t.c)(hq:fd.qualname ++ ".<locals>." ++ ("inner" : Str)=t.qual)
  {Oc:a9}{s:Shared}{vs:fO}{ns:aN}{nb:Nat}(hh:A.handled=none)(hr:A.depth+30<recursionLimit)(hu:A.units+200<cLine)(B:a5 G s.heap)(p:0<s.toks)(ov:dH Oc s.heap)(r:ak G.w Oc s.heap vs [.list (ns.map ae),ae nb])
  (hnb:0<nb)(hsz:nb*ns.length<=2^26)(hK2:ns.length<=2^24)(hdg:∀d∈ns,d<2^nb):dG G A Oc (call (.ref a) vs) s (ae (kQ nb ns)):=fun Q E q=>by
 have h26:(2:Nat)^26=67108864:=by decide
 have h24:(2:Nat)^24=16777216:=by decide
 refine po (f:=⟨[10,2],[], .n⟩) ok hh (by lia) B p ov r Df ?_ rfl fun s1 O M FF hM X1 E' _=>?_
 .unfold iG;have e1:=nm 10 _ rfl;have e2:=nm 2 _ rfl;simp only[hs,i8,List.map_nil,e1,e2];rfl
 .generalize henv:callEnvC fd s.heap.objs.size a=env at FF ⊢;have e1:env.scope=fd.scope:=by rw[<- henv];rfl
  have e4:env.cells=[(("inner" : Str),s.heap.objs.size+3),(("n" : Str),s.heap.objs.size+2),(("digits" : Str),s.heap.objs.size+1)]:=by
   have:env.cells=cellsFrom (s.heap.objs.size+1) fd.scope.names []:=by rw[<- henv];rfl
   rw[this,hs];rfl
  have e5:env.code=.ref t.c:=by rw[<- hcode,<- henv];rfl
  have e6:env.qual=fd.qualname ++ ".<locals>.":=by rw[<- henv];rfl
  generalize hcd:s.heap.objs.size+1=cd at e4;generalize hci:s.heap.objs.size+3=ci at e4;generalize hcn:s.heap.objs.size+2=cn at e4;have hne:cd≠ci/\ci≠cn/\cd≠cn:=by rw[<- hcd,<- hci,<- hcn];refine⟨?_, ?_, ?_⟩ <;> (intro h;have h:(_:Nat)=_:=h;lia)
  have I1:=FF.inv;have hfn:=I1.envr.fn;have kd:∀y,env.kindOf y=fJ.lookup y:=fun y=>by show env.scope.names.lookup y=_;rw[e1,hs]
  have hI:=wF hout;clear hout;cases hI;rename_i nmI params ib' sc bnd ipos ts y1 np1 a1 cp1 z0 iep rp2 hout
  .refine gP hout fun ha hb hc=>gP ha fun b3 b4 b5=>hZ hb fun b6 b7 b8 b9 b10 b11=>nf hc fun b12 b13 b14 b15 b16=>?_;obtain rfl:=eM b3;obtain rfl:=eM b4;obtain rfl:=bJ b11;obtain rfl:=eM b14;have b6:=bJ b6;have b7:=bJ b7;have b8:=im b8;have b9:=im b9;have b10:=Option.isNone_iff_eq_none.mp b10;have X:bV G (A.deeper env) S0 ⟨G.names,fJ,[]⟩ env dE:=⟨rfl,by rw[e1,hs],fun n=>by simp,hfn,CQ,u5,hh,by show A.units+3+100<cLine;lia⟩;have hlk1:env.cells.lookup ("digits" : Str)=some cd:=by rw[e4];rfl
   have hlk2:env.cells.lookup ("inner" : Str)=some ci:=by rw[e4];rfl
   have hlk3:env.cells.lookup ("n" : Str)=some cn:=by rw[e4];rfl
   have hfi:=hM ci (FF.mc _ _ hlk2);rw[arm_execs_cons];obtain⟨d1,d2,d3⟩:=qI b5 env;refine aH (Ci ok T I1.base ht e5 (by unfold qualnameIn;rw[kd,e6];exact hq) (um b6 hlk1 hlk2 hlk3) (by nofun) I1.envr.gl b8 b9 b7 b10 d1 d2 d3 (fun f fd' s6 x6 hf6 N6 hpar hscq hdf hkw=>?_) I1.pos);have I6:=I1.ext x6;refine oX (n:=1) I6 (nm 1 _ rfl) ((kd _).trans rfl) hlk2 (by rfl) fun h7 c7 x7 I7=>?_;show wpAny _ _ (execs _ env) _ _ _;have xall:Ext G s { s6 with heap:=h7 }:=((X1.trans x6).sext.trans x7).ext fun b m=>by rw[aS m];exact hfi
   have C7:rY G h7 f cd ci cn ns nb fd' ib':=by
    obtain⟨c',v,p1,p2,p3⟩:=I7.envr.cl 10 ("digits" : Str) (.list (ns.map ae)) (nm 10 _ rfl) (.inl ((kd _).trans rfl)) rfl;rw[hlk1]at p1;obtain rfl:=aG p1;obtain⟨c',vn,q1,q2,q3⟩:=I7.envr.cl 2 ("n" : Str) (ae nb) (nm 2 _ rfl) (.inl ((kd _).trans rfl)) rfl;rw[hlk3]at q1;obtain rfl:=aG q1;rw[fF]at p3 q3;obtain⟨tn,rfl⟩:=q3.int_inv;refine⟨N6.keepBut x7.keep fun b m o e=>?_,⟨v,p2,p3.sub fun a m=>?_⟩,c7,tn,q2⟩
    .rcases aS m with rfl
     obtain⟨c',v',p1,p2⟩:=I6.envr.ce ("inner" : Str) (.inl ((kd _).trans rfl));rw[hlk2]at p1;obtain rfl:=aG p1;obtain⟨o',p3,p4⟩:=p2;rw[p3]at e;obtain rfl:=aG e;exact⟨fun fd h=>(by rw[p4]at h;cases h),fun vs h=>(by rw[p4]at h;cases h)⟩
    .simp only[List.mem_cons,List.not_mem_nil,or_false]at m;rcases m with rfl|rfl|rfl
     .exact(I7.envr.cin _ _ hlk1).1
     .exact(I7.envr.cin _ _ hlk2).1
     .exact(I7.envr.cin _ _ hlk3).1
   have hci0:=(I7.envr.cin _ _ hlk2).2;have hcd0:=(I7.envr.cin _ _ hlk1).2;have hcn0:=(I7.envr.cin _ _ hlk3).2;rw[arm_execs_cons];refine aH ?_;rw[arm_exec_Return];refine aH (wpAny_standAt (aH (wpAny_IfExp ((aE (.v 10) X b13).2 (!ns.isEmpty) ?_ _ I7 _ _ fun s8 x8=>?_))))
   .show some (!(ns.map ae).isEmpty)=_;cases ns <;> rfl
   have C8:=C7.keep x8.keep;have I8:=I7.ext x8;cases hns:ns with
   |nil =>
    show wpAny _ _ (eval z0 env) _ _ _;refine(aE (.l (.int 0)) X b16).1 (ae 0) rfl s8 I8 _ _ fun v s9 x9 r9=>bg (bg (q _ _ ((xall.trans x8).trans x9) ?_));obtain⟨tv,rfl⟩:=r9.int_inv;subst hns;exact .int
   |cons d0 dr =>
    show wpAny _ _ (eval (.Call (.Name ("inner" : Str) np1) a1 [] cp1) env) _ _ _;have es:=a8 (O:=O) (ρ:=bF [] [10,2] [.list (ns.map ae),ae nb]) _ X b15;obtain⟨fo,hfo,hfd⟩:=C8.N.at';refine jm (ci:=ci) (f:=f) I8 (.inr ((kd _).trans rfl)) hlk2 C8.i rfl rfl ⟨fo,_,hfo,hfd⟩ es.ns (es.el [ae 0,ae ns.length] ?_) fun s9 vs9 x9 r9=>?_
    .refine ah rfl (ah ?_ rfl);show some (PyData.int (ns.map ae).length)=_;simp
    .have C9:=C8.keep x9.keep;refine yI ok nm b12 (by rw[hscq];exact b6) (fun a b=>kh (by rw[hpar];exact b5) (by decide) hdf rfl) ⟨hcd0,hci0,hcn0⟩ hne hnb hdg 24 (A:=A.deeper env) hh (by show A.depth+1+24<_;lia) (by show A.units+3+3*(24+1)+100<_;lia) x9.base x9.pos C9 (IV.of (ns:=[0,ns.length]) r9) (by rw[hns];simp) (fc _) (by simpa using hK2) hsz _ _ fun s10 t10 x10=>?_;refine bg (bg (q _ _ (((xall.trans x8).trans x9).trans x10) ?_));rw[List.drop_zero,Nat.sub_zero,List.take_length,hns];exact .int
end
end
section
section
variable {G:GC}
structure cB (G:GC)(cal:Nat->List D->Option D)(K U:Nat):Prop where
 go:∀A:Around,A.handled=none->A.depth+K<recursionLimit->A.units+U<cLine->oP G A cal
noncomputable def put (cal:Nat->List D->Option D)(n:Nat)(cf:List D->Option D):Nat->List D->Option D:=fun m ds=>if m=n then cf ds else cal m ds
theorem Kz (h:S.rz=false):MP G A S c env ns:=fun e=>by rw[h]at e;exact ff e
set_option tactic.hygienic true in
theorem cB.add {K U n:Nat}{x:Str}{f:Fn}{fd:FuncData}{body:ez}{xs:List Str}{a:Addr}{cf:List D->Option D}{gl:Nat->Option D}(ok:oQ G)(h:cB G cal K U)(hU:103<=U)(hn:G.names[n]?=some x)(hm:G.mg x=some (.ref a))
  (Df:iS G a fd body xs)(hf:wQ G.names f fd body xs=true)(hg:gY G gl)(hc:∀ds d,cf ds=some d->aV ⟨cal,gl,false⟩ f ds=some d):cB G (put cal n cf) (K+1) (U+3):=⟨fun A hh hr hu=>⟨fun m y ds d hy hcal=>by
 unfold put at hcal;split at hcal
 .rename_i e;subst e;rw[hn]at hy;obtain rfl:=aG hy;obtain⟨o,ho,hd⟩:=Df.at';exact⟨a,o,fd,hm,ho,hd,fun O s vs B p ov r=>uR (S:=⟨cal,gl,false⟩) ok hh (by lia) (by lia) B p ov r Df hf (fun env=>h.go _ hh (by show A.depth+1+K<_;lia) (by show A.units+3+U<_;lia)) hg (Kz rfl) (hc ds d hcal)⟩
 .exact(h.go A hh (by exact il ‹_›) (by lia)).go m y ds d hy hcal⟩⟩
def fm (x nb:Nat):Nat:=(ib (x:Int)+nb-1) / nb
def kr (ds:List D):Option D:=i2 ds fun x nb=>if 0<=x/\0<nb/\nb<=2^26/\nb.toNat*fm x.toNat nb.toNat<=2^26/\fm x.toNat nb.toNat<=2^24 then some (.list ((dA nb.toNat x.toNat (fm x.toNat nb.toNat)).map ae))else none
noncomputable def rn:List D->Option aN
 |[]=>some []
 |d::r=>dh d fun n=>if 0<=n then(rn r).map (n.toNat :: ·)else none
theorem zh:∀{xs:List D}{ns:aN},rn xs=some ns->xs=ns.map ae
 |[],ns,h=>by obtain rfl:=aG h;rfl
 |d::r,ns,h=>by
  obtain⟨n,rfl,g⟩:=aU h;by_cases c:0<=n
  .rw[if_pos c]at g;obtain⟨ms,h1,rfl⟩:=Option.map_eq_some_iff.mp g;rw[i8,zh h1,ae,Int.toNat_of_nonneg c]
  .rw[if_neg c]at g;exact nn g
theorem vw:∀ns:aN,rn (ns.map ae)=some ns
 |[]=>rfl
 |n::ns=>by show(if 0<=(n:Int)then(rn (ns.map ae)).map ((n:Int).toNat :: ·)else none)=_;rw[if_pos (by lia),vw ns];simp
def kj (ds:List D):Option D:=d2 ds fun xs nb=>A0 xs fun xs=>dh nb fun nb=>(rn xs).bind fun ns=>if 0<nb/\nb.toNat*ns.length<=2^26/\ns.length<=2^24/\ns.all (fun d=>decide (d<2^nb.toNat))then some (ae (kQ nb.toNat ns))else none
set_option tactic.hygienic true in
theorem BU (ok:oQ G)(T:kc G)(nm:∀(i:Nat) (x:Str),jn[i]?=some x->G.names[i]?=some x)(hne:n1≠n2)
  (hn1:G.names[n1]?=some x1)(hn2:G.names[n2]?=some x2)(hm1:G.mg x1=some (.ref a1))(hm2:G.mg x2=some (.ref a2))(ht1:t1∈G.tabs)(ht2:t2∈G.tabs)
  (D1:iS G a1 fd1 body1 ["a", "n"]) (D2:iS G a2 fd2 body2 ["digits", "n"]) (ho1:sR ⟨G.names,fL,[]⟩ t1 body1=true)(ho2:su ⟨G.names,fJ,[]⟩ t2 body2=true)
  (hs1:fd1.scope.names=fL)(hs2:fd2.scope.names=fJ)(hc1:fd1.code=.ref t1.c)(hc2:fd2.code=.ref t2.c)(hq1:fd1.qualname ++ ".<locals>." ++ ("inner" : Str)=t1.qual) (hq2:fd2.qualname ++ ".<locals>." ++ ("inner" : Str)=t2.qual) :
  cB G (put (put (fun _ _=>none) n1 kr) n2 kj) 30 200:=⟨fun A hh hr hu=>⟨fun m y ds d hy hcal=>by
 unfold put at hcal;split at hcal
 .rename_i e;subst e;rw[hn2]at hy;obtain rfl:=aG hy;obtain⟨o,ho,hd⟩:=D2.at';refine⟨a2,o,fd2,hm2,ho,hd,fun O s vs B p ov r=>?_⟩;obtain⟨xs,nb,rfl,hcal⟩:=sq hcal;obtain⟨xs,rfl,hcal⟩:=jp hcal;obtain⟨nb,rfl,hcal⟩:=aU hcal;obtain⟨ns,hns,hcal⟩:=Option.bind_eq_some_iff.mp hcal;obtain⟨⟨c1,c2,c3,c4⟩,rfl⟩:=gw hcal
  ···obtain⟨nb',rfl⟩:=Int.eq_ofNat_of_zero_le (Int.le_of_lt c1);have:=zh hns;subst this;exact An ok T nm ht2 D2 ho2 hs2 hc2 hq2 hh hr hu B p ov r (by lia) (by simpa using c2) c3 (fun d hd=>by simpa using br c4 d hd)
 .split at hcal
  .rename_i e;subst e;rw[hn1]at hy;obtain rfl:=aG hy;obtain⟨o,ho,hd⟩:=D1.at';refine⟨a1,o,fd1,hm1,ho,hd,fun O s vs B p ov r=>?_⟩;obtain⟨x,nb,rfl,hcal⟩:=px hcal;obtain⟨⟨c0,c1,c2,c3,c4⟩,rfl⟩:=gw hcal
   ··obtain⟨nb',rfl⟩:=Int.eq_ofNat_of_zero_le (Int.le_of_lt c1);obtain⟨x',rfl⟩:=Int.eq_ofNat_of_zero_le c0;exact Ax ok T nm ht1 D1 ho1 hs1 hc1 hq1 hh hr hu B p ov r (by lia) (by lia) rfl (by simpa using c3) (by simpa using c4)
  .exact nn hcal⟩⟩
end
end
section
section
variable {p prog:Program}{loose:List Str}{mean:ExcName->Option Value}{w:World}{h:Heap}{mg mb:Str->Option Value}{c1 P1 c2 P2:Addr}{pos1 pos2:Pos}{nm:List Str}
noncomputable def eU (prog:Program)(w:World)(h:Heap)(mg mb:Str->Option Value)(c1 P1 c2 P2:Addr)(pos1 pos2:Pos)(nm:List Str):GC:=
 ⟨prog,w,ghostOf h [(c1,P1),(c2,P2)],mg,mb,[⟨c1,P1,pos1, "_int2digits.<locals>.inner"⟩,⟨c2,P2,pos2, "_digits2int.<locals>.inner"⟩],nm⟩
theorem KW (T:Top p loose mean mg mb h)(hT:TabsAt [(c1,P1),(c2,P2)] h)(hnd:nm.Nodup)(hnb:∀x∈bZ,mg x=none):oQ (eU prog w h mg mb c1 P1 c2 P2 pos1 pos2 nm):=by obtain⟨bm,ob,b1,b2,b3,b4,b5,b6⟩:=T.bmain;refine⟨ghost_ns hT T.g,ghost_ns hT T.b,(ghost_top hT T).nolimit,hnd,hnb,T.builtins,bm,ob,b1,b2,fun q=>?_,ghost_get hT b3 (fun q=>by rw[q]at b4;cases b4),b4,b5,b6⟩;obtain⟨o,es,ep,e,d,_⟩:=T.g;rw[<- q,b3]at e;obtain rfl:=aG e;rw[b6]at d;cases d
theorem Gu (hne:P1≠P2):kc (eU prog w h mg mb c1 P1 c2 P2 pos1 pos2 nm):=by
 refine⟨fun t ht=>?_,fun t ht t' ht' e=>?_⟩
 .have ht:t∈[(⟨c1,P1,pos1, "_int2digits.<locals>.inner"⟩:wi),⟨c2,P2,pos2, "_digits2int.<locals>.inner"⟩]:=ht;simp only[List.mem_cons,List.not_mem_nil,or_false]at ht;rcases ht with rfl|rfl <;> exact hideAll_none _ (by simp)
 .have ht:t∈[(⟨c1,P1,pos1, "_int2digits.<locals>.inner"⟩:wi),⟨c2,P2,pos2, "_digits2int.<locals>.inner"⟩]:=ht;have ht':t'∈[(⟨c1,P1,pos1, "_int2digits.<locals>.inner"⟩:wi),⟨c2,P2,pos2, "_digits2int.<locals>.inner"⟩]:=ht';simp only[List.mem_cons,List.not_mem_nil,or_false]at ht ht';rcases ht with rfl|rfl <;> rcases ht' with rfl|rfl
  .rfl
  .exact absurd e hne
  .exact absurd e.symm hne
  .rfl
theorem Gq (hT:TabsAt [(c1,P1),(c2,P2)] h):a5 (eU prog w h mg mb c1 P1 c2 P2 pos1 pos2 nm) h:=by
 refine⟨fun b o e=>of_hideAll _ e,fun t ht=>?_⟩;have ht:t∈[(⟨c1,P1,pos1, "_int2digits.<locals>.inner"⟩:wi),⟨c2,P2,pos2, "_digits2int.<locals>.inner"⟩]:=ht;simp only[List.mem_cons,List.not_mem_nil,or_false]at ht;have h1:=hT (c1,P1) (by simp);have h2:=hT (c2,P2) (by simp);rcases ht with rfl|rfl
 .exact⟨h1.1,#[],h1.2,trivial, .inl rfl⟩
 .exact⟨h2.1,#[],h2.2,trivial, .inl rfl⟩
def HX (p:Program)(x:Str)(d:DefRec):Prop:=(recsOf p).find? (fun e=>e.name==x)=some d
def jw (d:DefRec)(xs:List Str):Bool:=eJ d.params xs&&decide xs.Nodup&&!d.scope.isCoroutine&&!d.scope.isGenerator&&decide (d.scope.kind=.function)
theorem wT (T:Top p loose mean mg mb h)(hT:TabsAt [(c1,P1),(c2,P2)] h)(hd:HX p x d)(hp:jw d xs=true) :
  ∃a fd,mg x=some (.ref a)/\iS (eU prog w h mg mb c1 P1 c2 P2 pos1 pos2 nm) a fd d.body xs/\fd.scope=d.scope/\fd.qualname=x/\(∃o,h.get? a=some o/\o.data=.func fd):=by
 have hn:d.name=x:=eM (List.find?_some (p:=fun e:DefRec=>e.name==x) hd);obtain⟨a,o,pm,code,doc,h1,h2,h3,h4⟩:=T.fn d (List.mem_of_find?_eq_some hd);simp only[jw,eO,Bool.not_eq_true',jE]at hp;obtain⟨⟨⟨⟨p1,p2⟩,p3⟩,p4⟩,p5⟩:=hp;refine⟨a,docDef d.name d.params d.body d.scope pm code doc,hn▸h1,⟨⟨o,ghost_get hT h2 (fun q=>by rw[q]at h3;cases h3),h3⟩, ?_,rfl,rfl,rfl,rfl,fun vals hl=>kh p1 p2 rfl hl,p3,p4,p5⟩,rfl,hn,o,h2,h3⟩;obtain⟨c,oc,vs,t,e1,e2,e3,e4⟩:=h4;refine⟨c,oc,vs,t,e1,ghost_get hT e2 (fun q=>?_),e3,e4⟩;rw[q]at e3;cases e3;simp at e4
theorem Gr (T:Top p loose mean mg mb h)(hg:∀n x d,nm[n]?=some x->gl n=some d->valOf p x=some d/\sok d=true):gY (eU prog w h mg mb c1 P1 c2 P2 pos1 pos2 nm) gl:=fun n x d hn hd=>by obtain⟨h1,h2⟩:=hg n x d hn hd;obtain⟨v,e,r⟩:=T.const x d h1;exact⟨v,e,fun O h'=>⟨[],r h',⟨fun a m=>(by cases m),h2⟩⟩⟩
theorem gc_end (hT:TabsAt [(c1,P1),(c2,P2)] s₁.heap)(X:Ext (eU prog w s₁.heap mg mb c1 P1 c2 P2 pos1 pos2 nm) s₁ s')(r:az w [] s'.heap v (.bool true))(hg:s₁.gens=#[])
  (hr:∀a x,cw.raises a x=false)(hp:cw.post args (.bool true) args=true):GoodWG cw cl mean args s₁ (.ok (.ret v)) s':=by
 obtain rfl:=r.bool_inv;obtain⟨sg,so⟩:=X.same;have keep:∀b o,b≠P1->b≠P2->s₁.heap.get? b=some o->s'.heap.get? b=some o:=fun b o n1 n2 e=>X.base.keep b o (ghost_ne e (by simp;exact⟨n1,n2⟩));have tabs:∀b,(b=P1\/b=P2)->isCodeTable s₁.heap b/\s₁.heap.get? b=some (tabObj #[])/\∃ps,s'.heap.get? b=some (tabObj ps):=fun b hb=>by
  have h1:=hT (c1,P1) (by simp);have h2:=hT (c2,P2) (by simp);have m1:=X.base.memo ⟨c1,P1,pos1, "_int2digits.<locals>.inner"⟩ (by show _∈[_,_];simp);have m2:=X.base.memo ⟨c2,P2,pos2, "_digits2int.<locals>.inner"⟩ (by show _∈[_,_];simp);rcases hb with rfl|rfl
  .obtain⟨_,ps,e,_⟩:=m1;exact⟨(h1.1.tab h1.2).isCodeTable,h1.2,ps,e⟩
  .obtain⟨_,ps,e,_⟩:=m2;exact⟨(h2.1.tab h2.2).isCodeTable,h2.2,ps,e⟩
 refine⟨.inl ⟨.bool true, .bool true,[],rfl,fun cls=>hr _ _, .bool true,hp,fun _=>⟨.nil,fun a m=>by cases m⟩⟩,⟨fun b o e=>?_,fun b o e=>?_⟩,so, .of_eq (sg.trans hg)⟩
 .by_cases hb:b=P1\/b=P2
  .obtain⟨t1,t2,ps,t3⟩:=tabs b hb;rw[t2]at e;obtain rfl:=aG e;exact .inr (.inl ⟨t1,rfl,#[],ps,rfl,by rw[Array.empty_append];exact t3⟩)
  .exact .inl (keep b o (fun q=>hb (.inl q)) (fun q=>hb (.inr q)) e)
 .by_cases hb:b=P1\/b=P2
  .obtain⟨t1,t2,ps,t3⟩:=tabs b hb;exact⟨_,t3⟩
  .exact⟨o,keep b o (fun q=>hb (.inl q)) (fun q=>hb (.inr q)) e⟩
end
end
section
section
variable {G:GC}{A:Around}
structure HA (G:GC)(env:Env)(s s':Shared)(e:Addr):Prop where
 same:s'.gens=s.gens/\s'.os=s.os
 pos:0<s'.toks
 via:∃h2 L2 t,dS s.heap h2/\a5 G h2/\(∀b,h2.get? b=none->s.heap.get? b=none)/\s.heap.get? L2=none/\(∃o es ep,h2.get? L2=some o/\o.data=.dict es ep) /\
  Heap.FlyingW (hideAll h2 [L2,env.locals]) [env] e (.type "ZeroDivisionError") t s'.heap/\h2.UpToSlots s'.heap
theorem AK {env env2:Env}{e L2:Addr}{Q:Unit->Shared->Prop}{E:ba}(hfr:A.frames=some [env2,env])(hf:env.frame=some env.locals)(hf2:env2.frame=some L2)(hk:env.scope.kind=.function)(hk2:env2.scope.kind=.function)
  (x:Ext G s s2)(hL:∃m,s2.heap.Ns env.locals m)(hL2:s.heap.get? L2=none)(hns2:∃m,s2.heap.Ns L2 m)(hx:Heap.NewExc s2.heap h' e "ZeroDivisionError") (hne:env.locals≠L2)
  (q:∀s',HA G env s s' e->Q () s'):wpAny (bC G) A (leaving env2 (.ref e)) Q E { s2 with heap:=h' }:=by
 obtain⟨m,hm⟩:=hL;obtain⟨m2,hm2⟩:=hns2;obtain⟨ob,t,he,hc,hd⟩:=hx.there;have hen:(hideAll s2.heap [L2,env.locals]).get? e=none:=by
  cases q:(hideAll s2.heap [L2,env.locals]).get? e with
  |none=>rfl
  |some o=>have:=of_hideAll _ q;rw[hx.new]at this;exact nn this
 have fx:({ s2 with heap:=h' }:Shared).heap.FunFrames (hideAll s2.heap [L2,env.locals]) [env2,env] :=
  .cons (by rw[hk2];decide) hf2 (hm2.keeps hx.keeps) (hideAll_none _ (by simp)) (.cons (by rw[hk];decide) hf (hm.keeps hx.keeps) (hideAll_none _ (by simp)) trivial)
 refine wpAny_leaving_firstW (base:=hideAll s2.heap [L2,env.locals]) (a0:=t) hfr fx hf2 he (fun b o hb=>hx.keeps b o (of_hideAll _ hb)) hen hd rfl rfl fun h3 hl=>?_;obtain⟨k1,k2,k3,k4⟩:=hl;have xp:=x.pos;obtain⟨o2,es2,ep2,e3,e4,_⟩:=id hm2;refine q _ ⟨x.same,xp,s2.heap,L2,t,x.keep,x.base,x.back,hL2,⟨o2,es2,ep2,e3,e4⟩,⟨k1,hen,k2.2.2, ?_⟩,fun b o hb hn=>?_⟩
 .rw[hc]at k3;exact k3
 .exact k4 b o (hx.keeps b o hb) hn
theorem GQ {xs:List Str}{a:Addr}{Oc:a9}{s:Shared}{vs:fO}{ds:List D}{ib:Nat}{ts:Expr}{np rp ip:Pos}{els rest:ez}{Q:ba}{E:ba}
  (ok:oQ G)(hh:A.handled=none)(hr:A.depth<recursionLimit)(hu:A.units+103<cLine)(hfr:A.frames=some [env])(hf:env.frame=some env.locals)(hk:env.scope.kind=.function)(hL:∃m,s.heap.Ns env.locals m)
  (B:a5 G s.heap)(p:0<s.toks)(ov:dH Oc s.heap)(r:ak G.w Oc s.heap vs ds)(Df:iS G a fd body xs)(hf0:iG G.names f fd xs=true)(hl:ds.length=f.params.length)
  (hbody:body=.If ts [.Raise (some (.Name "ZeroDivisionError" np)) none rp] els ip::rest) (hown:f.own=[])(hc:a7 ⟨G.names,fd.scope.names,[]⟩ (.q .Eq (.v ib) (.l (.int 0))) ts=true) (hv:(bF [] f.params ds).get ib=some (.int 0))
  (hzk:fd.scope.names.lookup ("ZeroDivisionError" : Str)=some .globalImplicit) (hzm:G.mg "ZeroDivisionError" = none) (q:∀e s',HA G env s s' e->E (.ref e) s'):wpAny (bC G) A (call (.ref a) vs) Q E s:=by
 refine po ok hh hr B p ov r Df hf0 hl fun s1 O M FF hM X1 E' hE'=>?_;generalize henv:callEnvC fd s.heap.objs.size a=env2 at FF hE' ⊢;have e1:env2.scope=fd.scope:=by rw[<- henv];rfl
 have e2:env2.frame=some env2.locals:=by rw[<- henv];rfl
 have I1:=FF.inv;have hfn:=I1.envr.fn;rw[hown]at I1;have X:bV G (A.deeper env2) S0 ⟨G.names,fd.scope.names,[]⟩ env2 dE:=⟨rfl,by rw[e1],fun n=>by simp,hfn,CQ,u5,hh,by show A.units+3+100<cLine;assumption⟩;subst hbody;rw[arm_execs_cons];refine aH (wpAny_If ((aE _ X hc).2 true ?_ s1 I1 _ _ fun s2 x2=>?_))
 .exact bi (bi (aa hv) (bi rfl rfl)) rfl
 .refine y8 rfl ?_;have I2:=I1.ext x2;rw[arm_execs_cons];refine aH (Raise_classB hh excClass_ZeroDivisionError excClass_ZeroDivisionError.self (dD I2 ?_ rfl hzm (by decide +kernel) (by decide) ⟨rfl,rfl⟩) fun h' e hn=>hE' _ _ ?_)
  .show env2.scope.names.lookup _=_;rw[e1];exact hzk
  .have hml:=FF.ml;have fl:=hM _ hml;obtain⟨m,hm⟩:=hL;have xx:=X1.trans x2;obtain⟨m2,hm2,_⟩:=I2.envr.ns;refine AK (Around.frames_deeper hfr) hf e2 hk (by rw[e1];exact Df.kind) xx ⟨m,ta hm xx.keep⟩ fl ⟨m2,hm2⟩ hn (fun h=>?_) fun s' F=>q e s' F;obtain⟨o,es,ep,e3,_⟩:=hm;rw[h,fl]at e3;exact nn e3
end
end
section
section
variable {G:GC}{A:Around}{S:cU}{env:Env}{own:dM}{O Oc M:a9}{ρ:aF}{d:D}{ns:Nk}
theorem FI.over (F:FI G A env own O Oc M ρ s1)(same:s6.gens=s1.gens/\s6.os=s1.os)(pos:0<s6.toks)(kp:dS s1.heap h2)(B2:a5 G h2)(back2:∀b,h2.get? b=none->s1.heap.get? b=none)
  (hL2:s1.heap.get? L2=none)(hd2:∃o es ep,h2.get? L2=some o/\o.data=.dict es ep)(K:∀b o,b≠L2->b≠env.locals->h2.get? b=some o->s6.heap.get? b=some o)(up:h2.UpToSlots s6.heap) :
  FI G A env own O Oc M ρ s6/\bW G O M s1 O M s6:=by
 obtain⟨m,hm,hv⟩:=F.inv.envr.ns;have hm2:h2.Ns env.locals m:=ta hm kp;have hm6:s6.heap.Ns env.locals m:=up.ns hm2;obtain⟨ol,es,ep,e1,e2,_⟩:=id hm;obtain⟨ol2,es2,ep2,e3,e4,_⟩:=id hm2;obtain⟨o2,es3,ep3,e5,e6⟩:=hd2;have kb:aL [env.locals] s1.heap s6.heap:=fun b o n e c=>K b o (fun q=>by rw[q,hL2]at e;exact nn e) (fun q=>n (by simp[q])) (kp b o e c);have h0:G.h₀.get? L2=none:=bw (fun o q=>F.inv.base.keep _ o q) hL2;have B6:a5 G s6.heap:=B2.but (W:=[L2,env.locals]) (fun b o n e=>K b o (fun q=>n (by simp[q])) (fun q=>n (by simp[q])) e) (fun a ma=>by
  simp only[List.mem_cons,List.not_mem_nil,or_false]at ma;rcases ma with rfl|rfl
  .exact h0
  .exact F.inv.envr.lfr) fun a ma o e=>by
  simp only[List.mem_cons,List.not_mem_nil,or_false]at ma;rcases ma with rfl|rfl
  .rw[e5]at e;obtain rfl:=aG e;exact dY e6
  .rw[e3]at e;obtain rfl:=aG e;exact dY e4
 have ht:bD O [env.locals] s1.heap:=fun a ma o e=>by
  rcases aS ma with rfl
  rw[e1]at e;obtain rfl:=aG e;exact⟨dY e2,fun _=>F.inv.envr.lin⟩
 have plain_ne:∀n a vs,own.at' n=some a->s1.heap.PlainList a vs->a∉[env.locals]:=fun n a vs _ ⟨k,e⟩ ma=>by rw[aS ma,e1]at e;obtain rfl:=aG e;cases e2
 have cell_ne:∀{c v},s1.heap.IsCell c v->c∉[env.locals]:=fun{c v} ⟨o,e,dd⟩ ma=>by rw[aS ma,e1]at e;obtain rfl:=aG e;rw[e2]at dd;cases dd
 have I6:cV G A env own O ρ s6:=by
  refine⟨F.inv.ok,F.inv.hh,B6,pos,F.inv.ov.but kb fun a ma=>?_,⟨F.inv.envr.fn,F.inv.envr.gl,F.inv.envr.bi,F.inv.envr.lin,F.inv.envr.lfr,F.inv.envr.oin,F.inv.envr.cin,F.inv.envr.inj,fun y hy=>?_,⟨m,hm6,fun n y d h1 h2 h3=>?_⟩,fun n y d h1 h2 h3=>?_⟩⟩
  .rcases aS ma with rfl
   obtain⟨o,es,ep,e,dd,_⟩:=hm6;exact⟨o,e, .inr fun vs q=>by rw[dd]at q;cases q⟩
  .obtain⟨c,v,e,q⟩:=F.inv.envr.ce y hy;exact⟨c,v,e,kb.cell (cell_ne q) q⟩
  .obtain⟨v,e,r⟩:=hv n y d h1 h2 h3;exact⟨v,e,r.but kb ht (plain_ne n)⟩
  .obtain⟨c,v,e,q,r⟩:=F.inv.envr.cl n y d h1 h2 h3;exact⟨c,v,e,kb.cell (cell_ne q) q,r.but kb ht (plain_ne n)⟩
 refine⟨⟨I6,F.mO,F.ml,F.mc,F.mo,F.m0,fun a ma o e=>?_,F.cO,F.cM,F.inj⟩,⟨⟨same,kb.mono fun a ma=>by rcases aS ma with rfl;exact F.ml,B6,pos,fun b nb e=>?_⟩,fun _ m=>m,fun _ m=>m,fun _ m=>.inl m,fun _ m=>.inl m⟩⟩
 .by_cases c:a=env.locals
  .subst c;obtain⟨o',es,ep,e',dd,_⟩:=hm6;rw[e']at e;obtain rfl:=aG e;exact dY dd
  .obtain⟨o',e',q⟩:=F.back a ma;rw[kb a o' (by simpa using c) e' q]at e;obtain rfl:=aG e;exact F.mt a ma _ e'
 .by_cases w:b=L2
  .exact w▸hL2
  .cases q:h2.get? b with
   |none=>exact back2 b q
   |some o =>
    have:s6.heap.get? b=some o:=K b o w (fun w=>nb (w▸F.ml)) q;rw[e]at this;exact nn this
theorem Hw {a0:Addr}{k0 ib:Nat}{ts:Expr}{np rp ip:Pos}{els rest:ez}(ok:oQ G)(hh:A.handled=none)(hr:A.depth<recursionLimit)(hu:A.units+103<cLine)(hfr:A.frames=some [env])(hf:env.frame=some env.locals)
  (X:∀own,own.is ns->bV G A S c env own)(hk0:G.names[k0]?=some "int_divmod") (hm0:G.mg "int_divmod" = some (.ref a0)) (Df:iS G a0 fd body xs)(hf0:iG G.names f0 fd xs=true)(hpar:f0.params=[11,ib])(hne:ib≠11)(hown:f0.own=[])
  (hbody:body=.If ts [.Raise (some (.Name "ZeroDivisionError" np)) none rp] els ip::rest) (hc:a7 ⟨G.names,fd.scope.names,[]⟩ (.q .Eq (.v ib) (.l (.int 0))) ts=true) (hzk:fd.scope.names.lookup ("ZeroDivisionError" : Str)=some .globalImplicit) (hzm:G.mg "ZeroDivisionError" = none) :
  MP G A S c env ns:=fun _ f args n b x ρ Oc a h he=>by
 refine nF h fun y es z v b' np1 cp ep zp vp nn0 cp2 ap hp tp h=>?_
 .simp only[eO,beq_iff_eq,Bool.not_eq_true']at h;obtain⟨⟨⟨⟨⟨⟨⟨⟨⟨h1,h2⟩,h3⟩,h4⟩,h5⟩,h6⟩,h7⟩,h8⟩,h9⟩,_⟩:=h;subst h2 h5 h9;intro own O M s hn F Q E q1 q2;have Xo:=X own hn;have hfn:=F.inv.envr.fn;obtain⟨g1,g2⟩:=Xo.glob h1;obtain⟨z1,z2⟩:=Xo.glob h6;obtain⟨o,ho,hdat⟩:=Df.at';have es1:=a8 args (O:=O) (ρ:=ρ) Xo h4;refine wpAny_Try_except ?_;rw[arm_execs_cons];refine aH (wpAny_Expr (wpAny_Call_Name_kw (jM F.inv g1 g2 hm0 ?_)) (gi hfn) (cg rfl _ _ _));refine callWith_function_kw (o:=o) (fd:=fd) (bl es1.ns (es1.el _ he s cp F.inv _ _ fun vs s1 x1 r1=>⟨⟨x1.base.keep _ _ ho,hdat⟩, ?_⟩));have F1:=F.ext x1;obtain⟨m,hm,_⟩:=F1.inv.envr.ns;refine GQ (env:=env) ok hh hr hu hfr hf hfn ⟨m,hm⟩ x1.base x1.pos F1.inv.ov r1 Df hf0 (by rw[hpar];rfl) hbody hown hc (by rw[hpar];show aF.get (aF.set [(11, .int a)] ib (.int 0)) ib=_;rw[aF.get_set,if_pos rfl]) hzk hzm fun e s' Fl=>?_;obtain⟨sm,ps,h2,L2,t,kp,B2,back2,hL2,hd2,fly,up⟩:=Fl;refine wpAny_looks_onW hfr hf fly fun h4 held4 sm4=>?_;refine wpAny_landsW held4 fun h5 fly5 sm5=>?_;obtain⟨ob,hob,hobc⟩:=fly5.there;have hb0:∀b o,G.h₀.get? b=some o->(hideAll h2 [L2,env.locals]).get? b=some o:=fun b o e=>hideAll_get _ (B2.keep b o e) (fun m=>by
   simp only[List.mem_cons,List.not_mem_nil,or_false]at m;rcases m with rfl|rfl
   .rw[bw (fun o q=>F1.inv.base.keep _ o q) hL2]at e;exact nn e
   .rw[F1.inv.envr.lfr]at e;exact nn e)
  refine wpAny_handleBy_builtin (X:="ZeroDivisionError") (T:="ZeroDivisionError") (b:=true) (isSubtype_of_subB (by decide +kernel)) (isSubtype_of_subB (by decide +kernel)) (isSubtype_of_subB (by decide +kernel)) ?_;refine Name_function_global hfn z1 (loadGlobal_builtin (mg:=G.mg) (mb:=G.mb) ?_ hzm ?_ ((ok.bt _ (by decide)).trans (by decide +kernel:bootBuiltins ("ZeroDivisionError" : Str)=some (.type "ZeroDivisionError"))) ⟨rfl,⟨ob,hob,hobc⟩, ?_⟩) z2
  .rw[F1.inv.envr.gl];exact ok.g.at' fun o e=>fly5.1 _ o (hb0 _ o e)
  .rw[F1.inv.envr.bi];exact ok.b.at' fun o e=>fly5.1 _ o (hb0 _ o e)
  .rw[if_pos rfl];refine lands_againW fly5 fun h6 fly6 sm6=>?_;obtain⟨F6,st6⟩:=F1.over (s6:={ s' with heap:=h6 }) sm ps kp B2 back2 hL2 (let⟨o,es,ep,e,d⟩:=hd2;⟨o,es,ep,e,d⟩) (fun b o n1 n2 e=>fly6.1 b o (hideAll_get _ e (by simp;exact⟨n1,n2⟩))) (((up.trans sm4).trans sm5).trans sm6);obtain⟨nm,kq,hkq,hkk⟩:=Xo.tgt h7;have hno:n∉own.ns:=Xo.nown (by rw[h8];rfl);rw[arm_execs_cons];refine aH (wpAny_Assign_Name (wpAny_Constant_bool ?_) rfl);refine d5 (W:=wtg G env [n]) F6.inv nm hkq hkk (gX hno .bool) ⟨dX,fun hc c e=>(gK (G:=G) (env:=env) [n]).2 n (by simp) v c nm hc e⟩ fun s7 x7 _ I7=>?_;refine wpAny_execs_nil (q1 _ own O M s7 rfl hn (F6.stored x7 I7) (bW.trans F.mO x1.step (bW.trans F1.mO st6 (F6.step x7))))
end
end
section
noncomputable def gH:List Str:=[("a_digits" : Str),("inner" : Str),("n" : Str),("x" : Str),("L" : Str),("R" : Str),("mid" : Str),("shift" : Str),("upper" : Str),("lower" : Str),("digits" : Str),("a" : Str),("_div2n1n" : Str),("r" : Str),("q1" : Str),("half_n" : Str),("q2" : Str),("pad" : Str),("_div3n2n" : Str),("b2" : Str),("b1" : Str),("b" : Str),("mask" : Str),("_DIV_LIMIT" : Str),("_divmod_pos" : Str),("q" : Str),("_digits2int" : Str),("q_digits" : Str),("a_digit" : Str),("q_digit" : Str),("_int2digits" : Str),("int_divmod" : Str),("_ellipsis_match" : Str),("w" : Str),("ws" : Str),("startpos" : Str),("got" : Str),("endpos" : Str),("want" : Str),("ELLIPSIS_MARKER" : Str),("_escape_cdata" : Str),("text" : Str),("_escape_attrib" : Str),("_escape_attrib_html" : Str),("_escape_cdata_c14n" : Str),("_escape_attrib_c14n" : Str),("_law_written" : Str),("kind" : Str),("_law_spelled" : Str),("names" : Str),("sign" : Str)]
noncomputable def iQ:Fn:=⟨[11,21,2],[],(.c (.i (.q .LtE (.b .Sub (.m .bitlen (.v 11) .n) (.v 2)) (.g 23)) (.c (.r (.f .divmod (.c (.v 11) (.c (.v 21) .n)))) .n) .n) (.c (.s 17 (.b .BitAnd (.v 2) (.l (.int 1)))) (.c (.i (.v 17) (.c (.aug 11 .LShift (.l (.int 1))) (.c (.aug 21 .LShift (.l (.int 1))) (.c (.aug 2 .Add (.l (.int 1))) .n))) .n) (.c (.s 15 (.b .RShift (.v 2) (.l (.int 1)))) (.c (.s 22 (.b .Sub (.b .LShift (.l (.int 1)) (.v 15)) (.l (.int 1)))) (.c (.u [20,19] (.t (.c (.b .RShift (.v 21) (.v 15)) (.c (.b .BitAnd (.v 21) (.v 22)) .n)))) (.c (.u [14,13] (.c 18 (.c (.b .RShift (.v 11) (.v 2)) (.c (.b .BitAnd (.b .RShift (.v 11) (.v 15)) (.v 22)) (.c (.v 21) (.c (.v 20) (.c (.v 19) (.c (.v 15) .n)))))))) (.c (.u [16,13] (.c 18 (.c (.v 13) (.c (.b .BitAnd (.v 11) (.v 22)) (.c (.v 21) (.c (.v 20) (.c (.v 19) (.c (.v 15) .n)))))))) (.c (.i (.v 17) (.c (.aug 13 .RShift (.l (.int 1))) .n) .n) (.c (.r (.t (.c (.b .BitOr (.b .LShift (.v 14) (.v 15)) (.v 16)) (.c (.v 13) .n)))) .n))))))))))⟩
noncomputable def fR:Fn:=⟨[11,21],[27],(.c (.s 2 (.m .bitlen (.v 21) .n)) (.c (.s 0 (.c 30 (.c (.v 11) (.c (.v 2) .n)))) (.c (.s 13 (.l (.int 0))) (.c (.newO 27 .n) (.c (.l [28] (.rev (.v 0)) (.c (.u [29,13] (.c 12 (.c (.b .Add (.b .LShift (.v 13) (.v 2)) (.v 28)) (.c (.v 21) (.c (.v 2) .n))))) (.c (.a 27 (.v 29)) .n))) (.c (.rev 27) (.c (.s 25 (.ocall 26 27 (.c (.v 2) .n))) (.c (.r (.t (.c (.v 25) (.c (.v 13) .n)))) .n))))))))⟩
noncomputable def bL:Fn:=⟨[11,21],[],(.c (.i (.q .Eq (.v 21) (.l (.int 0))) (.c .hole .n) (.c (.i (.q .Lt (.v 21) (.l (.int 0))) (.c (.u [25,13] (.c 31 (.c (.n (.v 11)) (.c (.n (.v 21)) .n)))) (.c (.r (.t (.c (.v 25) (.c (.n (.v 13)) .n)))) .n)) (.c (.i (.q .Lt (.v 11) (.l (.int 0))) (.c (.u [25,13] (.c 31 (.c (.w (.v 11)) (.c (.v 21) .n)))) (.c (.r (.t (.c (.w (.v 25)) (.c (.b .Add (.v 21) (.w (.v 13))) .n)))) .n)) (.c (.r (.c 24 (.c (.v 11) (.c (.v 21) .n)))) .n)) .n)) .n)) .n)⟩
noncomputable def bR:Fn:=⟨[38,36],[34],(.c (.i (.q .NotIn (.g 39) (.v 38)) (.c (.r (.q .Eq (.v 38) (.v 36))) .n) .n) (.c (.splitO 34 (.v 38) (.g 39)) (.c (.assert (.q .GtE (.olen 34) (.l (.int 2)))) (.c (.u [35,37] (.t (.c (.l (.int 0)) (.c (.f .len (.c (.v 36) .n)) .n)))) (.c (.s 33 (.oget 34 (.l (.int 0)))) (.c (.i (.v 33) (.c (.i (.m .startswith (.v 36) (.c (.v 33) .n)) (.c (.s 35 (.f .len (.c (.v 33) .n))) (.c (.del 34 (0)) .n)) (.c (.r (.l (.bool false))) .n)) .n) .n) (.c (.s 33 (.oget 34 (.n (.l (.int 1))))) (.c (.i (.v 33) (.c (.i (.m .endswith (.v 36) (.c (.v 33) .n)) (.c (.aug 37 .Sub (.f .len (.c (.v 33) .n))) (.c (.del 34 (-1)) .n)) (.c (.r (.l (.bool false))) .n)) .n) .n) (.c (.i (.q .Gt (.v 35) (.v 37)) (.c (.r (.l (.bool false))) .n) .n) (.c (.grow 34 [33] (.c (.s 35 (.m .find3 (.v 36) (.c (.v 33) (.c (.v 35) (.c (.v 37) .n))))) (.c (.i (.q .Lt (.v 35) (.l (.int 0))) (.c (.r (.l (.bool false))) .n) .n) (.c (.aug 35 .Add (.f .len (.c (.v 33) .n))) .n)))) (.c (.r (.l (.bool true))) .n)))))))))))⟩
noncomputable def dp:Fn:=⟨[41],[],(.c (.tryE (.c (.i (.q .In (.l (.str "&")) (.v 41)) (.c (.s 41 (.r (.v 41) "&" "&amp;")) .n) .n) (.c (.i (.q .In (.l (.str "<")) (.v 41)) (.c (.s 41 (.r (.v 41) "<" "&lt;")) .n) .n) (.c (.i (.q .In (.l (.str ">")) (.v 41)) (.c (.s 41 (.r (.v 41) ">" "&gt;")) .n) .n) (.c (.r (.v 41)) .n))))) .n)⟩
noncomputable def df:Fn:=⟨[41],[],(.c (.tryE (.c (.i (.q .In (.l (.str "&")) (.v 41)) (.c (.s 41 (.r (.v 41) "&" "&amp;")) .n) .n) (.c (.i (.q .In (.l (.str "<")) (.v 41)) (.c (.s 41 (.r (.v 41) "<" "&lt;")) .n) .n) (.c (.i (.q .In (.l (.str ">")) (.v 41)) (.c (.s 41 (.r (.v 41) ">" "&gt;")) .n) .n) (.c (.i (.q .In (.l (.str "\"")) (.v 41)) (.c (.s 41 (.r (.v 41) "\"" "&quot;")) .n) .n) (.c (.i (.q .In (.l (.str "\r")) (.v 41)) (.c (.s 41 (.r (.v 41) "\r" "&#13;")) .n) .n) (.c (.i (.q .In (.l (.str "\n")) (.v 41)) (.c (.s 41 (.r (.v 41) "\n" "&#10;")) .n) .n) (.c (.i (.q .In (.l (.str "\t")) (.v 41)) (.c (.s 41 (.r (.v 41) "\t" "&#09;")) .n) .n) (.c (.r (.v 41)) .n))))))))) .n)⟩
noncomputable def bP:Fn:=⟨[41],[],(.c (.tryE (.c (.i (.q .In (.l (.str "&")) (.v 41)) (.c (.s 41 (.r (.v 41) "&" "&amp;")) .n) .n) (.c (.i (.q .In (.l (.str ">")) (.v 41)) (.c (.s 41 (.r (.v 41) ">" "&gt;")) .n) .n) (.c (.i (.q .In (.l (.str "\"")) (.v 41)) (.c (.s 41 (.r (.v 41) "\"" "&quot;")) .n) .n) (.c (.r (.v 41)) .n))))) .n)⟩
noncomputable def bS:Fn:=⟨[41],[],(.c (.tryE (.c (.i (.q .In (.l (.str "&")) (.v 41)) (.c (.s 41 (.r (.v 41) "&" "&amp;")) .n) .n) (.c (.i (.q .In (.l (.str "<")) (.v 41)) (.c (.s 41 (.r (.v 41) "<" "&lt;")) .n) .n) (.c (.i (.q .In (.l (.str ">")) (.v 41)) (.c (.s 41 (.r (.v 41) ">" "&gt;")) .n) .n) (.c (.i (.q .In (.l (.str "\r")) (.v 41)) (.c (.s 41 (.r (.v 41) "\r" "&#xD;")) .n) .n) (.c (.r (.v 41)) .n)))))) .n)⟩
noncomputable def bO:Fn:=⟨[41],[],(.c (.tryE (.c (.i (.q .In (.l (.str "&")) (.v 41)) (.c (.s 41 (.r (.v 41) "&" "&amp;")) .n) .n) (.c (.i (.q .In (.l (.str "<")) (.v 41)) (.c (.s 41 (.r (.v 41) "<" "&lt;")) .n) .n) (.c (.i (.q .In (.l (.str "\"")) (.v 41)) (.c (.s 41 (.r (.v 41) "\"" "&quot;")) .n) .n) (.c (.i (.q .In (.l (.str "\t")) (.v 41)) (.c (.s 41 (.r (.v 41) "\t" "&#x9;")) .n) .n) (.c (.i (.q .In (.l (.str "\n")) (.v 41)) (.c (.s 41 (.r (.v 41) "\n" "&#xA;")) .n) .n) (.c (.i (.q .In (.l (.str "\r")) (.v 41)) (.c (.s 41 (.r (.v 41) "\r" "&#xD;")) .n) .n) (.c (.r (.v 41)) .n)))))))) .n)⟩
noncomputable def cT:Fn:=⟨[47,41],[],(.c (.i (.q .Lt (.v 47) (.l (.int 2))) (.c (.r (.e (.q .Eq (.v 47) (.l (.int 0))) (.c 40 (.c (.v 41) .n)) (.c 42 (.c (.v 41) .n)))) .n) .n) (.c (.i (.q .Lt (.v 47) (.l (.int 4))) (.c (.r (.e (.q .Eq (.v 47) (.l (.int 2))) (.c 43 (.c (.v 41) .n)) (.c 44 (.c (.v 41) .n)))) .n) .n) (.c (.r (.c 45 (.c (.v 41) .n))) .n)))⟩
noncomputable def dL : Fn := ⟨[47, 41], [], (.c (.s 49 (.s (.i (.c (.d [("&", "&amp;"), ("<", "&lt;"), (">", "&gt;")]) (.c (.d [("&", "&amp;"), ("<", "&lt;"), (">", "&gt;"), ("\"", "&quot;"), ("\r", "&#13;"), ("\n", "&#10;"), ("\t", "&#09;")]) (.c (.d [("&", "&amp;"), (">", "&gt;"), ("\"", "&quot;")]) (.c (.d [("&", "&amp;"), ("<", "&lt;"), (">", "&gt;"), ("\r", "&#xD;")]) (.c (.d [("&", "&amp;"), ("<", "&lt;"), ("\"", "&quot;"), ("\r", "&#xD;"), ("\n", "&#xA;"), ("\t", "&#x9;")]) .n)))))) (.v 47))) (.c (.r (.m .join (.l (.str "")) (.c (.p (.m .get (.v 49) (.c (.v 50) (.c (.v 50) .n))) (.c [50] (.e (.v 41)) .n .n)) .n))) .n))⟩
noncomputable def bB (n:Nat):Option D:=if n=23 then some (.int 4000)else if n=39 then some (.str "...")else none
noncomputable def nJ (p:Program)(x:Str):Option DefRec:=(recsOf p).find? (·.name==x)
def eW (nm:List Str)(p:Program)(x:Str)(f:Fn)(xs:List Str):Bool:=iL (nJ p x) fun d=>wQ nm f (docDef d.name d.params d.body d.scope .none .none .none) d.body xs&&jw d xs
end
end Internal
section
namespace Internal
open PySem.StrLaws PySem.Builtin.Str
noncomputable def iy (c:Nat)(z:aN)(l:aN):aN:=l.flatMap fun k=>if k=c then z else[k]
theorem lS (c:Nat)(z a b:aN):iy c z (a++b)=iy c z a++iy c z b:=by simp[iy]
theorem gG:∀{l:aN},c∉l->iy c z l=l
 |[],_=>rfl
 |k::r,h=>by have h1:¬ k=c:=fun e=>h (e▸dX);have:=gG (z:=z) fun m=>h (eh _ m);unfold iy at this ⊢;rw[List.flatMap_cons,if_neg h1,this];rfl
theorem qg (c:Nat)(z:aN):∀parts:List Str,(∀p∈parts,c∉p.cps.toList)->iy c z (Str.join ⟨#[c]⟩ parts).cps.toList=(Str.join ⟨z.toArray⟩ parts).cps.toList
 |[],_=>rfl
 |[p],h=>gG (h p (List.mem_singleton.mpr rfl))
 |p::q::r,h=>by have ih:=qg c z (q::r) fun a ha=>h a (eh _ ha);show iy c z (p++⟨#[c]⟩++Str.join ⟨#[c]⟩ (q::r)).cps.toList=(p++⟨z.toArray⟩++Str.join ⟨z.toArray⟩ (q::r)).cps.toList;simp only[Str.cps_append,Array.toList_append];rw[lS,lS,ih,gG (h p dX)];show p.cps.toList++iy c z [c]++_=_;simp[iy]
theorem tE (x z:Str)(c:Nat):(Txt.replace x ⟨#[c]⟩ z).cps.toList=iy c z.cps.toList x.cps.toList:=by have:z=⟨z.cps.toList.toArray⟩:=Str.ext' (by simp);rw[replace_one,this,<- qg c _ _ (split_free x c),join_split]
theorem Str.of_list {x y:Str}(h:x.cps.toList=y.cps.toList):x=y:=Str.ext' (Array.toList_inj.mp h)
theorem v4 (x y:Str):Txt.startswith x y=y.cps.toList.isPrefixOf x.cps.toList:=by
 unfold Txt.startswith;rw[subAt_eq,List.drop_zero,Bool.eq_iff_iff,eO,jE,beq_iff_eq,List.isPrefixOf_iff_prefix,List.prefix_iff_eq_take];have e1:y.length=y.cps.toList.length:=by simp[Str.length]
 have e2:x.length=x.cps.toList.length:=by simp[Str.length]
 rw[e1,e2];constructor
 .intro h;exact h.2.symm
 .intro h;refine⟨?_,h.symm⟩;have:=congrArg List.length h;rw[List.length_take]at this
  lia
theorem Ar (x y:Str):Txt.endswith x y=y.cps.toList.isSuffixOf x.cps.toList:=by
 unfold Txt.endswith;rw[subAt_eq,Bool.eq_iff_iff,eO,jE,beq_iff_eq,List.isSuffixOf_iff_suffix,List.suffix_iff_eq_drop];have e1:y.length=y.cps.toList.length:=by simp[Str.length]
 have e2:x.length=x.cps.toList.length:=by simp[Str.length]
 rw[e1,e2];constructor
 .rintro ⟨h1,h2⟩
  rw[List.take_of_length_le (by rw[List.length_drop];exact Nat.le_of_eq (Nat.sub_sub_self (aJ (Nat.le_of_eq (Nat.zero_add _).symm) h1)))]at h2;exact h2.symm
 .intro h;have hl:=congrArg List.length h;rw[List.length_drop]at hl;refine⟨aJ (Nat.le_of_eq ((Nat.zero_add _).trans hl)) (Nat.sub_le _ _), ?_⟩;rw[List.take_of_length_le (by rw[List.length_drop];exact Nat.le_of_eq hl.symm)];exact h.symm
theorem j4:∀{a:Nat}{c1 c2:aN}{f1 f2:Nat},ChainG x y hi a c1 f1->ChainG x y hi a c2 f2->(∀k,f1<=k->¬ At x y hi k)->(∀k,f2<=k->¬ At x y hi k)->c1=c2
 |a,[],[],_,_,_,_,_,_=>rfl
 |a,[],c::r,f1,f2,h1,h2,n1,_=>by have e:f1=a:=h1;exact absurd h2.2.1 (n1 c (e▸h2.1))
 |a,c::r,[],f1,f2,h1,h2,_,n2=>by have e:f2=a:=h2;exact absurd h1.2.1 (n2 c (e▸h1.1))
 |a,c::r,d::q,f1,f2,h1,h2,n1,n2=>by
  have e:c=d:=by
   rcases Nat.lt_trichotomy c d with h|h|h
   .exact absurd h1.2.1 (h2.2.2.1 c h1.1 h)
   .exact h
   .exact absurd h2.2.1 (h1.2.2.1 d h2.1 h)
  subst e;rw[j4 h1.2.2.2 h2.2.2.2 n1 n2]
noncomputable def dots:Str:="..."
theorem jF:dots.cps.toList=[46,46,46]:=by decide
theorem gu:dots.length=3:=by decide
noncomputable def be:List aN->aN
 |[]=>[]
 |[p]=>p
 |p::q::r=>p++[46,46,46]++be (q::r)
noncomputable def o9:Nat->List aN->aN
 |a,p::q::r=>(a+p.length)::o9 (a+p.length+3) (q::r)
 |_,_=>[]
theorem sn (h:At x dots x.length k):x.cps.toList[k]?=some 46:=by
 obtain⟨h1,h2⟩:=h;rw[subAt_eq,gu,jF,beq_iff_eq]at h2;have:=congrArg (·[0]?) h2
 simpa [List.getElem?_take,List.getElem?_drop]using this
theorem mE:∀{ps:List aN}{a:Nat},ps≠[]->(∀p∈ps,46∉p)->x.cps.toList.drop a=be ps->a<=x.cps.toList.length ->
  (∃f,ChainG x dots x.length a (o9 a ps) f/\∀k,f<=k->¬ At x dots x.length k)/\(partsFrom x 3 a (o9 a ps)).map (·.cps.toList)=ps
 |[],_,h,_,_,_=>absurd rfl h
 |[p],a,_,hf,hd,ha=>by
  have hl:x.length=x.cps.toList.length:=by simp[Str.length]
  refine⟨⟨a,rfl,fun k hk hA=>?_⟩, ?_⟩
  .have h1:=sn hA;have:p[k-a]?=some 46:=by have e:p=x.cps.toList.drop a:=hd.symm;rw[e,List.getElem?_drop,show a+(k-a)=k by lia];exact h1
   exact hf p (List.mem_singleton.mpr rfl) (qw this)
  .show[(strSub x a x.length).cps.toList]=[p];rw[strSub_toList,hd,List.take_of_length_le]
   .rfl
   .have e:=congrArg List.length hd;rw[List.length_drop]at e;show(be [p]).length<=_;rw[<- e,hl];exact fc _
 |p::q::r,a,_,hf,hd,ha=>by
  have hl:x.length=x.cps.toList.length:=by simp[Str.length]
  have hd':x.cps.toList.drop a=p++([46,46,46]++be (q::r)):=by rw[hd];exact List.append_assoc ..
  have hlen:=congrArg List.length hd';simp only[List.length_drop,dR,sW,List.length_nil]at hlen;have hd2:x.cps.toList.drop (a+p.length+3)=be (q::r):=by rw[show a+p.length+3=a+(p.length+3) by lia,<- List.drop_drop,hd',List.drop_append,List.drop_of_length_le (by lia),List.nil_append,show p.length+3-p.length=3 by lia];rfl
  obtain⟨⟨f,c1,c2⟩,e⟩:=mE (x:=x) (ps:=q::r) (a:=a+p.length+3) (by simp) (fun s m=>hf s (eh _ m)) hd2 (by lia);have hA:At x dots x.length (a+p.length):=by refine⟨by rw[gu,hl];lia, ?_⟩;rw[subAt_eq,gu,jF,beq_iff_eq,<- List.drop_drop,hd',List.drop_append,List.drop_of_length_le (by exact fc _),List.nil_append,Nat.sub_self];rfl
  refine⟨⟨f,⟨nr _ _,hA,fun k h1 h2 hB=>?_,by rw[gu];exact c1⟩,c2⟩, ?_⟩
  .have h3:=sn hB;have:p[k-a]?=some 46:=by
    have e:(x.cps.toList.drop a)[k-a]?=some 46:=by rw[List.getElem?_drop,show a+(k-a)=k by lia];exact h3
    rw[hd',List.getElem?_append_left (by lia)]at e;exact e
   exact hf p dX (qw this)
  .show(strSub x a (a+p.length)).cps.toList::(partsFrom x 3 (a+p.length+3) (o9 (a+p.length+3) (q::r))).map (·.cps.toList)=_;rw[e,strSub_toList,hd',show a+p.length-a=p.length by lia,List.take_left'];rfl
theorem xL (hx:x.cps.toList=be ps)(hn:2<=ps.length)(hf:∀p∈ps,46∉p):(Txt.split x dots).map (·.cps.toList)=ps:=by
 have hne:ps≠[]:=fun e=>by rw[e]at hn;simp at hn
 obtain⟨⟨f,c1,c2⟩,e⟩:=mE (x:=x) (a:=0) hne hf (by simpa using hx) (gL _);obtain⟨f',d1,d2⟩:=occ_tight x dots (by rw[gu];decide);have ho:=j4 d1 c1 d2 c2;rcases ps with⟨⟩|⟨p,⟨⟩|⟨q,r⟩⟩
 .exact absurd rfl hne
 .exact absurd hn (by decide:¬ 2<=1)
 .have hA:=c1.2.1;have hl:=hA.1;unfold Txt.split;rw[if_neg (by simp only[Bool.or_eq_true,jE,not_or,Nat.not_lt];exact⟨by lia,PySem.W.kind_le _ _ hA.2⟩),ho,if_neg (show¬ (o9 0 (p::q::r)).isEmpty=true from g6),partsBetween_eq,gu];exact e
end Internal
end
namespace Internal
section
variable {S:cU}{cal:Nat->List D->Option D}{gl:Nat->Option D}{rz:Bool}
theorem ag (h:ex S ρ s=some (.n ρ'))(h':dP S ρ' r=o):dP S ρ (.c s r)=o:=by
 have e:dP S ρ (.c s r)=match ex S ρ s with|some (.n ρ')=>dP S ρ' r|o=>o:=rfl
 rw[e,h];exact h'
theorem au (h:ex S ρ s=some (.r d)):dP S ρ (.c s r)=some (.r d):=by
 have e:dP S ρ (.c s r)=match ex S ρ s with|some (.n ρ')=>dP S ρ' r|o=>o:=rfl
 rw[e,h]
theorem aW (h:evT S ρ c=some t)(h':(if t then dP S ρ a else dP S ρ b)=o):ex S ρ (.i c a b)=o:=bi h (by cases t <;> exact h')
theorem aK (h:ev S ρ e=some d):ex S ρ (.s n e)=some (.n (ρ.set n d)):=by have e':ex S ρ (.s n e)=(ev S ρ e).map fun d=>.n (aF.set ρ n d):=rfl;rw[e',h];rfl
theorem bE (h:ev S ρ e=some d):ex S ρ (.r e)=some (.r d):=by have e':ex S ρ (.r e)=(ev S ρ e).map .r:=rfl;rw[e',h];rfl
theorem cF (hl:ds.length=f.params.length)(h:dP S (bF [] f.params ds) f.body=some (.r d)):aV S f ds=some d:=by unfold aV;rw[if_pos hl,h];rfl
noncomputable abbrev tx (l:aN):Str:=⟨l.toArray⟩
abbrev aj (l:aN):D:=.str (tx l)
noncomputable def fe (T:List (Nat × aN))(k:Nat):aN:=(T.lookup k).getD [k]
def bM (T:List (Nat × aN))(l:aN):aN:=l.flatMap (fe T)
theorem uG (T:List (Nat × aN))(a b:aN):bM T (a++b)=bM T a++bM T b:=by simp[bM]
theorem Cv (l:aN):bM [] l=l:=by unfold bM fe;simp
theorem vm {T:List (Nat × aN)}:(T++[(c,z)]).lookup k=match T.lookup k with|some v=>some v|none=>if k=c then some z else none:=by
 induction T with
 |nil =>
  by_cases h:k=c
  .subst h;simp
  .have:(k==c)=false:=by simpa using h
   simp[List.lookup_cons,this,h]
 |cons p r ih =>
  obtain⟨a,v⟩:=p;rw[List.cons_append,List.lookup_cons,List.lookup_cons];cases k==a
  .exact ih
  .rfl
theorem uI {c:Nat}{z:aN}(h:∀p∈T,c∉p.2)(l:aN):iy c z (bM T l)=bM (T++[(c,z)]) l:=by
 unfold bM iy;rw[List.flatMap_assoc]
 congr 1
 funext k
 have e:fe (T++[(c,z)]) k=match T.lookup k with|some v=>v|none=>if k=c then z else[k]:=by
  unfold fe;rw[vm];cases T.lookup k with
  |some v=>rfl
  |none =>
   by_cases q:k=c
   .simp[q]
   .simp[q]
 rw[e];unfold fe;cases q:T.lookup k with
 |none=>simp
 |some v =>
  have hm:(k,v)∈T:=by
   clear e h
   induction T with
   |nil=>exact nn q
   |cons p r ih =>
    obtain⟨a,u⟩:=p;rw[List.lookup_cons]at q;cases hb:k==a with
    |true=>rw[hb]at q;obtain rfl:=aG q;rw[eM hb];exact dX
    |false=>rw[hb]at q;exact eh _ (ih q)
  exact gG (h _ hm)
def tc (l:aN):Prop:=l.length<=100000/\∀c∈l,c<55296
noncomputable def DJ (T:List (Nat × aN)):Bool:=T.all fun p=>decide (p.2.length<=6)&&p.2.all fun c=>decide (c<55296)
theorem sC (hT:DJ T=true)(hk:k<55296):(fe T k).length<=6/\∀c∈fe T k,c<55296:=by
 unfold fe;cases q:T.lookup k with
 |none=>simp;exact hk
 |some v =>
  have hm:(k,v)∈T:=by
   clear hT
   induction T with
   |nil=>exact nn q
   |cons p r ih =>
    obtain⟨a,u⟩:=p;rw[List.lookup_cons]at q;cases hb:k==a with
    |true=>rw[hb]at q;obtain rfl:=aG q;rw[eM hb];exact dX
    |false=>rw[hb]at q;exact eh _ (ih q)
  have:=br hT _ hm;simp only[eO,jE,List.all_eq_true]at this;exact this
theorem iD (hT:DJ T=true):∀{l:aN},(∀c∈l,c<55296)->(bM T l).length<=6*l.length/\∀c∈bM T l,c<55296
 |[],_=>⟨fc _,fun c m=>by cases m⟩
 |k::r,h=>by
  obtain⟨h1,h2⟩:=iD hT (l:=r) fun c m=>h c (eh _ m);obtain⟨g1,g2⟩:=sC hT (h k dX);have e:bM T (k::r)=fe T k++bM T r:=by simp[bM]
  rw[e];refine⟨by rw[dR,sW];lia,fun c m=>?_⟩;rcases cy m with m|m
  .exact g2 c m
  .exact h2 c m
theorem jz (h1:l.length<=16777216)(h2:∀c∈l,c<55296):sok (aj l)=true:=by show(PyData.strOk (tx l)&&decide ((tx l).length<=16777216))=true;rw[eO,jE];refine⟨?_,by simpa [Str.length]using h1⟩;show(tx l).cps.all (· < 0x110000)=true;rw[Array.all_eq_true'];intro c hc;have:=h2 c (by simpa using hc);exact dg (by exact qp ‹_› rfl)
theorem Cw (hy:y=⟨#[c]⟩)(hl:tc l)(hT:DJ (T++[(c,z.cps.toList)])=true)(hf:∀p∈T,c∉p.2)(hT0:DJ T=true)(hg:ρ.get v=some (aj (bM T l))) :
  ∃ρ',ex S ρ (.i (.q .In (.l (.str y)) (.v v)) (.c (.s v (.r (.v v) y z)) .n) .n)=some (.n ρ')/\ρ'.get v=some (aj (bM (T++[(c,z.cps.toList)]) l)):=by
 subst hy;have hlen:=iD hT0 (l:=l) hl.2;have hlen2:=iD hT (l:=l) hl.2;have ev1:evT S ρ (.q .In (.l (.str ⟨#[c]⟩)) (.v v))=some (decide (c∈bM T l)):=by refine bi (x:=.bool (!(Builtin.Str.occurrences (tx (bM T l)) ⟨#[c]⟩ 0 (tx (bM T l)).length 1).isEmpty)) (bi rfl (bi hg rfl)) ?_;show some (!(Builtin.Str.occurrences (tx (bM T l)) ⟨#[c]⟩ 0 (tx (bM T l)).length 1).isEmpty)=_;rw[PySem.StrLaws.found_one]
 have hrep:Txt.replace (tx (bM T l)) ⟨#[c]⟩ z=tx (bM (T++[(c,z.cps.toList)]) l):=by refine Str.of_list ?_;rw[tE,<- uI hf]
 by_cases hc:c∈bM T l
 .refine⟨ρ.set v (aj (bM (T++[(c,z.cps.toList)]) l)),aW ev1 ?_,by rw[aF.get_set,if_pos rfl]⟩;rw[dg hc,if_pos rfl];refine ag (aK ?_) rfl;refine si hg ?_;show(if decide ((tx (bM T l)).length+((tx (bM T l)).length+1)*z.length<=16777216)&&sok (.str (Txt.replace (tx (bM T l)) ⟨#[c]⟩ z))then some (PyData.str (Txt.replace (tx (bM T l)) ⟨#[c]⟩ z))else none)=_;have hz:z.length<=6:=by
   have:=br hT (c,z.cps.toList) (by simp);simp only[eO,jE]at this;have h1:=this.1
   simpa [Str.length]using h1
  have hx:(tx (bM T l)).length=(bM T l).length:=by simp[Str.length]
  have hlx:=hl.1;rw[hrep,if_pos];rw[eO,jE];refine⟨?_,jz (by lia) hlen2.2⟩;rw[hx];have:((bM T l).length+1)*z.length<=((bM T l).length+1)*6:=Nat.mul_le_mul_left _ hz;clear hrep hx hlen2
  lia
 .refine⟨ρ,aW ev1 ?_, ?_⟩
  .rw[cG hc];rfl
  .rw[hg,<- uI hf,gG hc]
noncomputable def oe (v:Nat):List (Str × Str)->nU
 |[]=>.c (.r (.v v)) .n
 |(y,z)::r=>.c (.i (.q .In (.l (.str y)) (.v v)) (.c (.s v (.r (.v v) y z)) .n) .n) (oe v r)
noncomputable def bG (ps:List (Str × Str)):List (Nat × aN):=ps.map fun p=>(p.1.cps.getD 0 0,p.2.cps.toList)
noncomputable def sD (T:List (Nat × aN)):List (Str × Str)->Bool
 |[]=>DJ T
 |(y,z)::r=>decide (y=⟨#[y.cps.getD 0 0]⟩)&&DJ T&&T.all (fun p=>!p.2.contains (y.cps.getD 0 0))&&sD (T++[(y.cps.getD 0 0,z.cps.toList)]) r
theorem uH (hl:tc l):∀{ps:List (Str × Str)}{T:List (Nat × aN)}{ρ:aF},sD T ps=true->ρ.get v=some (aj (bM T l))->dP S ρ (oe v ps)=some (.r (aj (bM (T++bG ps) l)))
 |[],T,ρ,_,hg=>by have:T++bG []=T:=List.append_nil T;rw[this];exact au (bE hg)
 |(y,z)::r,T,ρ,h,hg=>by
  obtain⟨h,h4⟩:=cE h;obtain⟨h,h3⟩:=cE h;obtain⟨h1,h2⟩:=cE h;have h1:=bJ h1;have hT:DJ (T++[(y.cps.getD 0 0,z.cps.toList)])=true:=by
   cases r with
   |nil=>exact h4
   |cons p r=>exact(cE (cE (cE h4).1).1).2
  obtain⟨ρ',e1,e2⟩:=Cw (S:=S) (c:=y.cps.getD 0 0) (y:=y) (z:=z) h1 hl hT (fun p m=>by have:=br h3 p m;simpa using this) h2 hg;have:=uH hl (ps:=r) h4 e2;rw[List.append_assoc]at this;exact ag e1 this
theorem ld (hf:f=⟨[v],[], .c (.tryE (oe v ps)) .n⟩)(hw:sD [] ps=true)(hl:tc l):aV S f [aj l]=some (aj (bM (bG ps) l)):=by subst hf;refine cF rfl (au ?_);show dP S [(v,aj l)] (oe v ps)=_;have:=uH (S:=S) hl (ps:=ps) (T:=[]) (ρ:=[(v,aj l)]) hw (by rw[aF.get_cons,if_pos rfl,Cv]);rw[List.nil_append]at this;exact this
noncomputable def Ga:List (Str × Str):=[("&", "&amp;"),("<", "&lt;"),(">", "&gt;")]
noncomputable def Gb : List (Str × Str) := [("&", "&amp;"), ("<", "&lt;"), (">", "&gt;"), ("\"", "&quot;"), ("\r", "&#13;"), ("\n", "&#10;"), ("\t", "&#09;")]
noncomputable def Gc : List (Str × Str) := [("&", "&amp;"), (">", "&gt;"), ("\"", "&quot;")]
noncomputable def Gd:List (Str × Str):=[("&", "&amp;"),("<", "&lt;"),(">", "&gt;"),("\r", "&#xD;")]
noncomputable def IH : List (Str × Str) := [("&", "&amp;"), ("<", "&lt;"), ("\"", "&quot;"), ("\t", "&#x9;"), ("\n", "&#xA;"), ("\r", "&#xD;")]
def dj:Nat->List (Str × Str)
 |0=>Ga|1=>Gb|2=>Gc|3=>Gd|_=>IH
theorem Be (hl:tc l):aV S dp [aj l]=some (aj (bM (bG Ga) l)):=ld (v:=41) (ps:=Ga) rfl (by decide +kernel) hl
theorem xD (hl:tc l):aV S df [aj l]=some (aj (bM (bG Gb) l)):=ld (v:=41) (ps:=Gb) rfl (by decide +kernel) hl
theorem D7 (hl:tc l):aV S bP [aj l]=some (aj (bM (bG Gc) l)):=ld (v:=41) (ps:=Gc) rfl (by decide +kernel) hl
theorem vK (hl:tc l):aV S bS [aj l]=some (aj (bM (bG Gd) l)):=ld (v:=41) (ps:=Gd) rfl (by decide +kernel) hl
theorem tF (hl:tc l):aV S bO [aj l]=some (aj (bM (bG IH) l)):=ld (v:=41) (ps:=IH) rfl (by decide +kernel) hl
end
section
variable {S:cU}
noncomputable def EW:Nat->Nat
 |0=>40|1=>42|2=>43|3=>44|_=>45
theorem gQ (a b:Int):bH .Lt (.int a) (.int b)=some (.bool (decide (a<b))):=rfl
theorem nW (a b:Int):bH .Eq (.int a) (.int b)=some (.bool (decide (a=b))):=rfl
theorem jJ {P:Nat->Prop}(h0:P 0)(h1:P 1)(h2:P 2)(h3:P 3)(h4:P 4)(k:Nat)(h:k<5):P k:=by
 rcases k with _|_|_|_|_|k
 .exact h0
 .exact h1
 .exact h2
 .exact h3
 .exact h4
 .exact absurd h (Nat.not_lt.mpr (Nat.le_add_left 5 k))
theorem vN (hk:k<5){x d:D}:S.cal (EW k) [x]=some d->aV S cT [ae k,x]=some d:=
 jJ (P:=fun k=>S.cal (EW k) [x]=some d->aV S cT [ae k,x]=some d)
  (fun h=>cF rfl (au (aW (t:=true) rfl (au (bE h)))))
  (fun h=>cF rfl (au (aW (t:=true) rfl (au (bE h)))))
  (fun h=>cF rfl (ag (aW (t:=false) rfl rfl) (au (aW (t:=true) rfl (au (bE h))))))
  (fun h=>cF rfl (ag (aW (t:=false) rfl rfl) (au (aW (t:=true) rfl (au (bE h))))))
  (fun h=>cF rfl (ag (aW (t:=false) rfl rfl) (ag (aW (t:=false) rfl rfl) (au (bE h))))) k hk
theorem pu:∀{items:List D},(∀it∈items,f it=some [g it])->ef f items=some (items.map g)
 |[],_=>rfl
 |x::xs,h=>by exact bi (h x dX) (bi (pu fun it m=>h it (eh _ m)) rfl)
theorem CB (hs:dk S ρ src=some items)(h:∀it∈items,∃ρ',bx (ρ.del (tg++[])) tg it=some ρ'/\ev S ρ' elt=some (g it))(hz:(!dC src || cD (items.map g))=true:=by rfl) :
  ev S ρ (.p elt (.c tg src .n .n))=some (.list (items.map g)):=by
 refine bi (x:=items.map g) (bi hs (pu fun it m=>?_)) (if_pos (show(true&&(!dC src || cD (items.map g)))=true from hz));obtain⟨ρ',h1,h2⟩:=h it m;refine bi h1 ?_;show(ev S ρ' elt).map (fun d=>[d])=_;rw[h2];rfl
theorem pK:∀{ps:List (Str × Str)},(ps.all fun p=>decide (p.1=⟨#[p.1.cps.getD 0 0]⟩))=true->PySem.Spec.lookup (.str ⟨#[c]⟩) (ps.map fun p=>(PyData.str p.1,PyData.str p.2))=((bG ps).lookup c).map fun z=>PyData.str (tx z)
 |[],_=>rfl
 |(y,z)::r,h=>by
  simp only[List.all_cons,eO,jE]at h;obtain⟨h1,h2⟩:=h;have ih:=pK (c:=c) h2;have e:PySem.Spec.lookup (.str ⟨#[c]⟩) (((y,z)::r).map fun p=>(PyData.str p.1,PyData.str p.2))=if PySem.Spec.same (.str y) (.str ⟨#[c]⟩)then some (.str z)else PySem.Spec.lookup (.str ⟨#[c]⟩) (r.map fun p=>(PyData.str p.1,PyData.str p.2)):=rfl;have e2:(bG ((y,z)::r)).lookup c=match c==y.cps.getD 0 0 with|true=>some z.cps.toList|false=>(bG r).lookup c:=rfl
  rw[e,e2];by_cases q:c=y.cps.getD 0 0
  .have hb:(c==y.cps.getD 0 0)=true:=beq_iff_eq.mpr q;rw[hb,if_pos (by rw[h1,<- q];show(_:Str)==_;simp)];rfl
  .have hb:(c==y.cps.getD 0 0)=false:=beq_eq_false_iff_ne.mpr q;rw[hb,if_neg (fun w=>?_),ih];have w:((y:Str)==⟨#[c]⟩)=true:=w;have w:=eM w;rw[w]at q;exact q rfl
theorem vg (sep:Str):∀ts:List Str,(Txt.join sep ts).cps.toList=((ts.map fun t=>t.cps.toList).intersperse sep.cps.toList).flatten:=by
 intro ts;show(Builtin.Str.glued sep ts).cps.toList=_;rw[PySem.StrLaws.glued_eq_join]
 induction ts with
 |nil=>rfl
 |cons t ts ih =>
  cases ts with
  |nil=>simp[Str.join]
  |cons u r =>
   show(t++sep++Str.join sep (u::r)).cps.toList=_;simp only[Str.cps_append,Array.toList_append];rw[ih];simp
theorem zD:∀ls:List aN,(ls.intersperse []).flatten=ls.flatten
 |[]=>rfl
 |[x]=>rfl
 |x::y::r=>by have:=zD (y::r);simp only[List.intersperse_cons₂,List.flatten_cons,List.nil_append];rw[this];rfl
theorem pE (ts:List Str):(Txt.join "" ts).cps.toList=(ts.map fun t=>t.cps.toList).flatten:=by rw[vg];have:(("" : Str).cps.toList)=[]:=rfl;rw[this,zD]
def i7:Nat->List (Str × Str)
 |0=>Ga|1=>Gb|2=>Gc|3=>Gd
 | _ => [("&", "&amp;"), ("<", "&lt;"), ("\"", "&quot;"), ("\r", "&#xD;"), ("\n", "&#xA;"), ("\t", "&#x9;")]
theorem G6 (k:Nat)(c:Nat):fe (bG (i7 k)) c=fe (bG (dj k)) c:=by
 match k with
 |0|1|2|3=>rfl
 |n+4 =>
  show fe [(38,[38,97,109,112,59]),(60,[38,108,116,59]),(34,[38,113,117,111,116,59]),(13,[38,35,120,68,59]),(10,[38,35,120,65,59]),(9,[38,35,120,57,59])] c=fe [(38,[38,97,109,112,59]),(60,[38,108,116,59]),(34,[38,113,117,111,116,59]),(9,[38,35,120,57,59]),(10,[38,35,120,65,59]),(13,[38,35,120,68,59])] c;unfold fe;simp -iota only[List.lookup_cons,List.lookup_nil];by_cases h1:c=13
  .subst h1;rfl
  .by_cases h2:c=10
   .subst h2;rfl
   .by_cases h3:c=9
    .subst h3;rfl
    .have e1:(c==13)=false:=by simpa using h1
     have e2:(c==10)=false:=by simpa using h2
     have e3:(c==9)=false:=by simpa using h3
     rw[e1,e2,e3]
theorem vM (hk:k<5){l:aN}(hl:tc l):aV S dL [ae k,aj l]=some (aj (bM (bG (dj k)) l)):=by
 have hsub:ev S [(47,ae k),(41,aj l)] (.s (.i (.c (.d (i7 0)) (.c (.d (i7 1)) (.c (.d (i7 2)) (.c (.d (i7 3)) (.c (.d (i7 4)) .n)))))) (.v 47))=some (.dict ((i7 k).map fun p=>(.str p.1, .str p.2))) :=
  jJ (P:=fun k=>ev S [(47,ae k),(41,aj l)] _=some (.dict ((i7 k).map fun p=>(.str p.1, .str p.2)))) rfl rfl rfl rfl rfl k hk
 refine cF rfl ?_;show dP S [(47,ae k),(41,aj l)] _=_;refine ag (aK hsub) (au (bE ?_));have hT:DJ (bG (dj k))=true:=jJ (P:=fun k=>DJ (bG (dj k))=true) (by decide +kernel) (by decide +kernel) (by decide +kernel) (by decide +kernel) (by decide +kernel) k hk;have hsp:((i7 k).all fun p=>decide (p.1=⟨#[p.1.cps.getD 0 0]⟩))=true:=jJ (P:=fun k=>((i7 k).all fun p=>decide (p.1=⟨#[p.1.cps.getD 0 0]⟩))=true) (by decide +kernel) (by decide +kernel) (by decide +kernel) (by decide +kernel) (by decide +kernel) k hk;have hc:ev S [(47,ae k),(41,aj l),(49, .dict ((i7 k).map fun p=>(.str p.1, .str p.2)))] (.p (.m .get (.v 49) (.c (.v 50) (.c (.v 50) .n))) (.c [50] (.e (.v 41)) .n .n)) =
   some (.list ((l.map fun c=>tx (fe (bG (dj k)) c)).map PyData.str)):=by
  have h:=CB (S:=S) (ρ:=[(47,ae k),(41,aj l),(49, .dict ((i7 k).map fun p=>(.str p.1, .str p.2)))]) (elt:=.m .get (.v 49) (.c (.v 50) (.c (.v 50) .n))) (tg:=[50]) (src:=.e (.v 41))
   (items:=l.map fun c=>aj [c]) (g:=fun d=>match d with|.str x=>aj (fe (bG (dj k)) (x.cps.getD 0 0))|d=>d) ?_ ?_
  .rw[h,kR,kR];rfl
  .show some ((tx l).cps.toList.map fun c=>PyData.str ⟨#[c]⟩)=_;simp
  .intro it hit;obtain⟨c,hcl,rfl⟩:=iz hit;refine⟨_,rfl, ?_⟩;show lg .get (.dict ((i7 k).map fun p=>(.str p.1, .str p.2))) [aj [c],aj [c]]=_;have e:lg .get (.dict ((i7 k).map fun p=>(.str p.1, .str p.2))) [aj [c],aj [c]]=gN ((PySem.Spec.lookup (aj [c]) ((i7 k).map fun p=>(.str p.1, .str p.2))).getD (aj [c])) (fun y=>if sok (.str y)then some (.str y)else none):=rfl;rw[e,pK hsp];have e2:(((bG (i7 k)).lookup c).map fun z=>PyData.str (tx z)).getD (aj [c])=aj (fe (bG (i7 k)) c):=by unfold fe;cases (bG (i7 k)).lookup c <;> rfl
   rw[e2,G6];obtain⟨g1,g2⟩:=sC hT (hl.2 c hcl);show(if sok (aj (fe (bG (dj k)) c))=true then _ else _)=_;rw[if_pos (jz (by exact qp ‹_› rfl) g2)];rfl
 refine bi rfl (bi (ah hc (ds:=[]) rfl) ?_);have e3:lg .join (.str "") [.list ((l.map fun c=>tx (fe (bG (dj k)) c)).map PyData.str)]=match gF ((l.map fun c=>tx (fe (bG (dj k)) c)).map PyData.str)with
  |some ts=>if JoinOk "" ts&&sok (.str (Txt.join "" ts))then some (.str (Txt.join "" ts))else none
  |none=>none:=rfl
 rw[e3,iw];have hj:Txt.join "" (l.map fun c=>tx (fe (bG (dj k)) c))=tx (bM (bG (dj k)) l):=by
  refine Str.of_list ?_;rw[pE,kR];show _=(bM (bG (dj k)) l).toArray.toList;rw[List.toList_toArray];unfold bM;rw[List.flatMap_def]
  congr 1
 obtain⟨w1,w2⟩:=iD hT (l:=l) hl.2;have hl1:=hl.1;show(if(JoinOk "" (l.map fun c=>tx (fe (bG (dj k)) c))&&sok (.str (Txt.join "" (l.map fun c=>tx (fe (bG (dj k)) c)))))=true then _ else _)=_;rw[hj,if_pos];rw[eO];refine⟨?_,jz (by lia) w2⟩;unfold JoinOk;rw[PySem.StrLaws.joinFits (B:=6)]
 .rfl
 .intro y hy;obtain⟨c,hc,rfl⟩:=iz hy;have:=(sC hT (hl.2 c hc)).1
  simpa [Str.length]using this
 .have:(("" : Str).length)=0:=rfl;rw[this,dx];lia
theorem FP (a b:Int):bH .LtE (.int a) (.int b)=some (.bool (decide (a<=b))):=rfl
theorem av (ha:ev S ρ a=some x)(hb:ev S ρ b=some y)(h:bH o x y=some (.bool t)):evT S ρ (.q o a b)=some t:=bi (bi ha (bi hb h)) rfl
theorem jH (ha:ev S ρ a=some x)(hb:ev S ρ b=some y)(h:bH o x y=some d):ev S ρ (.q o a b)=some d:=bi ha (bi hb h)
theorem aX (h:mK S ρ es=some ds)(hc:S.cal f ds=some d):ev S ρ (.c f es)=some d:=bi h hc
theorem aw:mK S ρ .n=some []:=rfl
theorem oq (h:ev S ρ e=some (.tuple xs))(hl:xs.length=ns.length):ex S ρ (.u ns e)=some (.n (bF ρ ns xs)):=ti h (if_pos hl)
theorem Gj (hg:ρ.get n=some (.list xs))(h:ev S ρ e=some d)(hl:xs.length<1000000):ex S ρ (.a n e)=some (.n (ρ.set n (.list (xs++[d])))):=li hg (bi h (if_pos hl))
theorem lq (h:dk S ρ src=some items)(hg:pv (fun d ρ'=>(bx ρ' tg d).bind fun ρ''=>dP S ρ'' body) items ρ=o):ex S ρ (.l tg src body)=o:=bi h hg
theorem sL (h:mK S ρ es=some ds)(hl:ds.length<=1000):ev S ρ (.t es)=some (.tuple ds):=bi h (if_pos hl)
theorem dB (h:mK S ρ es=some ds)(hl:ds.length<=1000):ev S ρ (.i es)=some (.list ds):=bi h (if_pos hl)
theorem Av (hg:ρ.get n=some (.list xs))(h:mK S ρ es=some ds)(hc:S.cal f (.list xs::ds)=some d)(hs:kL d=true):ev S ρ (.ocall f n es)=some d:=li hg (bi h (bi hc (if_pos hs)))
theorem KX (h:f d ρ=some (.r v)):pv f (d::ds) ρ=some (.r v):=by
 have e:pv f (d::ds) ρ=match f d ρ with|some (.n ρ')=>pv f ds ρ'|o=>o:=rfl
 rw[e,h]
theorem qY (h:f d ρ=some (.n ρ'))(h':pv f ds ρ'=o):pv f (d::ds) ρ=o:=by
 have e:pv f (d::ds) ρ=match f d ρ with|some (.n ρ')=>pv f ds ρ'|o=>o:=rfl
 rw[e,h];exact h'
theorem D5 (hg:S.gl 23=some (.int 4000))(hb:b≠0)(hl:b.natAbs.log2<9000)(hs:(ib a:Int)-n<=4000):aV S iQ [.int a, .int b, .int n]=some (.tuple [.int (a.fdiv b), .int (a.fmod b)]):=by
 refine cF rfl (au (aW (t:=true) ?_ (au (bE ?_))))
 .exact av (x:=.int ((ib a:Int)-n)) rfl (show S.gl 23=_ from hg) (by rw[FP,dg hs])
 .show(if b != 0&&decide (b.natAbs.log2<9000)then some (PyData.tuple [.int (a.fdiv b), .int (a.fmod b)])else none)=_;rw[if_pos];rw[dg hl]
  simpa using hb
noncomputable def cI (n b:Nat):Nat->aN->aN × Nat
 |r,[]=>([],r)
 |r,d::hs=>((r*2^n+d) / b::(cI n b ((r*2^n+d) % b) hs).1,(cI n b ((r*2^n+d) % b) hs).2)
theorem lx (hb:0<b):∀{hs:aN}{r:Nat},r<b->(∀d∈hs,d<2^n) ->
  (cI n b r hs).1.length=hs.length/\(∀q∈(cI n b r hs).1,q<2^n)/\kQ n (cI n b r hs).1.reverse=(r*2^(n*hs.length)+kQ n hs.reverse) / b/\(cI n b r hs).2=(r*2^(n*hs.length)+kQ n hs.reverse) % b
 |[],r,hr,_=>by
  refine⟨rfl,fun q m=>(by cases m), ?_, ?_⟩
  .exact(Nat.div_eq_of_lt ((Nat.mul_one r).symm▸hr)).symm
  .exact((Nat.mod_eq_of_lt ((Nat.mul_one r).symm▸hr)).trans (Nat.mul_one r)).symm
 |d::hs,r,hr,hd=>by
  obtain⟨h1,h2,h3,h4⟩:=lx hb (hs:=hs) (r:=(r*2^n+d) % b) (Nat.mod_lt _ hb) fun x m=>hd x (eh _ m);have hdd:=hd d dX;have hN:r*2^(n*(d::hs).length)+kQ n (d::hs).reverse=b*((r*2^n+d) / b*2^(n*hs.length))+((r*2^n+d) % b*2^(n*hs.length)+kQ n hs.reverse):=by
   rw[List.reverse_cons,gJ,List.length_reverse,sW,Nat.mul_add,Nat.mul_one,Nat.pow_add];rw[show kQ n [d]=d from rfl];have e:=Nat.div_add_mod (r*2^n+d) b;generalize (r*2^n+d) / b=u at e ⊢;generalize (r*2^n+d) % b=v at e ⊢;generalize 2^(n*hs.length)=p;have e2:(b*u+v)*p=(r*2^n+d)*p:=by rw[e]
   rw[Nat.add_mul,Nat.add_mul]at e2;have e3:r*(p*2^n)=r*2^n*p:=by rw[Nat.mul_comm p,Nat.mul_assoc]
   have e4:b*(u*p)=b*u*p:=by rw[Nat.mul_assoc]
   rw[e3,e4,Nat.mul_comm p d]
   lia
  rw[hN];refine⟨congrArg (· + 1) h1,fun q m=>?_, ?_, ?_⟩
  .rcases bA (show q∈(r*2^n+d) / b::(cI n b ((r*2^n+d) % b) hs).1 from m)with rfl|m
   .rw[Nat.div_lt_iff_lt_mul hb];have:(r+1)*2^n<=b*2^n:=oG _ hr;rw[Nat.add_mul,Nat.one_mul]at this;rw[Nat.mul_comm (2^n) b]
    lia
   .exact h2 q m
  .show kQ n ((r*2^n+d) / b::(cI n b ((r*2^n+d) % b) hs).1).reverse=_;rw[List.reverse_cons,gJ,List.length_reverse,h1,h3,Nat.mul_add_div hb];rw[show∀d,kQ n [d]=d from fun _=>rfl,Nat.mul_comm (2^(n*hs.length))]
   lia
  .show(cI n b ((r*2^n+d) % b) hs).2=_;rw[h4,Nat.mul_add_mod]
theorem uA (hb:0<b)(hbn:b<=2^n)(hn:n<=4000)(h12:∀t:Nat,t<2^(2*n)->S.cal 12 [ae t,ae b,ae n]=some (.tuple [ae (t / b),ae (t % b)])) 
  (hbody:body=.c (.u [29,13] (.c 12 (.c (.b .Add (.b .LShift (.v 13) (.v 2)) (.v 28)) (.c (.v 21) (.c (.v 2) .n))))) (.c (.a 27 (.v 29)) .n)) :
  ∀{hs:aN}{r:Nat}{qs:aN}{ρ:aF},r<b->(∀d∈hs,d<2^n)->qs.length+hs.length<1000000->ρ.get 13=some (ae r)->ρ.get 2=some (ae n)->ρ.get 21=some (ae b)->ρ.get 27=some (.list (qs.map ae)) ->
   ∃ρ',pv (fun d ρ'=>(bx ρ' [28] d).bind fun ρ''=>dP S ρ'' body) (hs.map ae) ρ=some (.n ρ')/\ρ'.get 13=some (ae (cI n b r hs).2)/\ρ'.get 2=some (ae n)/\ρ'.get 27=some (.list ((qs++(cI n b r hs).1).map ae))
 |[],r,qs,ρ,_,_,_,g1,g2,_,g4=>⟨ρ,rfl,g1,g2,(List.append_nil qs).symm▸g4⟩
 |d::hs,r,qs,ρ,hr,hd,hl,g1,g2,g3,g4=>by
  subst hbody;have hdd:=hd d dX;have hrn:r<2^n:=kS hr hbn;have ht:r*2^n+d<2^(2*n):=by
   have h1:(r+1)*2^n<=2^n*2^n:=oG _ hrn;rw[Nat.add_mul,Nat.one_mul]at h1;rw[Nat.two_mul,Nat.pow_add]
   lia
  have G:∀(ρ:aF)(m k:Nat) (d:D),(ρ.set m d).get k=if k=m then some d else ρ.get k:=fun ρ m k d=>aF.get_set ρ m k d;have s1:ex S (ρ.set 28 (ae d)) (.u [29,13] (.c 12 (.c (.b .Add (.b .LShift (.v 13) (.v 2)) (.v 28)) (.c (.v 21) (.c (.v 2) .n)))))=some (.n (((ρ.set 28 (ae d)).set 29 (ae ((r*2^n+d) / b))).set 13 (ae ((r*2^n+d) % b)))):=by
   refine oq (xs:=[ae ((r*2^n+d) / b),ae ((r*2^n+d) % b)]) (aX (ds:=[ae (r*2^n+d),ae b,ae n]) (ah (aC (aC (x:=ae r) (y:=ae n) ?_ ?_ (mH hrn (by have:(2:Nat)^27=134217728:=(by decide);exact NO ‹_› ‹_› rfl))) (y:=ae d) ?_ (eF _ _)) (ah ?_ (ah ?_ aw))) (h12 _ ht)) rfl
   all_goals (refine aa ?_;simp[G,g1,g2,g3])
  have s2:ex S (((ρ.set 28 (ae d)).set 29 (ae ((r*2^n+d) / b))).set 13 (ae ((r*2^n+d) % b))) (.a 27 (.v 29))=some (.n ((((ρ.set 28 (ae d)).set 29 (ae ((r*2^n+d) / b))).set 13 (ae ((r*2^n+d) % b))).set 27 (.list (qs.map ae++[ae ((r*2^n+d) / b)])))) :=
   Gj (by simp[G,g4]) (aa (by simp[G])) (by rw[dx];simp at hl;lia)
  obtain⟨ρ',e1,e2,e3,e4⟩:=uA hb hbn hn h12 rfl (hs:=hs) (r:=(r*2^n+d) % b) (qs:=qs++[(r*2^n+d) / b]) (ρ:=(((ρ.set 28 (ae d)).set 29 (ae ((r*2^n+d) / b))).set 13 (ae ((r*2^n+d) % b))).set 27 (.list (qs.map ae++[ae ((r*2^n+d) / b)])))
   (Nat.mod_lt _ hb) (fun x m=>hd x (eh _ m)) (by simp at hl ⊢;lia) (by simp[G]) (by simp[G,g2]) (by simp[G,g3]) (by simp[G])
  refine⟨ρ', ?_,e2,e3, ?_⟩
  .rw[i8];refine qY ?_ e1;show dP S (ρ.set 28 (ae d)) _=_;exact ag s1 (ag s2 rfl)
  .rw[e4,List.append_assoc];rfl
theorem Ap {a n:Nat}(hn:0<n):ib (a:Int)<=n*fm a n:=by exact yr (Nat.div_add_mod (ib (a:Int)+n-1) n) (Nat.mod_lt _ hn)
theorem zg (a:Nat):a<2^ib (a:Int):=by
 unfold ib Builtin.Int.intBits;by_cases c:a=0
 .subst c;simp
 .have:((a:Int)==0)=false:=by simpa using c
  rw[this];simp only[Bool.false_eq_true,if_false,Int.natAbs_natCast];exact Nat.lt_log2_self
theorem AN (hn:0<n):a<2^(n*fm a n):=kS (zg a) (Nat.pow_le_pow_right (by decide) (Ap hn))
theorem xE {a b:Nat}(hb:0<b)(hn:ib (b:Int)<=4000)(hK:ib (b:Int)*fm a (ib (b:Int))<=2^26)(hK2:fm a (ib (b:Int))<=100000)
  (h12:∀t:Nat,t<2^(2*ib (b:Int))->S.cal 12 [ae t,ae b,ae (ib (b:Int))]=some (.tuple [ae (t / b),ae (t % b)])) (h30:S.cal 30=kr)(h26:S.cal 26=kj) :
  aV S fR [ae a,ae b]=some (.tuple [ae (a / b),ae (a % b)]):=by
 generalize hnn:ib (b:Int)=n at hn hK hK2 h12;have hbn:b<2^n:=by rw[<- hnn];exact zg b
 have hn0:0<n:=by
  rcases Nat.eq_zero_or_pos n with c|c
  .rw[c]at hbn;simp at hbn;lia
  .exact c
 have h24:(2:Nat)^24=16777216:=by decide
 have h26':(2:Nat)^26=67108864:=by decide
 generalize hKK:fm a n=K at hK hK2;have c30:kr [ae a,ae n]=some (.list ((dA n a K).map ae)):=by
  have e:kr [ae a,ae n]=if 0<=(a:Int)/\0<(n:Int)/\(n:Int)<=2^26/\((n:Int)).toNat*fm ((a:Int)).toNat ((n:Int)).toNat<=2^26/\fm ((a:Int)).toNat ((n:Int)).toNat<=2^24 then some (.list ((dA ((n:Int)).toNat ((a:Int)).toNat (fm ((a:Int)).toNat ((n:Int)).toNat)).map ae))else none:=rfl;rw[e,mY,mY,hKK,if_pos];refine⟨by lia,by lia, ?_,by assumption,by exact qp ‹_› rfl⟩;have:(2:Int)^26=67108864:=by decide
  lia
 have hds:∀d∈(dA n a K).reverse,d<2^n:=fun d hd=>by rw[List.mem_reverse]at hd;obtain⟨i,_,rfl⟩:=iz hd;exact ID n a i
 obtain⟨l1,l2,l3,l4⟩:=lx (n:=n) hb (hs:=(dA n a K).reverse) (r:=0) hb hds;have hval:0*2^(n*(dA n a K).reverse.length)+kQ n (dA n a K).reverse.reverse=a:=by rw[List.reverse_reverse,wf,Nat.zero_mul,Nat.zero_add,Nat.mod_eq_of_lt];rw[<- hKK];exact AN hn0
 rw[hval]at l3 l4;have hlen:(dA n a K).reverse.length=K:=by rw[List.length_reverse,fK]
 refine cF rfl ?_;show dP S [(11,ae a),(21,ae b)] _=_;refine ag (aK (d:=ae n) ?_) ?_
 .show some (ae (ib (b:Int)))=_;rw[hnn]
 refine ag (aK (d:=.list ((dA n a K).map ae)) (aX (ds:=[ae a,ae n]) rfl (by rw[h30];exact c30))) ?_;refine ag (aK (d:=ae 0) rfl) ?_;refine ag (ρ':=[(11,ae a),(21,ae b),(2,ae n),(0, .list ((dA n a K).map ae)),(13,ae 0),(27, .list [])]) rfl ?_;obtain⟨ρ',e1,e2,e3,e4⟩:=uA (S:=S) (n:=n) (b:=b) hb (il hbn) hn h12 rfl (hs:=(dA n a K).reverse) (r:=0) (qs:=[]) (ρ:=[(11,ae a),(21,ae b),(2,ae n),(0, .list ((dA n a K).map ae)),(13,ae 0),(27, .list [])]) hb hds (by rw[hlen];simp;exact NP ‹_› rfl) rfl rfl rfl rfl;refine ag (lq (items:=((dA n a K).reverse).map ae) ?_ e1) ?_
 .show some ((dA n a K).map ae).reverse=_;rw[List.map_reverse]
 refine ag (ρ':=ρ'.set 27 (.list ((cI n b 0 (dA n a K).reverse).1.reverse.map ae))) ?_ ?_
 .refine li e4 ?_;simp[List.map_reverse]
 have cq:kj [.list ((cI n b 0 (dA n a K).reverse).1.reverse.map ae),ae n]=some (ae (a / b)):=by have e:kj [.list ((cI n b 0 (dA n a K).reverse).1.reverse.map ae),ae n]=(rn ((cI n b 0 (dA n a K).reverse).1.reverse.map ae)).bind fun ns=>if 0<(n:Int)/\((n:Int)).toNat*ns.length<=2^26/\ns.length<=2^24/\ns.all (fun d=>decide (d<2^((n:Int)).toNat))then some (ae (kQ ((n:Int)).toNat ns))else none:=rfl;rw[e,vw];show(if _ then _ else _)=_;rw[mY,l3,if_pos];rw[List.length_reverse,l1,hlen];refine⟨by lia,hK,by exact qp ‹_› rfl,List.all_eq_true.mpr fun q hq=>dg (l2 q (List.mem_reverse.mp hq))⟩
 refine ag (aK (d:=ae (a / b)) (Av (xs:=(cI n b 0 (dA n a K).reverse).1.reverse.map ae) (ds:=[ae n]) (by rw[aF.get_set,if_pos rfl]) (ah (aa (by rw[aF.get_set,if_neg (by decide)];exact e3)) aw) (by rw[h26];exact cq) rfl)) ?_;refine au (bE (sL (ds:=[ae (a / b),ae (a % b)]) (ah (aa (by rw[aF.get_set,if_pos rfl])) (ah (aa ?_) aw)) (oF rfl)));rw[aF.get_set,if_neg (by decide),aF.get_set,if_neg (by decide),e2,l4]
noncomputable def iW (a b:Int):D:=.tuple [.int (a.fdiv b), .int (a.fmod b)]
def bd (a b:Int):Prop:=ib a<=60000/\ib b<=4000
noncomputable instance (a b:Int):Decidable (bd a b):=inferInstanceAs (Decidable (_/\_))
theorem CX (a:Int):ib (-a)=ib a:=by
 unfold ib Builtin.Int.intBits;by_cases c:a=0
 .subst c;rfl
 .have h1:(a==0)=false:=by simpa using c
  have h2:(-a==0)=false:=by simpa using c
  rw[h1,h2,Int.natAbs_neg]
theorem yZ (h:a.natAbs<=b.natAbs):ib a<=ib b:=by
 unfold ib Builtin.Int.intBits;by_cases c:a=0
 .subst c;simp
 .have h1:(a==0)=false:=by simpa using c
  have h0:a.natAbs≠0:=Int.natAbs_ne_zero.mpr c;have h2:(b==0)=false:=by
   have:b≠0:=fun e=>c (Int.natAbs_eq_zero.mp (Nat.le_zero.mp (by rw[e]at h;exact h)))
   simpa using this
  rw[h1,h2];simp only[Bool.false_eq_true,if_false];have:a.natAbs.log2<=b.natAbs.log2:=by rw[Nat.le_log2 (fun e=>h0 (Nat.le_zero.mp (e▸h)))];exact aJ (Nat.log2_self_le h0) h
  exact Nat.succ_le_succ this
theorem CW:∀{a:Int}(h:a<0),ib (-a-1)<=ib a
 |.ofNat n,h=>absurd h (Int.not_lt.mpr (Int.natCast_nonneg n))
 |.negSucc n,_=>yZ (show(((n:Int)+1)-1).natAbs<=n+1 by rw[Int.add_sub_cancel];exact Nat.le_succ n)
theorem y4 (a b:Nat):iW (a:Int) (b:Int)=.tuple [ae (a / b),ae (a % b)]:=by
 unfold iW;rw[Int.fdiv_eq_ediv_of_nonneg _ (by lia),Int.fmod_eq_emod_of_nonneg _ (by lia)]
 norm_cast
theorem pZ (ha:0<=a)(hb:0<b)(h24:S.cal 24 [.int a, .int b]=some (iW a b)):aV S bL [.int a, .int b]=some (iW a b):=by have e1:evT S [(11, .int a),(21, .int b)] (.q .Eq (.v 21) (.l (.int 0)))=some false:=av rfl rfl (by rw[nW,cG (Int.ne_of_gt hb)]);have e2:evT S [(11, .int a),(21, .int b)] (.q .Lt (.v 21) (.l (.int 0)))=some false:=av rfl rfl (by rw[gQ,cG (Int.not_lt.mpr (Int.le_of_lt hb))]);have e3:evT S [(11, .int a),(21, .int b)] (.q .Lt (.v 11) (.l (.int 0)))=some false:=av rfl rfl (by rw[gQ,cG (Int.not_lt.mpr ha)]);refine cF rfl ?_;show dP S [(11, .int a),(21, .int b)] _=_;refine au (aW e1 ?_);refine au (aW e2 ?_);refine au (aW e3 ?_);exact au (bE (aX rfl h24))
theorem IT (h:x+r = -a-1):a=b-1-r+(-x-b):=by lia
theorem IU (h:x+r = -a-1)(h2 : -x-b+s=a):s=b+(-r-1):=by lia
theorem vL (ha:a<0)(hb:0<b)(h31:S.cal 31 [.int (-a-1), .int b]=some (iW (-a-1) b)):aV S bL [.int a, .int b]=some (iW a b):=by
 have e1:evT S [(11, .int a),(21, .int b)] (.q .Eq (.v 21) (.l (.int 0)))=some false:=av rfl rfl (by rw[nW,cG (Int.ne_of_gt hb)]);have e2:evT S [(11, .int a),(21, .int b)] (.q .Lt (.v 21) (.l (.int 0)))=some false:=av rfl rfl (by rw[gQ,cG (Int.not_lt.mpr (Int.le_of_lt hb))]);have e3:evT S [(11, .int a),(21, .int b)] (.q .Lt (.v 11) (.l (.int 0)))=some true:=av rfl rfl (by rw[gQ,dg ha]);refine cF rfl ?_;show dP S [(11, .int a),(21, .int b)] _=_;refine au (aW e1 ?_);refine au (aW e2 ?_);refine au (aW e3 ?_);refine ag (oq (xs:=[.int ((-a-1).fdiv b), .int ((-a-1).fmod b)]) (aX (ds:=[.int (-a-1), .int b]) rfl h31) rfl) ?_;refine au (bE ?_);show some (PyData.tuple [.int (-((-a-1).fdiv b)-1), .int (b+(-((-a-1).fmod b)-1))])=_;unfold iW;have h1:=Int.fdiv_eq_ediv_of_nonneg (-a-1) (Int.le_of_lt hb);have h2:=Int.fmod_eq_emod_of_nonneg (-a-1) (Int.le_of_lt hb);have h3:=Int.fdiv_eq_ediv_of_nonneg a (Int.le_of_lt hb);have h4:=Int.fmod_eq_emod_of_nonneg a (Int.le_of_lt hb);rw[h1,h2,h3,h4];have m1:=Int.mul_ediv_add_emod (-a-1) b;have p1:=Int.emod_nonneg (-a-1) (Int.ne_of_gt hb);have p2:=Int.emod_lt_of_pos (-a-1) hb;have m2:=Int.mul_ediv_add_emod a b;have p3:=Int.emod_nonneg a (Int.ne_of_gt hb);have p4:=Int.emod_lt_of_pos a hb;have key:a / b = -((-a-1) / b)-1:=by
  have:a / b=(b-1-(-a-1) % b+b*(-((-a-1) / b)-1)) / b:=by
   congr 1
   rw[Int.mul_sub,Int.mul_neg,Int.mul_one];exact IT m1
  rw[this,Int.add_mul_ediv_left _ _ (Int.ne_of_gt hb),Int.ediv_eq_zero_of_lt (Int.sub_nonneg_of_le (Int.le_sub_one_of_lt p2)) (Int.lt_of_le_of_lt (Int.sub_le_self _ p1) (Int.sub_lt_self b Int.one_pos)),Int.zero_add]
 have key2:a % b=b+(-((-a-1) % b)-1):=by rw[key,Int.mul_sub,Int.mul_neg,Int.mul_one]at m2;exact IU m1 m2
 rw[key,key2]
theorem D8 (hb:b<0)(h31:S.cal 31 [.int (-a), .int (-b)]=some (iW (-a) (-b))):aV S bL [.int a, .int b]=some (iW a b):=by have e1:evT S [(11, .int a),(21, .int b)] (.q .Eq (.v 21) (.l (.int 0)))=some false:=av rfl rfl (by rw[nW,cG (Int.ne_of_lt hb)]);have e2:evT S [(11, .int a),(21, .int b)] (.q .Lt (.v 21) (.l (.int 0)))=some true:=av rfl rfl (by rw[gQ,dg hb]);refine cF rfl ?_;show dP S [(11, .int a),(21, .int b)] _=_;refine au (aW e1 ?_);refine au (aW e2 ?_);refine ag (oq (xs:=[.int ((-a).fdiv (-b)), .int ((-a).fmod (-b))]) (aX (ds:=[.int (-a), .int (-b)]) rfl h31) rfl) ?_;refine au (bE ?_);show some (PyData.tuple [.int ((-a).fdiv (-b)), .int (-((-a).fmod (-b)))])=_;unfold iW;rw[Int.neg_fdiv_neg,Int.neg_fmod_neg,Int.neg_neg]
def n9 (ds:List D):Option D:=d3 ds fun a b n=>dh a fun a=>dh b fun b=>dh n fun n=>if b≠0/\b.natAbs.log2<9000/\(ib a:Int)-n<=4000 then some (.tuple [.int (a.fdiv b), .int (a.fmod b)])else none
def gd (ds:List D):Option D:=i2 ds fun a b=>if 0<=a/\0<b/\bd a b then some (iW a b)else none
def oz (ds:List D):Option D:=i2 ds fun a b=>if 0<=a/\0<b/\bd a b then some (iW a b)else none
def oC (ds:List D):Option D:=i2 ds fun a b=>if 0<b/\bd a b then some (iW a b)else none
def py (ds:List D):Option D:=i2 ds fun a b=>if b≠0/\bd a b then some (iW a b)else none
theorem FZ (hg:S.gl 23=some (.int 4000))(h:n9 ds=some d):aV S iQ ds=some d:=by obtain⟨a,b,n,rfl,h⟩:=Ch h;obtain⟨a,rfl,h⟩:=aU h;obtain⟨b,rfl,h⟩:=aU h;obtain⟨n,rfl,h⟩:=aU h;obtain⟨c,rfl⟩:=gw h;exact D5 hg c.1 c.2.1 c.2.2
theorem Aq (h12:S.cal 12=n9)(h30:S.cal 30=kr)(h26:S.cal 26=kj)(h:gd ds=some d):aV S fR ds=some d:=by
 obtain⟨a,b,rfl,h⟩:=px h;obtain⟨c,rfl⟩:=gw h
 .·
   obtain⟨c1,c2,c3,c4⟩:=c;obtain⟨a',rfl⟩:=Int.eq_ofNat_of_zero_le c1;obtain⟨b',rfl⟩:=Int.eq_ofNat_of_zero_le (Int.le_of_lt c2);rw[y4];have h26':(2:Nat)^26=67108864:=by decide
   have hb0:0<ib (b':Int):=by
    rcases Nat.eq_zero_or_pos (ib (b':Int))with q|q
    .have:=zg b';rw[q]at this;simp at this;lia
    .exact q
   have hd:ib (b':Int)*fm a' (ib (b':Int))<=ib (a':Int)+ib (b':Int)-1:=Nat.mul_div_le _ _;have hd2:fm a' (ib (b':Int))<=ib (a':Int)+ib (b':Int)-1:=Nat.div_le_self _ _;refine xE (by lia) c4 (by lia) (by lia) (fun t ht=>?_) h30 h26;rw[h12];have hb1:b'.log2<9000:=by rw[Nat.log2_lt (by lia)];exact kS (zg b') (Nat.pow_le_pow_right (by decide) (by exact qp ‹_› rfl))
   have hib:=qZ ht;show(if(b':Int)≠0/\(b':Int).natAbs.log2<9000/\(ib (t:Int):Int)-((ib (b':Int):Nat):Int)<=4000 then some (iW (t:Int) (b':Int))else none)=_;rw[if_pos ⟨by lia,by simpa using hb1,by lia⟩,y4]
theorem Gv (h24:S.cal 24=gd)(h:oz ds=some d):aV S bL ds=some d:=by
 obtain⟨a,b,rfl,h⟩:=px h;obtain⟨c,rfl⟩:=gw h
 .·
   exact pZ c.1 c.2.1 (by rw[h24];show(if _ then _ else _)=_;rw[if_pos c])
theorem Gw (h24:S.cal 24=gd)(h31:S.cal 31=oz)(h:oC ds=some d):aV S bL ds=some d:=by
 obtain⟨a,b,rfl,h⟩:=px h;obtain⟨c,rfl⟩:=gw h
 .·
   by_cases ha:0<=a
   .exact pZ ha c.1 (by rw[h24];show(if _ then _ else _)=_;rw[if_pos ⟨ha,c.1,c.2⟩])
   .exact vL (by lia) c.1 (by rw[h31];show(if _ then _ else _)=_;rw[if_pos ⟨by lia,c.1,aJ (CW (by lia)) c.2.1,c.2.2⟩])
theorem Gx (h24:S.cal 24=gd)(h31:S.cal 31=oC)(h:py ds=some d):aV S bL ds=some d:=by
 obtain⟨a,b,rfl,h⟩:=px h;obtain⟨c,rfl⟩:=gw h
 .·
   by_cases hb:0<b
   .by_cases ha:0<=a
    .exact pZ ha hb (by rw[h24];show(if _ then _ else _)=_;rw[if_pos ⟨ha,hb,c.2⟩])
    .exact vL (by lia) hb (by rw[h31];show(if _ then _ else _)=_;rw[if_pos ⟨hb,aJ (CW (by lia)) c.2.1,c.2.2⟩])
   .have:=c.1;exact D8 (by lia) (by rw[h31];show(if _ then _ else _)=_;rw[if_pos ⟨by lia,by rw[CX];exact c.2.1,by rw[CX];exact c.2.2⟩])
end
end Internal
section
namespace Internal
variable {S:cU}
open PySem.StrLaws PySem.Builtin.Str
noncomputable def eS (g w:aN)(s e:Nat):Option Nat:=(List.range' s (e+1-s)).find? fun k=>decide (k+w.length<=e)&&((g.drop k).take w.length==w)
theorem Aw (h:l=pre++a::post)(hn:∀i∈pre,p i=false)(ha:p a=true):l.find? p=some a:=by subst h;rw[List.find?_append,List.find?_eq_none.mpr (fun i m=>by rw[hn i m];exact g6),List.find?_cons,ha];rfl
theorem DI (x y:Str)(lo hi:Nat):(occurrences x y lo hi 1).head?=eS x.cps.toList y.cps.toList lo hi:=by
 have hp:∀k,(decide (k+y.cps.toList.length<=hi)&&((x.cps.toList.drop k).take y.cps.toList.length==y.cps.toList))=true↔At x y hi k:=fun k=>by
  have e1:y.length=y.cps.toList.length:=by simp[Str.length]
  unfold At;rw[subAt_eq,eO,jE,e1]
 rw[occ_eq];unfold eS;rcases occ_first x y hi 1 (fc 1) (List.range' lo (hi+1-lo)) lo (fun i hi=>by have:=List.mem_range'_1.mp hi;lia)with⟨h0,hn⟩|⟨pre,a,post,e,h0,ha,hn⟩
 .rw[h0]
  symm
  exact List.find?_eq_none.mpr fun k m q=>hn k m ((hp k).mp q)
 .rw[Aw e (fun i m=>by
   cases q:(decide (i+y.cps.toList.length<=hi)&&((x.cps.toList.drop i).take y.cps.toList.length==y.cps.toList))with
   |false=>rfl
   |true=>exact absurd ((hp i).mp q) (hn i m)) ((hp a).mpr ha)]
  generalize (forIn (List.range' lo (hi+1-lo)) ((#[]:Array Nat),lo) (occBody x y hi 1)).run.fst=arr at h0;have h1:arr.toList[0]?=some a:=by simpa using h0
  rw[<- h1];cases arr.toList <;> rfl
theorem uW (n i:Nat):fromIndex n (i:Int)=i:=by show(max 0 (if(i:Int)<0 then(i:Int)+n else i)).toNat=i;rw[if_neg (by lia),Int.max_eq_right (by lia),mY]
theorem CN {x y:Str}{i j:Nat}(hj:j<=x.length):pj x y i j=match eS x.cps.toList y.cps.toList i j with|some k=>(k:Int)|none => -1:=by unfold pj;have e1:fromIndex x.length (i:Int)=i:=uW _ _;have e2:fromIndex x.length (j:Int)=j:=uW _ _;rw[e1,e2,Nat.min_eq_left hj,<- DI];cases occurrences x y i j 1 <;> rfl
noncomputable def cX (g:aN)(e:Nat):Nat->List aN->Bool
 |_,[]=>true
 |s,w::ws=>match eS g w s e with
  |some k=>cX g e (k+w.length) ws
  |none=>false
theorem yD (a b:Int):bH .Gt (.int a) (.int b)=some (.bool (decide (b<a))):=rfl
theorem yC (a b:Int):bH .GtE (.int a) (.int b)=some (.bool (decide (b<=a))):=rfl
theorem sO {f:D->aF->Option gZ}{n k i:Nat}{ρ ρ':aF}{xs:List D}{d:D}{o:Option gZ}(g:ρ.get n=some (.list xs))(h:xs[i]?=some d)(hf:f d ρ=some (.n ρ'))(h':ox f n k (i+1) ρ'=o):ox f n (k+1) i ρ=o:=by show fM (ρ.get n) (fun xs=>(xs[i]?).elim (some (.n ρ)) fun d=>qA (f d ρ) (ox f n k (i+1)))=o;rw[g];show(xs[i]?).elim (some (.n ρ)) (fun d=>qA (f d ρ) (ox f n k (i+1)))=o;rw[h];show qA (f d ρ) (ox f n k (i+1))=o;rw[hf];exact h'
theorem sP {f:D->aF->Option gZ}{n k i:Nat}{ρ:aF}{xs:List D}{d e:D}(g:ρ.get n=some (.list xs))(h:xs[i]?=some d)(hf:f d ρ=some (.r e)):ox f n (k+1) i ρ=some (.r e):=by show fM (ρ.get n) (fun xs=>(xs[i]?).elim (some (.n ρ)) fun d=>qA (f d ρ) (ox f n k (i+1)))=_;rw[g];show(xs[i]?).elim (some (.n ρ)) (fun d=>qA (f d ρ) (ox f n k (i+1)))=_;rw[h];show qA (f d ρ) (ox f n k (i+1))=_;rw[hf];rfl
theorem sN {f:D->aF->Option gZ}{n k i:Nat}{ρ:aF}{xs:List D}(g:ρ.get n=some (.list xs))(h:xs.length<=i):ox f n (k+1) i ρ=some (.n ρ):=by show fM (ρ.get n) (fun xs=>(xs[i]?).elim (some (.n ρ)) fun d=>qA (f d ρ) (ox f n k (i+1)))=_;rw[g];show(xs[i]?).elim (some (.n ρ)) (fun d=>qA (f d ρ) (ox f n k (i+1)))=_;rw[Dm h];rfl
theorem uE (he:e<=g.length) 
  (hbody:body=.c (.s 35 (.m .find3 (.v 36) (.c (.v 33) (.c (.v 35) (.c (.v 37) .n))))) (.c (.i (.q .Lt (.v 35) (.l (.int 0))) (.c (.r (.l (.bool false))) .n) .n) (.c (.aug 35 .Add (.f .len (.c (.v 33) .n))) .n))) :
  ∀{ws al:List aN}{i K s:Nat}{ρ:aF},al.drop i=ws->ws.length<K->ρ.get 34=some (.list (al.map aj))->ρ.get 36=some (aj g)->ρ.get 35=some (ae s)->ρ.get 37=some (ae e) ->
   ∃o,ox (fun d ρ'=>(bx ρ' [33] d).bind fun ρ''=>dP S ρ'' body) 34 K i ρ=some o/\(cX g e s ws=true->∃ρ',o=.n ρ')/\(cX g e s ws=false->o=.r (.bool false))
 |_,_,_,0,_,_,_,hk,_,_,_,_=>absurd hk (Nat.not_lt_zero _)
 |[],al,i,K+1,s,ρ,hd,_,g0,_,_,_=>⟨.n ρ,sN g0 (by rw[dx];exact List.drop_eq_nil_iff.mp hd),fun _=>⟨ρ,rfl⟩,fun h=>ff h.symm⟩
 |w::ws,al,i,K+1,s,ρ,hd,hk,g0,g1,g2,g3=>by
  subst hbody;have hx:(al.map aj)[i]?=some (aj w):=by rw[List.getElem?_map,show al[i]?=some w from(List.getElem?_drop (i:=i) (j:=0)).symm.trans (congrArg (·[0]?) hd)];rfl
  have G:∀(ρ:aF)(m k:Nat) (d:D),(ρ.set m d).get k=if k=m then some d else ρ.get k:=fun ρ m k d=>aF.get_set ρ m k d;have hf:pj (tx g) (tx w) (s:Int) (e:Int)=match eS g w s e with|some k=>(k:Int)|none => -1:=by have:=CN (x:=tx g) (y:=tx w) (i:=s) (j:=e) (by simpa [Str.length]using he);exact this
  have s1:ev S (ρ.set 33 (aj w)) (.m .find3 (.v 36) (.c (.v 33) (.c (.v 35) (.c (.v 37) .n))))=some (.int (pj (tx g) (tx w) s e)):=by
   have e1:ev S (ρ.set 33 (aj w)) (.v 36)=some (aj g):=aa (by simp[G,g1]);have e2:mK S (ρ.set 33 (aj w)) (.c (.v 33) (.c (.v 35) (.c (.v 37) .n)))=some [aj w,ae s,ae e] :=
    ah (aa (by simp[G])) (ah (aa (by simp[G,g2])) (ah (aa (by simp[G,g3])) aw))
   exact bi e1 (bi e2 rfl)
  cases hw:eS g w s e with
  |none =>
   rw[hw]at hf;refine⟨.r (.bool false), ?_,fun h=>?_,fun _=>rfl⟩
   .exact sP g0 hx (ag (aK s1) (au (d:=.bool false) (aW (t:=true) (av (x:=.int (-1)) (aa (by rw[aF.get_set,if_pos rfl,hf])) rfl rfl) rfl)))
   .have:cX g e s (w::ws)=false:=by show(match eS g w s e with|some k=>cX g e (k+w.length) ws|none=>false)=_;rw[hw]
    rw[this]at h;exact ff h
  |some k =>
   rw[hw]at hf;obtain⟨o,o1,o2,o3⟩:=uE he rfl (ws:=ws) (i:=i+1) (s:=k+w.length) (ρ:=((ρ.set 33 (aj w)).set 35 (ae k)).set 35 (ae (k+w.length))) ((List.drop_drop (i:=1)).symm.trans (congrArg (List.drop 1) hd)) (Nat.lt_of_succ_lt_succ hk) (by simp[G,g0]) (by simp[G,g1]) (by simp[G]) (by simp[G,g3]);have ew:cX g e s (w::ws)=cX g e (k+w.length) ws:=by show(match eS g w s e with|some k=>cX g e (k+w.length) ws|none=>false)=_;rw[hw]
   rw[ew];refine⟨o, ?_,o2,o3⟩;refine sO g0 hx ?_ o1;show dP S (ρ.set 33 (aj w)) _=_;rw[hf]at s1;refine ag (aK s1) (ag (ρ':=(ρ.set 33 (aj w)).set 35 (ae k)) (aW (t:=false) (av (x:=ae k) (aa (by simp[G])) rfl (by rw[gQ,cG (by lia)])) rfl) (ag ?_ rfl));have e6:ev S ((ρ.set 33 (aj w)).set 35 (ae k)) (.f .len (.c (.v 33) .n))=some (ae w.length):=by refine bi (ah (aa (show _=some (aj w) by simp[G])) aw) ?_;show some (PyData.int ((tx w).length:Nat))=_;simp[Str.length]
   refine bi (show((ρ.set 33 (aj w)).set 35 (ae k)).get 35=some (ae k) by simp[G]) (bi e6 ?_);have e8:sF .Add (ae k) (ae w.length)=some (ae (k+w.length)):=by
    show some (PyData.int ((k:Int)+(w.length:Int)))=_
    norm_cast
   rw[e8];rfl
end Internal
end
namespace Internal
section
variable {S:cU}
def qu (g:aN)(s:Nat)(ws:List aN):Bool:=
 if ws.getLastD []=[]then(if g.length<s then false else cX g g.length s ws)
 else if(ws.getLastD []).isSuffixOf g then(if g.length-(ws.getLastD []).length<s then false else cX g (g.length-(ws.getLastD []).length) s ws.dropLast)
 else false
def Cq (ps:List aN)(g:aN):Bool:=match ps with
 |[]=>false
 |p::r=>if p=[]then qu g 0 (p::r)else if p.isPrefixOf g then qu g p.length r else false
noncomputable abbrev KR:nU:=.c (.s 35 (.m .find3 (.v 36) (.c (.v 33) (.c (.v 35) (.c (.v 37) .n))))) (.c (.i (.q .Lt (.v 35) (.l (.int 0))) (.c (.r (.l (.bool false))) .n) .n) (.c (.aug 35 .Add (.f .len (.c (.v 33) .n))) .n))
abbrev Cp:nU:=.c (.i (.q .Gt (.v 35) (.v 37)) (.c (.r (.l (.bool false))) .n) .n) (.c (.grow 34 [33] KR) (.c (.r (.l (.bool true))) .n))
abbrev IG:nU:=.c (.s 33 (.oget 34 (.n (.l (.int 1))))) (.c (.i (.v 33) (.c (.i (.m .endswith (.v 36) (.c (.v 33) .n)) (.c (.aug 37 .Sub (.f .len (.c (.v 33) .n))) (.c (.del 34 (-1)) .n)) (.c (.r (.l (.bool false))) .n)) .n) .n) Cp)
theorem Cu (hl:ws.length<=100000)(he:e<=g.length)(g1:ρ.get 36=some (aj g))(g2:ρ.get 35=some (ae s))(g3:ρ.get 37=some (ae e))(g4:ρ.get 34=some (.list (ws.map aj))) :
  dP S ρ Cp=some (.r (.bool (if e<s then false else cX g e s ws))):=by
 by_cases c:e<s
 .rw[if_pos c];exact au (aW (t:=true) (av (aa g2) (aa g3) (by rw[yD,dg (by lia)])) rfl)
 .rw[if_neg c];refine ag (aW (t:=false) (av (aa g2) (aa g3) (by rw[yD,cG (by lia)])) rfl) ?_;obtain⟨o,o1,o2,o3⟩:=uE (S:=S) (g:=g) he rfl (ws:=ws) (al:=ws) (i:=0) (s:=s) (ρ:=ρ) rfl (K:=qX) (lC hl (by decide)) g4 g1 g2 g3;cases hw:cX g e s ws with
  |true =>
   obtain⟨ρ',rfl⟩:=o2 hw;exact ag o1 (au rfl)
  |false =>
   have:=o3 hw;subst this;exact au o1
theorem Dj (h:ws≠[]):(ws.map aj)[ws.length-1]?=some (aj (ws.getLastD [])):=by
 rw[List.getElem?_map];have:ws[ws.length-1]?=some (ws.getLastD []):=by
  rw[<- List.getLast?_eq_getElem?];cases ws with
  |nil=>exact absurd rfl h
  |cons a r=>rw[List.getLastD_eq_getLast?,List.getLast?_eq_some_getLast (List.cons_ne_nil a r)];rfl
 rw[this];rfl
theorem pz (h:0<n):seqIndex? (-1) n=some (n-1):=by rw[PySem.StrLaws.seqIndex_neg (by decide) (show -(n:Int) <= -1 from Int.neg_le_neg (Int.ofNat_le.mpr h))];exact congrArg some ((congrArg Int.toNat (Int.add_comm (-1) n)).trans (Int.toNat_sub n 1))
theorem sH (h:ρ.get n=some (aj w)):ev S ρ (.f .len (.c (.v n) .n))=some (ae w.length):=by refine bi (ah (aa h) aw) ?_;show some (PyData.int ((tx w).length:Nat))=_;simp[Str.length]
theorem lh (h:ρ.get n=some (aj w)):evT S ρ (.v n)=some (!w.isEmpty):=by
 have e:evT S ρ (.v n)=(ρ.get n).bind dq:=rfl;rw[e,h];show some (((tx w).length:Int) != 0)=_;cases w with
 |nil=>rfl
 |cons a r=>simp[Str.length];lia
theorem wL (h:evT S ρ c=some true):ex S ρ (.assert c)=some (.n ρ):=bi (k:=fun t=>bif t then some (gZ.n ρ)else none) h rfl
theorem Ct (hl:ws.length<=100000)(hw:ws≠[])(g1:ρ.get 36=some (aj g))(g2:ρ.get 35=some (ae s))(g3:ρ.get 37=some (ae g.length))(g4:ρ.get 34=some (.list (ws.map aj))) :
  dP S ρ IG=some (.r (.bool (qu g s ws))):=by
 have hpos:0<ws.length:=List.length_pos_iff.mpr hw;have G:∀(ρ:aF)(m k:Nat) (d:D),(ρ.set m d).get k=if k=m then some d else ρ.get k:=fun ρ m k d=>aF.get_set ρ m k d;generalize hlast:ws.getLastD []=w;have e1:ev S ρ (.oget 34 (.n (.l (.int 1))))=some (aj w):=by refine li g4 (bi (x:=.int (-1)) rfl ?_);show(seqIndex? (-1) (ws.map aj).length).bind ((ws.map aj)[·]?)=_;rw[dx,pz hpos];show(ws.map aj)[ws.length-1]?=_;rw[Dj hw,hlast]
 refine ag (aK e1) ?_;have g33:(ρ.set 33 (aj w)).get 33=some (aj w):=by simp[G]
 unfold qu;rw[hlast];by_cases c:w=[]
 .rw[if_pos c];refine ag (aW (t:=false) (by rw[lh g33,c];rfl) rfl) ?_;exact Cu hl (fc _) (by simp[G,g1]) (by simp[G,g2]) (by simp[G,g3]) (by simp[G,g4])
 .rw[if_neg c];have ht:evT S (ρ.set 33 (aj w)) (.v 33)=some true:=by
   rw[lh g33];cases w with
   |nil=>exact absurd rfl c
   |cons _ _=>rfl
  have hm:evT S (ρ.set 33 (aj w)) (.m .endswith (.v 36) (.c (.v 33) .n))=some (w.isSuffixOf g):=by refine bi (x:=.bool (Txt.endswith (tx g) (tx w))) (bi (aa (show(ρ.set 33 (aj w)).get 36=some (aj g) by simp[G,g1])) (bi (ah (aa g33) aw) rfl)) ?_;show some (Txt.endswith (tx g) (tx w))=_;rw[Ar]
  by_cases c2:w.isSuffixOf g=true
  .rw[if_pos c2];have hle:w.length<=g.length:=(List.isSuffixOf_iff_suffix.mp c2).length_le;have hdel:(ws.map aj).eraseIdx (ws.length-1)=ws.dropLast.map aj:=by rw[List.map_dropLast,List.dropLast_eq_take,dx,List.eraseIdx_eq_take_drop_succ,List.drop_of_length_le (by rw[dx,Nat.sub_add_cancel hpos];exact fc _),List.append_nil]
   refine ag (ρ':=((ρ.set 33 (aj w)).set 37 (ae (g.length-w.length))).set 34 (.list (ws.dropLast.map aj))) (aW ht (ag (ρ':=((ρ.set 33 (aj w)).set 37 (ae (g.length-w.length))).set 34 (.list (ws.dropLast.map aj))) (aW (t:=true) (by rw[hm,c2]) (ag (ρ':=(ρ.set 33 (aj w)).set 37 (ae (g.length-w.length))) ?_ (ag ?_ rfl))) rfl)) ?_
   .refine bi (show(ρ.set 33 (aj w)).get 37=some (ae g.length) by simp[G,g3]) (bi (sH g33) ?_);show(some (PyData.int ((g.length:Int)-(w.length:Int)))).map _=_;rw[<- Int.ofNat_sub hle];rfl
   .refine li (show((ρ.set 33 (aj w)).set 37 (ae (g.length-w.length))).get 34=some (.list (ws.map aj)) by simp[G,g4]) ?_;show((seqIndex? (-1) (ws.map aj).length).bind fun j=>some (gZ.n (aF.set ((ρ.set 33 (aj w)).set 37 (ae (g.length-w.length))) 34 (.list ((ws.map aj).eraseIdx j)))))=_;rw[dx,pz hpos];show some (gZ.n (aF.set _ 34 (.list ((ws.map aj).eraseIdx (ws.length-1)))))=_;rw[hdel]
   .exact Cu (by rw[List.length_dropLast];exact aJ (Nat.sub_le _ _) hl) (by exact Nat.sub_le _ _) (by simp[G,g1]) (by simp[G,g2]) (by simp[G]) (by simp[G])
  .rw[if_neg c2];have c2:w.isSuffixOf g=false:=Bool.eq_false_iff.mpr c2;exact au (aW ht (au (aW (t:=false) (by rw[hm,c2]) rfl)))
theorem pN (h:(!(Builtin.Str.occurrences x dots 0 x.length 1).isEmpty)=b):bH .NotIn (.str "...") (.str x)=some (.bool (!b)):=by show some (PyData.bool (!(!(Builtin.Str.occurrences x dots 0 x.length 1).isEmpty)))=_;rw[h]
theorem GT (hg:S.gl 39=some (.str "..."))(hn:2<=ps.length)(hd:∀p∈ps,46∉p)(hok:∀p∈ps,tc p)(hl:ps.length<=100000):aV S bR [aj (be ps),aj g]=some (.bool (Cq ps g)):=by
 have hne:ps≠[]:=fun e=>by rw[e]at hn;simp at hn
 have hsp:=xL (x:=tx (be ps)) rfl hn hd;have hsp2:Txt.split (tx (be ps)) dots=ps.map tx:=by
  have:((Txt.split (tx (be ps)) dots).map (·.cps.toList)).map tx=ps.map tx:=by rw[hsp]
  rw[kR]at this;rw[<- this]
  conv=>lhs;rw[<- List.map_id (Txt.split (tx (be ps)) dots)]
  refine List.map_congr_left fun x _=>?_;exact Str.ext' (by simp)
 have hin:(!(Builtin.Str.occurrences (tx (be ps)) dots 0 (tx (be ps)).length 1).isEmpty)=true:=by
  rw[PySem.StrLaws.found_iff];obtain⟨⟨f,c1,_⟩,_⟩:=mE (x:=tx (be ps)) (ps:=ps) (a:=0) hne hd rfl (gL _);rcases ps with⟨⟩|⟨p,⟨⟩|⟨q,r⟩⟩
  .exact absurd rfl hne
  .exact absurd hn (by decide:¬ 2<=1)
  .exact⟨_,c1.2.1⟩
 refine cF rfl ?_;show dP S [(38,aj (be ps)),(36,aj g)] _=_;refine ag (aW (t:=false) (av (x:=.str "...") (y:=aj (be ps)) (show S.gl 39=_ from hg) rfl (by rw[pN hin];rfl)) rfl) ?_;refine ag (ρ':=[(38,aj (be ps)),(36,aj g),(34, .list (ps.map aj))]) ?_ ?_
 .refine si rfl (si (show S.gl 39=_ from hg) ?_);show(if decide (0<dots.length)&&sok (.list ((Txt.split (tx (be ps)) dots).map .str))then some (gZ.n (aF.set [(38,aj (be ps)),(36,aj g)] 34 (.list ((Txt.split (tx (be ps)) dots).map .str))))else none)=_;rw[hsp2,if_pos]
  .rw[kR];rfl
  .rw[eO];refine⟨rfl, ?_⟩;show(decide (((ps.map tx).map PyData.str).length<=16777216)&&sokAll ((ps.map tx).map PyData.str))=true;rw[eO,jE];refine⟨by simp;exact qp ‹_› rfl,sokAll_iff.mpr fun x hx=>?_⟩;rw[kR]at hx;obtain⟨p,hp,rfl⟩:=iz hx;have:=hok p hp;exact jz (by have:=this.1;exact qp ‹_› rfl) this.2
 refine ag (ρ':=[(38,aj (be ps)),(36,aj g),(34, .list (ps.map aj))]) ?_ ?_
 .exact wL (av (x:=.int ((ps.map aj).length:Nat)) (y:=.int 2) rfl rfl (by rw[yC,dg (by rw[dx];lia)]))
 refine ag (oq (xs:=[ae 0,ae g.length]) ?_ rfl) ?_
 .refine sL (ah rfl (ah (sH (by rfl)) aw)) (oF rfl)
 show dP S [(38,aj (be ps)),(36,aj g),(34, .list (ps.map aj)),(35,ae 0),(37,ae g.length)] _=_
 match ps,hn,hne,hl with
 |p::r,hn,_,hl =>
  have hr:r≠[]:=fun e=>by rw[e]at hn;simp at hn
  have e1:ev S [(38,aj (be (p::r))),(36,aj g),(34, .list ((p::r).map aj)),(35,ae 0),(37,ae g.length)] (.oget 34 (.l (.int 0)))=some (aj p):=by show(seqIndex? 0 ((p::r).map aj).length).bind (((p::r).map aj)[·]?)=_;rw[seqIndex_of (by decide) (by simp)];rfl
  refine ag (aK e1) ?_;show dP S [(38,aj (be (p::r))),(36,aj g),(34, .list ((p::r).map aj)),(35,ae 0),(37,ae g.length),(33,aj p)] _=_;show _=some (gZ.r (.bool (if p=[]then qu g 0 (p::r)else if p.isPrefixOf g then qu g p.length r else false)));by_cases c:p=[]
  .rw[if_pos c];refine ag (aW (t:=false) (by rw[lh (w:=p) rfl,c];rfl) rfl) ?_;exact Ct hl (by simp) rfl rfl rfl rfl
  .rw[if_neg c];have ht:evT S [(38,aj (be (p::r))),(36,aj g),(34, .list ((p::r).map aj)),(35,ae 0),(37,ae g.length),(33,aj p)] (.v 33)=some true:=by
    rw[lh (w:=p) rfl];cases p with
    |nil=>exact absurd rfl c
    |cons _ _=>rfl
   have hm:evT S [(38,aj (be (p::r))),(36,aj g),(34, .list ((p::r).map aj)),(35,ae 0),(37,ae g.length),(33,aj p)] (.m .startswith (.v 36) (.c (.v 33) .n))=some (p.isPrefixOf g):=by show some (Txt.startswith (tx g) (tx p))=_;rw[v4]
   by_cases c2:p.isPrefixOf g=true
   .rw[if_pos c2];have hb2:dP S [(38,aj (be (p::r))),(36,aj g),(34, .list ((p::r).map aj)),(35,ae 0),(37,ae g.length),(33,aj p)] (.c (.s 35 (.f .len (.c (.v 33) .n))) (.c (.del 34 0) .n)) =
      some (.n [(38,aj (be (p::r))),(36,aj g),(34, .list (r.map aj)),(35,ae p.length),(37,ae g.length),(33,aj p)]):=by
     refine ag (aK (sH (w:=p) rfl)) ?_;refine ag (ρ':=[(38,aj (be (p::r))),(36,aj g),(34, .list (r.map aj)),(35,ae p.length),(37,ae g.length),(33,aj p)]) ?_ rfl;exact li rfl (bi (seqIndex_of (by decide) (by simp)) rfl)
    have hb1:dP S [(38,aj (be (p::r))),(36,aj g),(34, .list ((p::r).map aj)),(35,ae 0),(37,ae g.length),(33,aj p)] (.c (.i (.m .startswith (.v 36) (.c (.v 33) .n)) (.c (.s 35 (.f .len (.c (.v 33) .n))) (.c (.del 34 0) .n)) (.c (.r (.l (.bool false))) .n)) .n) =
      some (.n [(38,aj (be (p::r))),(36,aj g),(34, .list (r.map aj)),(35,ae p.length),(37,ae g.length),(33,aj p)]):=ag (aW (t:=true) (by rw[hm,c2]) hb2) rfl
    refine ag (aW ht hb1) ?_;exact Ct (Nat.le_of_succ_le hl) hr rfl rfl rfl rfl
   .rw[if_neg c2];have c2:p.isPrefixOf g=false:=Bool.eq_false_iff.mpr c2;exact au (aW ht (au (aW (t:=false) (by rw[hm,c2]) rfl)))
theorem D6 (hg:S.gl 39=some (.str "..."))(hd:46∉x):aV S bR [aj x,aj g]=some (.bool (x==g)):=by
 have hin:(!(Builtin.Str.occurrences (tx x) dots 0 (tx x).length 1).isEmpty)=false:=by
  cases q:(!(Builtin.Str.occurrences (tx x) dots 0 (tx x).length 1).isEmpty)with
  |false=>rfl
  |true =>
   rw[PySem.StrLaws.found_iff]at q;obtain⟨i,hi⟩:=q;have:=sn (x:=tx x) hi;exact absurd (qw this) (by simpa using hd)
 refine cF rfl ?_;show dP S [(38,aj x),(36,aj g)] _=_;have e:ev S [(38,aj x),(36,aj g)] (.q .Eq (.v 38) (.v 36))=some (.bool (x==g)):=by
  refine jH (x:=aj x) (y:=aj g) rfl rfl ?_;show some (PyData.bool (tx x==tx g))=_
  congr 2
  rw[Bool.eq_iff_iff,beq_iff_eq,beq_iff_eq];constructor
  .intro h;have:=congrArg (fun s:Str=>s.cps.toList) h;simpa using this
  .intro h;rw[h]
 have hb:dP S [(38,aj x),(36,aj g)] (.c (.r (.q .Eq (.v 38) (.v 36))) .n)=some (.r (.bool (x==g))):=au (bE e);exact au (aW (t:=true) (av (x:=.str "...") (y:=aj x) (show S.gl 39=_ from hg) rfl (by rw[pN hin];rfl)) hb)
end
section
structure M2 where
 a:Int
 b:Int
 c:Int
 d:Int
namespace M2
def one:M2:=⟨1,0,0,1⟩
end M2
namespace M2
end M2
section
variable {p prog:Program}{loose:List Str}{mean:ExcName->Option Value}{w:World}{h:Heap}{mg mb:Str->Option Value}{c1 P1 c2 P2:Addr}{pos1 pos2:Pos}{nm:List Str}
theorem wR (e:fd.scope=fd'.scope):wQ nm f fd body xs=wQ nm f fd' body xs:=by unfold wQ iG;rw[e]
theorem xz (T:Top p loose mean mg mb h)(hT:TabsAt [(c1,P1),(c2,P2)] h)(hr:eW nm p x f xs=true) :
  ∃a fd d,nJ p x=some d/\mg x=some (.ref a)/\iS (eU prog w h mg mb c1 P1 c2 P2 pos1 pos2 nm) a fd d.body xs/\wQ nm f fd d.body xs=true/\fd.scope=d.scope:=by
 obtain⟨d,hd,hr⟩:=A2 hr;obtain⟨a,fd,hm,Df,hs,-,-⟩:=wT (prog:=prog) (w:=w) (pos1:=pos1) (pos2:=pos2) (nm:=nm) T hT hd (cE hr).2;exact⟨a,fd,d,hd,hm,Df,(wR hs).trans (cE hr).1,hs⟩
theorem cB.rc (T:Top p loose mean mg mb h)(hT:TabsAt [(c1,P1),(c2,P2)] h)(ok:oQ (eU prog w h mg mb c1 P1 c2 P2 pos1 pos2 nm)){K U n:Nat}{x:Str}{f:Fn}{xs:List Str}{cf:List D->Option D}{gl:Nat->Option D}
  (hg:gY (eU prog w h mg mb c1 P1 c2 P2 pos1 pos2 nm) gl)(hU:103<=U)(hn:nm[n]?=some x)(hr:eW nm p x f xs=true)(F:cB (eU prog w h mg mb c1 P1 c2 P2 pos1 pos2 nm) cal K U)
  (hc:∀ds d,cf ds=some d->aV ⟨cal,gl,false⟩ f ds=some d):cB (eU prog w h mg mb c1 P1 c2 P2 pos1 pos2 nm) (put cal n cf) (K+1) (U+3):=by
 obtain⟨a,fd,d,-,hm,Df,hf,-⟩:=xz (prog:=prog) (w:=w) (pos1:=pos1) (pos2:=pos2) T hT hr;exact F.add ok hU hn hm Df hf hg hc
def vD (p:Program)(x:Str)(k:DefRec->Bool):Bool:=match nJ p x with|some d=>k d|none=>false
theorem m5 (h:vD p x k=true):∃d,nJ p x=some d/\k d=true:=by
 unfold vD at h;cases e:nJ p x with
 |none=>rw[e]at h;exact ff h
 |some d=>rw[e]at h;exact⟨d,rfl,h⟩
def Ip (nm:List Str)(p:Program)(pos1 pos2:Pos):Bool:=vD p "_int2digits" fun d1=>vD p "_digits2int" fun d2 =>
 jw d1 ["a", "n"]&&jw d2 ["digits", "n"]&&sR ⟨nm,fL,[]⟩ ⟨0,0,pos1, ""⟩ d1.body&&su ⟨nm,fJ,[]⟩ ⟨0,0,pos2, ""⟩ d2.body&&decide (d1.scope.names=fL)&&decide (d2.scope.names=fJ)
inductive HG (nm:List Str)(sc:List (Str × NameKind)):ez->Prop
 |mk {ts:Expr}{y:Str}{np rp ip:Pos}{els rest:ez}(h:(y==("ZeroDivisionError" : Str)&&a7 ⟨nm,sc,[]⟩ (.q .Eq (.v 21) (.l (.int 0))) ts&&sc.lookup ("ZeroDivisionError" : Str)==some .globalImplicit)=true):HG nm sc (.If ts [.Raise (some (.Name y np)) none rp] els ip::rest)
def Fg (nm:List Str)(sc:List (Str × NameKind))(b:ez):Bool:=
 bu b fun s1 _=>zt s1 fun ts th _ _=>bu th fun r th=>bK th <| vF r fun e z _=>gB z <| iL e fun e=>bh e fun y _ =>
  (y==("ZeroDivisionError" : Str)&&a7 ⟨nm,sc,[]⟩ (.q .Eq (.v 21) (.l (.int 0))) ts&&sc.lookup ("ZeroDivisionError" : Str)==some .globalImplicit)
theorem Bx (h:Fg nm sc b=true):HG nm sc b:=by unfold Fg at h;refine ay h fun _ _ h=>?_;refine kC h fun _ _ _ _ h=>?_;refine ay h fun _ _ h=>?_;refine aI h fun h=>?_;refine qz h fun _ _ _ h=>?_;refine cW h fun h=>?_;refine eH h fun _ h=>?_;refine aA h fun _ _ h=>?_;exact .mk h
def Kx (nm:List Str)(p:Program):Bool:=vD p "int_divmod" fun d=>Fg nm d.scope.names d.body
noncomputable def yT (p:Program)(loose:List Str)(x:Str):Bool:=!startupNames.contains x&&!loose.contains x&&!((recsOf p).map (·.name)).contains x&&!((litsOf p).map (·.1)).contains x&&!((clssOf p loose).map (·.name)).contains x
theorem yU (T:Top p loose mean mg mb h)(hx:yT p loose x=true):mg x=none:=by
 unfold yT at hx;simp only[eO,Bool.not_eq_true']at hx;obtain⟨⟨⟨⟨h1,h2⟩,h3⟩,h4⟩,h5⟩:=hx;have g:∀{l:List Str},l.contains x=false->x∉l:=fun q m=>by rw[List.contains_iff_mem.mpr m]at q;cases q
 exact T.free x (g h1) (g h2) (g h3) (g h4) (g h5)
noncomputable def uP:ez->Pos
 |[]=>⟨0,0,0,0⟩
 |s::r=>if gC s fun _ _ _ _ _ _ _ _ _ _=>true then s.pos else uP r
def j7 (p:Program)(x:Str):Pos:=match nJ p x with
 |some d=>uP d.body
 |none=>⟨0,0,0,0⟩
def iA (mg:Str->Option Value)(h:Heap)(x:Str)(c:Addr):Prop:=∀a o fd,mg x=some (.ref a)->h.get? a=some o->o.data=.func fd->fd.code=.ref c
noncomputable def Hr (v:Value):Option Addr:=match v with|.ref a=>some a|_=>none
noncomputable def K6 (o:Obj)(x:Str):Option Value:=match o.data with|.dict es _=>nsFind es x|_=>none
def K5 (o:Obj):Option Addr:=match o.data with|.func fd=>Hr fd.code|_=>none
def HO (o:Obj):Option Addr:=match o.data with|.fields vs=>(vs[11]?:Option Value).bind Hr|_=>none
def v8 (h:Heap)(x:Str):Option Addr:=(h.get? mainGlobals).bind fun o=>(K6 o x).bind fun v=>(Hr v).bind fun a=>(h.get? a).bind fun o=>(K5 o).bind fun c=>(h.get? c).bind HO
theorem rP (k:∀b o,h.get? b=some o->h'.get? b=some o)(e:v8 h x=some P):v8 h' x=some P:=
 aq e fun _ e1 e=>aq e fun _ e2 e=>aq e fun _ e3 e=>aq e fun _ e4 e=>aq e fun _ e5 e=>aq e fun _ e6 e =>
  bi (k _ _ e1) (bi e2 (bi e3 (bi (k _ _ e4) (bi e5 (bi (k _ _ e6) e)))))
theorem ED (T:Top p loose mean mg mb h)(hd:HX p x d)(hP:v8 h x=some P):∃c,CodeHd h c P/\h.get? P=some (tabObj #[])/\iA mg h x c:=by
 have hn:d.name=x:=eM (List.find?_some (p:=fun e:DefRec=>e.name==x) hd);obtain⟨a,o,fd,c,P',h1,h2,h3,h4,h5,h6⟩:=T.tab d (List.mem_of_find?_eq_some hd);rw[hn]at h1;have hP':P'=P:=by
  obtain⟨og,es,ep,g1,g2,_,g3⟩:=T.g;obtain⟨⟨oc,vs,i1,_,i2,i3⟩,_⟩:=h6;have:v8 h x=some P':=by
   refine bi g1 (bi (x:=.ref a) ?_ (bi rfl (bi h2 (bi (x:=c) ?_ (bi i1 ?_)))))
   .unfold K6;rw[g2];exact(g3 x).trans h1
   .unfold K5;rw[h3];show Hr fd.code=_;rw[h4];rfl
   .unfold HO;rw[i2];exact bi i3 rfl
  rw[hP]at this;exact(aG this).symm
 subst hP';refine⟨c,CodeHd.of h5 h6,h6.2,fun a2 o2 fd2 m1 m2 m3=>?_⟩;rw[h1]at m1;cases m1;rw[h2]at m2;obtain rfl:=aG m2;rw[h3]at m3;cases m3;exact h4
structure yj (p:Program)(loose:List Str)(nm:List Str)(pos1 pos2:Pos):Prop where
 nd:nm.Nodup
 pre:∀(i:Nat) (x:Str),gH[i]?=some x->nm[i]?=some x
 nb:bZ.all (yT p loose)=true
 nz:yT p loose "ZeroDivisionError" = true
 g23:valOf p "_DIV_LIMIT" = some (.int 4000)
 g39:valOf p "ELLIPSIS_MARKER" = some (.str "...")
 b:Ip nm p pos1 pos2=true
 z:Kx nm p=true
 r12:eW nm p "_div2n1n" iQ ["a", "b", "n"]=true
 r24:eW nm p "_divmod_pos" fR ["a", "b"]=true
 r31:eW nm p "int_divmod" bL ["a", "b"]=true
 r32:eW nm p "_ellipsis_match" bR ["want", "got"]=true
 r40:eW nm p "_escape_cdata" dp ["text"]=true
 r42:eW nm p "_escape_attrib" df ["text"]=true
 r43:eW nm p "_escape_attrib_html" bP ["text"]=true
 r44:eW nm p "_escape_cdata_c14n" bS ["text"]=true
 r45:eW nm p "_escape_attrib_c14n" bO ["text"]=true
 r46:eW nm p "_law_written" cT ["kind", "text"]=true
 r48:eW nm p "_law_spelled" dL ["kind", "text"]=true
variable (T:Top p loose mean mg mb h)(hT:TabsAt [(c1,P1),(c2,P2)] h)(hne:P1≠P2)(R:yj p loose nm pos1 pos2)
include T hT hne R
theorem zJ:oQ (eU prog w h mg mb c1 P1 c2 P2 pos1 pos2 nm):=KW T hT R.nd fun x hx=>yU T (br R.nb x hx)
theorem Eg:gY (eU prog w h mg mb c1 P1 c2 P2 pos1 pos2 nm) bB:=Gr T fun n x d hn hd=>by
 by_cases c:n=23
 .obtain rfl:=aG ((if_pos c).symm.trans hd);subst c;obtain rfl:=aG ((R.pre 23 "_DIV_LIMIT" rfl).symm.trans hn);exact⟨R.g23,rfl⟩
 .have hd:=(if_neg c).symm.trans hd;by_cases c:n=39
  .obtain rfl:=aG ((if_pos c).symm.trans hd);subst c;obtain rfl:=aG ((R.pre 39 "ELLIPSIS_MARKER" rfl).symm.trans hn);exact⟨R.g39,by decide +kernel⟩
  .exact nn ((if_neg c).symm.trans hd)
def Iw:Nat->List D->Option D:=put (put (fun _ _=>none) 30 kr) 26 kj
omit T hT hne R in
theorem AW:∀(i:Nat) (x:Str),jn[i]?=some x->gH[i]?=some x:=fun i x hx=>by
 have e:jn=gH.take 12:=by decide +kernel
 rw[e,List.getElem?_take]at hx;split at hx
 .exact hx
 .exact nn hx
omit T hT hne R in
theorem Lu:("_int2digits" : Str) ++ ".<locals>." ++ ("inner" : Str) = "_int2digits.<locals>.inner":=by decide +kernel
omit T hT hne R in
theorem Lv:("_digits2int" : Str) ++ ".<locals>." ++ ("inner" : Str) = "_digits2int.<locals>.inner":=by decide +kernel
theorem G2 (hc1:iA mg h "_int2digits" c1)(hc2:iA mg h "_digits2int" c2):cB (eU prog w h mg mb c1 P1 c2 P2 pos1 pos2 nm) Iw 30 200:=by
 obtain⟨d1,h1,hb⟩:=m5 R.b;obtain⟨d2,h2,hb⟩:=m5 hb;simp only[eO,jE]at hb;obtain⟨⟨⟨⟨⟨b1,b2⟩,b3⟩,b4⟩,b5⟩,b6⟩:=hb;obtain⟨a1,fd1,m1,D1,s1,q1,o1,e1,e2⟩:=wT (prog:=prog) (w:=w) (pos1:=pos1) (pos2:=pos2) (nm:=nm) T hT h1 b1;obtain⟨a2,fd2,m2,D2,s2,q2,o2,e3,e4⟩:=wT (prog:=prog) (w:=w) (pos1:=pos1) (pos2:=pos2) (nm:=nm) T hT h2 b2;exact BU (G:=eU prog w h mg mb c1 P1 c2 P2 pos1 pos2 nm) (zJ T hT hne R) (Gu hne) (fun i x hx=>R.pre i x (AW i x hx)) (by decide) (R.pre 30 "_int2digits" rfl) (R.pre 26 "_digits2int" rfl) m1 m2 (t1:=⟨c1,P1,pos1, "_int2digits.<locals>.inner"⟩) (t2:=⟨c2,P2,pos2, "_digits2int.<locals>.inner"⟩)
  (by show _∈[_,_];simp) (by show _∈[_,_];simp) D1 D2 b3 b4 (by rw[s1];exact b5) (by rw[s2];exact b6) (hc1 a1 o1 fd1 m1 e1 e2) (hc2 a2 o2 fd2 m2 e3 e4) (by rw[q1];exact Lu) (by rw[q2];exact Lv)
def KN:Nat->List D->Option D:=put Iw 12 n9
def KO:Nat->List D->Option D:=put KN 24 gd
def It:Nat->List D->Option D:=put KO 31 oz
def Iu:Nat->List D->Option D:=put It 31 oC
def uk:Nat->List D->Option D:=put Iu 31 py
def yt:Nat->List D->Option D:=put uk 32 fun ds=>aV ⟨uk,bB,false⟩ bR ds
def yu:Nat->List D->Option D:=put yt 40 fun ds=>aV ⟨yt,bB,false⟩ dp ds
def yv:Nat->List D->Option D:=put yu 42 fun ds=>aV ⟨yu,bB,false⟩ df ds
def yw:Nat->List D->Option D:=put yv 43 fun ds=>aV ⟨yv,bB,false⟩ bP ds
def yx:Nat->List D->Option D:=put yw 44 fun ds=>aV ⟨yw,bB,false⟩ bS ds
def ul:Nat->List D->Option D:=put yx 45 fun ds=>aV ⟨yx,bB,false⟩ bO ds
def yz:Nat->List D->Option D:=put ul 46 fun ds=>aV ⟨ul,bB,false⟩ cT ds
def ic:Nat->List D->Option D:=put yz 48 fun ds=>aV ⟨yz,bB,false⟩ dL ds
theorem JJ (hc1:iA mg h "_int2digits" c1)(hc2:iA mg h "_digits2int" c2):cB (eU prog w h mg mb c1 P1 c2 P2 pos1 pos2 nm) ic 43 239:=by have ok:oQ (eU prog w h mg mb c1 P1 c2 P2 pos1 pos2 nm):=zJ T hT hne R;have gl:gY (eU prog w h mg mb c1 P1 c2 P2 pos1 pos2 nm) bB:=Eg T hT hne R;have f0:cB (eU prog w h mg mb c1 P1 c2 P2 pos1 pos2 nm) Iw 30 200:=G2 T hT hne R hc1 hc2;have f1:=cB.rc T hT ok gl (n:=12) (cf:=n9) (by decide) (R.pre 12 "_div2n1n" rfl) R.r12 f0 fun ds d e=>FZ rfl e;have f2:=cB.rc T hT ok gl (n:=24) (cf:=gd) (by decide) (R.pre 24 "_divmod_pos" rfl) R.r24 f1 fun ds d e=>Aq rfl rfl rfl e;have f3:=cB.rc T hT ok gl (n:=31) (cf:=oz) (by decide) (R.pre 31 "int_divmod" rfl) R.r31 f2 fun ds d e=>Gv rfl e;have f4:=cB.rc T hT ok gl (n:=31) (cf:=oC) (by decide) (R.pre 31 "int_divmod" rfl) R.r31 f3 fun ds d e=>Gw rfl rfl e;have f5:=cB.rc T hT ok gl (n:=31) (cf:=py) (by decide) (R.pre 31 "int_divmod" rfl) R.r31 f4 fun ds d e=>Gx rfl rfl e;have f6:=cB.rc T hT ok gl (n:=32) (cf:=fun ds=>aV ⟨uk,bB,false⟩ bR ds) (by decide) (R.pre 32 "_ellipsis_match" rfl) R.r32 f5 fun ds d e=>e;have f7:=cB.rc T hT ok gl (n:=40) (cf:=fun ds=>aV ⟨yt,bB,false⟩ dp ds) (by decide) (R.pre 40 "_escape_cdata" rfl) R.r40 f6 fun ds d e=>e;have f8:=cB.rc T hT ok gl (n:=42) (cf:=fun ds=>aV ⟨yu,bB,false⟩ df ds) (by decide) (R.pre 42 "_escape_attrib" rfl) R.r42 f7 fun ds d e=>e;have f9:=cB.rc T hT ok gl (n:=43) (cf:=fun ds=>aV ⟨yv,bB,false⟩ bP ds) (by decide) (R.pre 43 "_escape_attrib_html" rfl) R.r43 f8 fun ds d e=>e;have f10:=cB.rc T hT ok gl (n:=44) (cf:=fun ds=>aV ⟨yw,bB,false⟩ bS ds) (by decide) (R.pre 44 "_escape_cdata_c14n" rfl) R.r44 f9 fun ds d e=>e;have f11:=cB.rc T hT ok gl (n:=45) (cf:=fun ds=>aV ⟨yx,bB,false⟩ bO ds) (by decide) (R.pre 45 "_escape_attrib_c14n" rfl) R.r45 f10 fun ds d e=>e;have f12:=cB.rc T hT ok gl (n:=46) (cf:=fun ds=>aV ⟨ul,bB,false⟩ cT ds) (by decide) (R.pre 46 "_law_written" rfl) R.r46 f11 fun ds d e=>e;exact cB.rc T hT ok gl (n:=48) (cf:=fun ds=>aV ⟨yz,bB,false⟩ dL ds) (by decide) (R.pre 48 "_law_spelled" rfl) R.r48 f12 fun ds d e=>e
set_option tactic.hygienic true in
theorem JI {K U:Nat}{f:Fn}{fa:Addr}{s₁:Shared}{vals:fO}{ds:List D}{dr:D}{Q:ba}{E:ba}{xs:List Str}(hs:s₁.heap=h)(htk:0<s₁.toks)(F:cB (eU prog w h mg mb c1 P1 c2 P2 pos1 pos2 nm) cal K U)(hK:K<=400)(hU:U<=1000)(hr:eW nm p "law" f xs=true)(hmg:mg "law" = some (.ref fa))
  (r:ak w [] h vals ds)(hrun:aV ⟨cal,bB,true⟩ f ds=some dr)(q:∀v s',Ext (eU prog w h mg mb c1 P1 c2 P2 pos1 pos2 nm) s₁ s'->az w [] s'.heap v dr->Q v s'):wpAny (model prog w) callerA (call (.ref fa) vals) Q E s₁:=by
 subst hs;have ok:oQ (eU prog w s₁.heap mg mb c1 P1 c2 P2 pos1 pos2 nm):=zJ T hT hne R;have gl:gY (eU prog w s₁.heap mg mb c1 P1 c2 P2 pos1 pos2 nm) bB:=Eg T hT hne R;obtain⟨a,fd,d,-,hm,Df,hf,hsc⟩:=xz (prog:=prog) (w:=w) (pos1:=pos1) (pos2:=pos2) T hT hr;rw[hmg]at hm;cases hm;have hlim:302+400<recursionLimit:=by decide
 have hcl:4+3+1200<cLine:=by decide
 have hd0:callerA.depth=301:=rfl;have hu0:callerA.units=4:=rfl;have FO:∀env,oP (eU prog w s₁.heap mg mb c1 P1 c2 P2 pos1 pos2 nm) (callerA.deeper env) cal:=fun env=>F.go _ rfl (by show callerA.depth+1+K<_;lia) (by show callerA.units+3+U<_;lia);refine uR (S:=⟨cal,bB,true⟩) ok rfl (by decide) (by decide) (Gq hT) htk (fun _ m=>by cases m) r Df hf FO gl ?_ hrun Q E q;obtain⟨a0,fd0,d0,hd,hm0,Df0,hf0,hsc0⟩:=xz (prog:=prog) (w:=w) (pos1:=pos1) (pos2:=pos2) T hT R.r31;obtain⟨d1,h1,hz⟩:=m5 R.z;rw[hd]at h1;obtain rfl:=aG h1;have hz:=Bx hz;generalize hbody:d0.body=bd at hz Df0 hf0;cases hz;rename_i hz;simp only[eO,beq_iff_eq]at hz;obtain⟨⟨z1,z2⟩,z3⟩:=hz;subst z1;exact Hw (G:=eU prog w s₁.heap mg mb c1 P1 c2 P2 pos1 pos2 nm) (f0:=bL) (k0:=31) (ib:=21) ok rfl (by show callerA.depth+1<_;decide) (by show callerA.units+3+103<_;decide) rfl rfl (fun own hn=>⟨rfl,rfl,fun n=>by rw[hn.1];simp,Df.kind,FO _,gl,rfl,by show callerA.units+3+100<_;decide⟩)
  (R.pre 31 "int_divmod" rfl) hm0 Df0 ((cE ((cE hf0).1)).2) rfl (by decide) rfl rfl (by rw[hsc0];exact z2) (by rw[hsc0];exact z3) (yU T R.nz)
end
theorem B0 (ps:List aN)(g:aN)(hn:2<=ps.length)(hd:∀p∈ps,46∉p)(hok:∀p∈ps,tc p)(hl:ps.length<=100000):ic 32 [aj (be ps),aj g]=some (.bool (Cq ps g)):=GT (S:=⟨uk,bB,false⟩) rfl hn hd hok hl
theorem Ae (x g:aN)(hd:46∉x):ic 32 [aj x,aj g]=some (.bool (x==g)):=D6 (S:=⟨uk,bB,false⟩) rfl hd
theorem B1 (k:Nat)(l:aN)(hk:k<5)(hl:tc l):ic 46 [ae k,aj l]=some (aj (bM (bG (dj k)) l)):=by refine vN (S:=⟨ul,bB,false⟩) hk ?_;exact jJ (P:=fun k=>ul (EW k) [aj l]=some (aj (bM (bG (dj k)) l))) (Be (S:=⟨yt,bB,false⟩) hl) (xD (S:=⟨yu,bB,false⟩) hl) (D7 (S:=⟨yv,bB,false⟩) hl) (vK (S:=⟨yw,bB,false⟩) hl) (tF (S:=⟨yx,bB,false⟩) hl) k hk
theorem B3 (k:Nat)(l:aN)(hk:k<5)(hl:tc l):ic 48 [ae k,aj l]=some (aj (bM (bG (dj k)) l)):=vM (S:=⟨yz,bB,false⟩) hk hl
theorem script_reps {ns:List Int}(r:Reads h (.ref a) (.list (ns.map PyData.int)) as)(hw:Well P h (.ref a) (ofPy (.list (ns.map PyData.int))))(hl:ns.length<=1000):ak w [] h [.ref a] [.list (ns.map PyData.int)]:=by
 have ra:∀{vs:fO}{ns:List Int}{as:a9},ReadsAll h vs (ns.map PyData.int) as->as=[]:=by
  intro vs ns
  induction ns generalizing vs with
  |nil=>intro as x;cases x;rfl
  |cons n ns ih=>intro as x;cases x with|cons x y=>cases x;rw[ih y];rfl
 have so:∀ns:List Int,sokAll (ns.map PyData.int)=true:=fun ns=>sokAll_iff.mpr fun x hx=>by obtain⟨i,_,rfl⟩:=iz hx;rfl
 cases r with
 |list h1 h2 h3 h4 =>
  obtain rfl:=ra h4;have ho:ja w h a:=fun o e=>by
   cases hw with
   |list e1 _ =>
    rw[e1]at e;obtain rfl:=aG e;exact⟨rfl,fun es n q=>by cases q⟩
  refine⟨_, .cons (.list h1 h2 h3 h4) .nil,fun b m=>?_, ?_⟩
  .simp only[List.append_nil,List.mem_cons,List.not_mem_nil,or_false]at m;subst m;exact⟨by simp,ho⟩
  .show(sok (.list (ns.map PyData.int))&&true)=true;rw[Bool.and_true];show(decide ((ns.map PyData.int).length<=16777216)&&sokAll (ns.map PyData.int))=true;rw[so,Bool.and_true,jE,dx];exact qp ‹_› rfl
def viewOf (p:Program):Program:={ p with main:={ p.main with body:=p.main.body.filter fun s=>!(jq s fun t _=>bh t fun x _=>x==("__name__" : Str)) } }
def obs5 (s:Shared):Option Addr × Option Addr × Nat:=(v8 s.heap "_int2digits",v8 s.heap "_digits2int",s.toks)
noncomputable def val5 (P1 P2 t:Nat)(_:World):Option Addr × Option Addr × Nat:=(some P1,some P2,t)
theorem obs_at {s₀ s₁:Shared}{mean:ExcName->Option Value}{mg mb:Str->Option Value}{P1 P2 t:Nat}(y:obs5 s₀=val5 P1 P2 t w)(k:∀b o,s₀.heap.get? b=some o->s₁.heap.get? b=some o)
  (T:Top p loose mean mg mb s₁.heap)(h1:(nJ p "_int2digits").isSome=true) (h2:(nJ p "_digits2int").isSome=true):s₀.toks=t/\∃c1 c2,TabsAt [(c1,P1),(c2,P2)] s₁.heap/\iA mg s₁.heap "_int2digits" c1/\iA mg s₁.heap "_digits2int" c2:=by
 obtain⟨d1,h1⟩:=Option.isSome_iff_exists.mp h1;obtain⟨d2,h2⟩:=Option.isSome_iff_exists.mp h2;have y1:v8 s₀.heap "_int2digits" = some P1:=congrArg Prod.fst y;have y2:v8 s₀.heap "_digits2int" = some P2:=congrArg (fun x=>x.2.1) y;obtain⟨c1,a1,a2,a3⟩:=ED T h1 (rP k y1);obtain⟨c2,b1,b2,b3⟩:=ED T h2 (rP k y2);exact⟨congrArg (fun x=>x.2.2) y,c1,c2,List.forall_mem_cons.mpr ⟨⟨a1,a2⟩,List.forall_mem_cons.mpr ⟨⟨b1,b2⟩,fun _ h=>nomatch h⟩⟩,a3,b3⟩
end
section
variable {S:cU}
theorem KM (a b:Int):eE .Add (.int a) (.int b)=some (.int (a+b)):=rfl
end
section
structure Code (u v:aN):Prop where
 u0:u≠[]
 v0:v≠[]
 p1:¬ u <+: v
 p2:¬ v <+: u
 s1:¬ u <:+ v
 s2:¬ v <:+ u
noncomputable def wd (u v:aN)(x:aB):aN:=x.flatMap fun b=>if b then v else u
theorem bY (u v:aN)(x y:aB):wd u v (x++y)=wd u v x++wd u v y:=by simp[wd]
theorem cJ (u v:aN)(b:Bool)(x:aB):wd u v (b::x)=(if b then v else u)++wd u v x:=by simp[wd]
theorem tS (h0:u≠[]/\v≠[])(h:¬ u <+: v/\¬ v <+: u):∀{x y:aB},wd u v x <+: wd u v y->x <+: y
 |[],y,_=>List.nil_prefix
 |a::x,[],hp=>by
  rw[cJ]at hp;have:=List.prefix_nil.mp (show _ <+: []from hp);have h1:=(List.append_eq_nil_iff.mp this).1;cases a
  .exact absurd h1 h0.1
  .exact absurd h1 h0.2
 |a::x,b::y,hp=>by
  rw[cJ,cJ]at hp;by_cases e:a=b
  .subst e;have:=tS h0 h ((List.prefix_append_right_inj _).mp hp);exact List.cons_prefix_cons.mpr ⟨rfl,this⟩
  .have h1:(if a then v else u) <+: (if b then v else u)++wd u v y:=(List.prefix_append _ _).trans hp;have h2:(if b then v else u) <+: (if b then v else u)++wd u v y:=List.prefix_append _ _;rcases List.prefix_or_prefix_of_prefix h1 h2 with q|q
   .cases a <;> cases b <;> simp at e q
    .exact absurd q h.1
    .exact absurd q h.2
   .cases a <;> cases b <;> simp at e q
    .exact absurd q h.2
    .exact absurd q h.1
theorem tR (h:x <+: y):wd u v x <+: wd u v y:=by obtain⟨r,rfl⟩:=h;rw[bY];exact List.prefix_append _ _
theorem ES (u v:aN)(x:aB):(wd u v x).reverse=wd u.reverse v.reverse x.reverse:=by
 induction x with
 |nil=>rfl
 |cons b x ih =>
  rw[cJ,List.reverse_append,ih,List.reverse_cons,bY]
  congr 1
  cases b <;> simp[wd]
theorem Code.pre (c:Code u v)(x y:aB):(wd u v x).isPrefixOf (wd u v y)=x.isPrefixOf y:=by rw[Bool.eq_iff_iff,List.isPrefixOf_iff_prefix,List.isPrefixOf_iff_prefix];exact⟨tS ⟨c.u0,c.v0⟩ ⟨c.p1,c.p2⟩,tR⟩
theorem Code.suf (c:Code u v)(x y:aB):(wd u v x).isSuffixOf (wd u v y)=x.isSuffixOf y:=by have h:∀{α:Type}(a b:List α),a <:+ b↔a.reverse <+: b.reverse:=fun a b=>List.reverse_prefix.symm;rw[Bool.eq_iff_iff,List.isSuffixOf_iff_suffix,List.isSuffixOf_iff_suffix,h,h,ES,ES];refine⟨tS ⟨by simpa using c.u0,by simpa using c.v0⟩ ⟨fun q=>c.s1 (List.reverse_prefix.mp q),fun q=>c.s2 (List.reverse_prefix.mp q)⟩,tR⟩
theorem zW (c:Code u v)(h:x≠[]):wd u v x≠[]:=by
 cases x with
 |nil=>exact absurd rfl h
 |cons b x =>
  rw[cJ];intro q;have h1:=(List.append_eq_nil_iff.mp q).1;cases b
  .exact c.u0 h1
  .exact c.v0 h1
noncomputable def mk:aB->aB × aB
 |[]=>([false],[true])
 |true::r=>((mk r).1++(mk r).2,(mk r).2)
 |false::r=>((mk r).1,(mk r).1++(mk r).2)
theorem pk (h:s+w.length<=e)(hw:(g.drop s).take w.length=w):eS g w s e=some s:=by
 unfold eS;have:e+1-s=(e-s)+1:=Nat.sub_add_comm (aJ (nr s _) h);rw[this,List.range'_succ,List.find?_cons];have hc:(decide (s+w.length<=e)&&((g.drop s).take w.length==w))=true:=by rw[eO,jE,beq_iff_eq];exact⟨h,hw⟩
 rw[hc]
theorem EQ (h:s<=e):cX g e s [[]]=true:=by show(match eS g [] s e with|some k=>cX g e (k+0) []|none=>false)=true;rw[pk (by simpa using h) (by simp)];rfl
variable {S:cU}
structure Facts (S:cU):Prop where
 c30:S.cal 30=kr
 c26:S.cal 26=kj
 c31:S.cal 31=py
 c32:∀ps g,2<=ps.length->(∀p∈ps,46∉p)->(∀p∈ps,tc p)->ps.length<=100000->S.cal 32 [aj (be ps),aj g]=some (.bool (Cq ps g))
 c320:∀x g,46∉x->S.cal 32 [aj x,aj g]=some (.bool (x==g))
 c46:∀k l,k<5->tc l->S.cal 46 [ae k,aj l]=some (aj (bM (bG (dj k)) l))
 c48:∀k l,k<5->tc l->S.cal 48 [ae k,aj l]=some (aj (bM (bG (dj k)) l))
theorem uD:∀ps:List aN,(ps.intersperse [46,46,46]).flatten=be ps
 |[]=>rfl
 |[p]=>by simp[be]
 |p::q::r=>by have:=uD (q::r);rw[List.intersperse_cons_cons,List.flatten_cons,List.flatten_cons,this];simp[be]
theorem AF (ps:List aN):Txt.join "..." (ps.map tx)=tx (be ps):=by
 refine Str.of_list ?_;rw[vg,kR];have e:("..." : Str).cps.toList=[46,46,46]:=jF;rw[e];show _=(be ps).toArray.toList;rw[List.toList_toArray,<- uD]
 congr 2
 exact(List.map_congr_left fun x _=>by simp).trans (List.map_id ps)
theorem uC:∀{ps:List aN},c∈be ps->c=46\/∃p∈ps,c∈p
 |[],h=>by cases h
 |[p],h=>.inr ⟨p,by simp,h⟩
 |p::q::r,h=>by
  simp only[be,List.mem_append]at h;rcases h with(h|h)|h
  .exact .inr ⟨p,by simp,h⟩
  .simp at h;exact .inl h
  .rcases uC h with h|⟨x,h1,h2⟩
   .exact .inl h
   .exact .inr ⟨x,eh _ h1,h2⟩
theorem uB:∀{ps:List aN}{B:Nat},(∀p∈ps,p.length<=B)->(be ps).length<=ps.length*(B+3)
 |[],_,_=>by simp[be]
 |[p],B,h=>by have:=h p (by simp);simp[be];lia
 |p::q::r,B,h=>by
  have h1:=h p (by simp);have h2:=uB (ps:=q::r) (B:=B) fun x m=>h x (eh _ m);simp only[be,dR,sW,List.length_nil,Nat.add_mul,Nat.one_mul]at h2 ⊢
  lia
theorem lm (h1:ev S ρ e1=some (aj a))(h2:ev S ρ e2=some (aj b))(hl:a.length+b.length<=100000):ev S ρ (.b .Add e1 e2)=some (aj (a++b)):=by
 refine aC h1 h2 ?_;show(if decide ((tx a).length+(tx b).length<=16777216)then some (PyData.str (tx a++tx b))else none)=_;rw[if_pos (dg (by simp[Str.length];exact qp ‹_› rfl))]
 congr 2
 exact Str.of_list (by show(a.toArray++b.toArray).toList=(a++b).toArray.toList;simp)
theorem yM (h1:ev S ρ e1=some (.list a))(h2:ev S ρ e2=some (.list b))(hl:a.length+b.length<=100000):ev S ρ (.b .Add e1 e2)=some (.list (a++b)):=by refine aC h1 h2 ?_;show(if decide (a.length+b.length<=16777216)then some (PyData.list (a++b))else none)=_;rw[if_pos (dg (by exact qp ‹_› rfl))]
theorem oj (h1:ev S ρ e1=some (.list a))(h2:ev S ρ e2=some (ae n))(hn:n<=1000)(hl:a.length<=10000):ev S ρ (.b .Mult e1 e2)=some (.list (List.replicate n a).flatten):=by
 refine aC h1 h2 ?_;show(if decide ((0:Int)<=n)&&decide ((n:Int)<=16777216)&&decide (a.length*((n:Int)).toNat<=16777216)then some (PyData.list (List.replicate ((n:Int)).toNat a).flatten)else none)=_;rw[mY,if_pos];have:a.length*n<=10000*1000:=Nat.mul_le_mul hl hn;simp only[eO,jE]
 lia
theorem CC (h:ev S ρ e=some (.list (ps.map aj)))(hn:ps.length<=100)(hp:∀p∈ps,p.length<=1000/\∀c∈p,c<55296):ev S ρ (.m .join (.l (.str "...")) (.c e .n))=some (aj (be ps)):=by
 refine bi rfl (bi (ah h aw) ?_);have e3:ps.map aj=(ps.map tx).map PyData.str:=by rw[kR];rfl
 rw[e3];show(match gF ((ps.map tx).map PyData.str)with
  |some ts=>if JoinOk "..." ts&&sok (.str (Txt.join "..." ts))then some (PyData.str (Txt.join "..." ts))else none
  |none=>none)=_
 rw[iw];show(if(JoinOk "..." (ps.map tx)&&sok (.str (Txt.join "..." (ps.map tx))))=true then some (PyData.str (Txt.join "..." (ps.map tx)))else none)=_;rw[AF,if_pos];rw[eO];refine⟨?_,jz ?_ fun c hc=>?_⟩
 .unfold JoinOk;rw[PySem.StrLaws.joinFits (B:=1000)]
  .rfl
  .intro y hy;obtain⟨p,hp',rfl⟩:=iz hy;have:=(hp p hp').1
   simpa [Str.length]using this
  .have:(("..." : Str).length)=3:=gu;rw[this,dx];have:=oG 1000 hn
   lia
 .have:=uB (ps:=ps) (B:=1000) fun p m=>(hp p m).1;have:=oG 1003 hn
  lia
 .rcases uC hc with rfl|⟨p,h1,h2⟩
  .decide
  .exact(hp p h1).2 c h2
end
section
variable {S:cU}
noncomputable def iT (v:Option Nat)(d n:Nat):Nat:=match v with|none=>d|some i=>min i n
theorem wy (lo hi:Option Nat)(n:Nat):sliceBounds (lo.map (fun i:Nat=>(i:Int))) (hi.map (fun i:Nat=>(i:Int))) none n=(((iT lo 0 n:Nat):Int),((iT hi n n:Nat):Int),(1:Int)):=by
 have c:∀i:Nat,(if((i:Int))<0 then(i:Int)+n else i)=i:=fun i=>if_neg (by lia)
 delta sliceBounds iT
 cases lo <;> cases hi <;> simp only[Option.map_none,Option.map_some,Option.getD_none,show(1:Int) > 0 by decide,if_true,c,Prod.mk.injEq,and_true] <;> first|(constructor <;> lia)|lia|rfl
theorem yG (xs:List α)(lo hi:Option Nat):nN xs (lo.map (fun i:Nat=>(i:Int))) (hi.map (fun i:Nat=>(i:Int))) none=(xs.drop (iT lo 0 xs.length)).take (iT hi xs.length xs.length-iT lo 0 xs.length):=by
 delta nN
 rw[wy];dsimp only;rw[sliceRange_one];have h:iT hi xs.length xs.length<=xs.length:=by delta iT;cases hi <;> simp <;> lia
 have h2:iT lo 0 xs.length<=xs.length:=by delta iT;cases lo <;> simp <;> lia
 exact PySem.StrLaws.picks xs _ _ (by lia)
noncomputable abbrev D3:aN:=[46,46,46]
theorem F0:("..." : Str)=tx D3:=Str.of_list jF
theorem Ja:ev S ρ (.l (.str "..."))=some (aj D3):=congrArg (fun x=>some (PyData.str x)) F0
theorem re:∀ns:aN,jj (ns.map ae)=some (ns.map fun n:Nat=>(n:Int))
 |[]=>rfl
 |n::ns=>by have e:jj ((n::ns).map ae)=(jj (ns.map ae)).map ((n:Int) :: ·):=rfl;rw[e,re ns];rfl
theorem v7:∀ns:aN,(ns.map fun n:Nat=>(n:Int)).sum=((ns.sum:Nat):Int)
 |[]=>rfl
 |n::ns=>by rw[i8,List.sum_cons,v7 ns,List.sum_cons];norm_cast
theorem Ba {n:Nat}(h:n<=16777216):d8 0 (n:Int) 1=some ((List.range n).map ae):=by
 unfold d8;rw[if_pos]
 .have:((n:Int)-0+1-1) / 1=n:=by lia
  rw[this,mY]
  congr 1
  refine List.map_congr_left fun k _=>?_;show PyData.int (0+(k:Int)*1)=PyData.int k;rw[Int.zero_add,Int.mul_one]
 .simp only[eO,jE]
  lia
theorem mJ {e:E}{n:Nat}(h:ev S ρ e=some (ae n))(hn:n<=16777216):dk S ρ (.r (.c e .n))=some ((List.range n).map ae):=by have e1:dk S ρ (.r (.c e .n))=(mK S ρ (.c e .n)).bind oi:=rfl;rw[e1,ah h aw];exact Ba hn
theorem CE (h:ev S ρ e=some (.list ds)):ev S ρ (.f .len (.c e .n))=some (ae ds.length):=bi (ah h aw) rfl
theorem yN (h:ev S ρ e=some (aj l)):ev S ρ (.f .len (.c e .n))=some (ae l.length):=bi (ah h aw) rfl
theorem dT (h:0<b):eE .Mod (ae a) (ae b)=some (ae (a % b)):=by
 show(if(b:Int) != 0 then some (PyData.int ((a:Int).fmod b))else none)=_;rw[if_pos (by simpa using(by exact Nat.ne_of_gt ‹_›:b≠0)),Int.fmod_eq_emod_of_nonneg _ (Int.natCast_nonneg _)]
 norm_cast
theorem ia (h:0<b)(h2:b<2^60):eE .FloorDiv (ae a) (ae b)=some (ae (a / b)):=by
 show(if(b:Int) != 0&&decide ((b:Int).natAbs.log2<9000)then some (PyData.int ((a:Int).fdiv b))else none)=_;rw[if_pos,Int.fdiv_eq_ediv_of_nonneg _ (Int.natCast_nonneg _)]
 .norm_cast
 .have:b.log2<60:=(Nat.log2_lt (by exact Nat.ne_of_gt ‹_›)).mpr h2;rw[Int.natAbs_natCast];simp only[eO,jE,bne_iff_ne]
  lia
theorem bk (ha:ev S ρ a=some x)(hi:ev S ρ i=some y)(h:jf x y=some d):ev S ρ (.s a i)=some d:=bi ha (bi hi h)
theorem hH (h:xs[i]?=some d):jf (.list xs) (ae i)=some d:=by
 have hi:i<xs.length:=by
  rcases Nat.lt_or_ge i xs.length with q|q
  .exact q
  .rw[Dm q]at h;exact nn h
 show(seqIndex? (i:Int) xs.length).bind (xs[·]?)=_;have e:seqIndex? (i:Int) xs.length=some i:=by
  unfold seqIndex?;have c:¬ ((i:Int)<0):=by lia
  rw[if_neg c];simp;assumption
 rw[e];exact h
theorem ll (hc:evT S ρ c=some t)(h:(if t then ev S ρ a else ev S ρ b)=some d):ev S ρ (.e c a b)=some d:=bi hc (by cases t <;> exact h)
theorem fU (h:ev S ρ e=some d):CH S ρ (.y e)=some (some d):=bi h rfl
theorem fQ:CH S ρ .n=some none:=rfl
theorem oo (h:ev S ρ a=some (.int i)):ev S ρ (.n a)=some (.int (-i)):=bi h rfl
theorem iE {lo hi st:Os}{x d:D}{l h t:Option D}(ha:ev S ρ a=some x)(h1:CH S ρ lo=some l)(h2:CH S ρ hi=some h)(h3:CH S ρ st=some t)(e:fS x l h t=some d):ev S ρ (.a a lo hi st)=some d:=bi ha (bi h1 (bi h2 (bi h3 e)))
theorem sG (h:mK S ρ es=some ds)(hb:As f ds=some d):ev S ρ (.f f es)=some d:=bi h hb
theorem uq (h:gc 8 x=true)(he:PyData.eqv x x=true):bH .NotEq x x=some (.bool false):=by show(if gc 8 x&&gc 8 x then some (PyData.bool (!PyData.eqv x x))else none)=_;rw[h,he];rfl
theorem Ca (l:aN):bH .NotEq (aj l) (aj l)=some (.bool false):=uq rfl (by show(tx l==tx l)=true;simp)
theorem FT (f:α->β)(xs:List α)(lo hi st:Option Int):nN (xs.map f) lo hi st=(nN xs lo hi st).map f:=by
 unfold nN;rw[dx,List.map_filterMap]
 congr 1
 funext i
 simp
theorem q6:∀xs:List Int,jj (xs.map PyData.int)=some xs
 |[]=>rfl
 |x::xs=>by have e:jj ((x::xs).map PyData.int)=(jj (xs.map PyData.int)).map (x :: ·):=rfl;rw[e,q6 xs];rfl
def Sm (n:Nat)(a:Int):Prop:=a.natAbs<2^n
theorem Sm.ib (h:Sm n a):ib a<=n:=by have:Internal.ib a<=Internal.ib ((a.natAbs:Nat):Int):=yZ (by rw[Int.natAbs_natCast];exact fc _);exact aJ this (qZ h)
theorem Sm.mono (h:Sm n a)(hm:n<=m):Sm m a:=kS h (Nat.pow_le_pow_right (by decide) hm)
theorem CY (hb:b≠0)(ha:Sm 20000 a)(hb2:Sm 4000 b):py [.int a, .int b]=some (iW a b):=by show(if b≠0/\bd a b then some (iW a b)else none)=_;rw[if_pos ⟨hb,by have:=ha.ib;exact qp ‹_› rfl,hb2.ib⟩]
noncomputable def Cb (u v:aN):Bool:=!u.isEmpty&&!v.isEmpty&&!u.isPrefixOf v&&!v.isPrefixOf u&&!u.isSuffixOf v&&!v.isSuffixOf u
theorem Cc (h:Cb u v=true):Code u v:=by
 unfold Cb at h;simp only[eO,Bool.not_eq_true']at h;obtain⟨⟨⟨⟨⟨h1,h2⟩,h3⟩,h4⟩,h5⟩,h6⟩:=h;have np:∀{a b:aN},a.isPrefixOf b=false->¬ a <+: b:=fun{a b} h q=>by rw[List.isPrefixOf_iff_prefix.mpr q]at h;cases h
 have ns:∀{a b:aN},a.isSuffixOf b=false->¬ a <:+ b:=fun{a b} h q=>by rw[List.isSuffixOf_iff_suffix.mpr q]at h;cases h
 exact⟨(fun e=>by rw[e]at h1;cases h1),(fun e=>by rw[e]at h2;cases h2),np h3,np h4,ns h5,ns h6⟩
theorem ki (hu:u≠[])(hv:v≠[])(h:∀c∈u,c∉v):Code u v:=by
 have g:∀{a b:aN},a≠[]->(∀c∈a,c∉b)->(∀c∈a,c∈b)->False:=fun{a b} ha h1 h2=>by
  cases a with
  |nil=>exact ha rfl
  |cons c r=>exact h1 c dX (h2 c dX)
 have h':∀c∈v,c∉u:=fun c hc hc'=>h c hc' hc;exact⟨hu,hv,fun q=>g hu h fun c m=>q.subset m,fun q=>g hv h' fun c m=>q.subset m,fun q=>g hu h fun c m=>q.subset m,fun q=>g hv h' fun c m=>q.subset m⟩
noncomputable def qD (x:Nat):aN:=[38,60,62,34,13,10,9,x]
abbrev wr (k c:Nat):aN:=fe (bG (dj k)) c
noncomputable def fv:aN:=[38,60,62,34,13,10,9]
theorem Ds:((List.range 5).all fun k=>(List.range 7).all fun i=>(List.range 7).all fun j=>i==j || Cb (wr k (fv.getD i 0)) (wr k (fv.getD j 0)))=true:=by decide +kernel
theorem AM:((List.range 5).all fun k=>fv.all fun c=>!(wr k c).isEmpty&&(wr k c).all fun z=>decide (z<192)&&z != 46)=true:=by decide +kernel
theorem Dg:((List.range 5).all fun k=>(bG (dj k)).all fun p=>decide (p.1<192))=true:=by decide +kernel
theorem lW (hk:k<5)(hx:192<=x):wr k x=[x]:=by
 have h:=br (br Dg k (List.mem_range.mpr hk));unfold wr fe;have:(bG (dj k)).lookup x=none:=by
  rw[List.lookup_eq_none_iff];intro p hp;have:=bJ (h p hp);simp only[bne_iff_ne]
  lia
 rw[this];rfl
theorem tT (hk:k<5)(hc:c∈fv):wr k c≠[]/\∀z∈wr k c,z<192/\z≠46:=by have h:=br (br AM k (List.mem_range.mpr hk)) c hc;simp only[eO,Bool.not_eq_true',List.all_eq_true,jE,bne_iff_ne]at h;exact⟨fun e=>by rw[e]at h;simp at h,fun z hz=>h.2 z hz⟩
theorem NQ:∀i:Nat,i<7->i=0\/i=1\/i=2\/i=3\/i=4\/i=5\/i=6:=by decide
theorem Nf:∀i:Nat,i<8->i=0\/i=1\/i=2\/i=3\/i=4\/i=5\/i=6\/i=7:=by decide
theorem vS (hk:k<5)(hx:192<=x)(hi:i<8)(hj:j<8)(hij:i≠j):Code (wr k ((qD x).getD i 0)) (wr k ((qD x).getD j 0)):=by
 have lowD:∀{i:Nat},i<7->(qD x).getD i 0=fv.getD i 0/\fv.getD i 0∈fv:=fun{i} h=>by have:=NQ i h;rcases this with rfl|rfl|rfl|rfl|rfl|rfl|rfl <;> exact⟨rfl,by decide⟩
 have h7:(qD x).getD 7 0=x:=rfl;by_cases ci:i=7
 .subst ci;obtain⟨e,m⟩:=lowD (i:=j) (by lia);rw[h7,e,lW hk hx];obtain⟨n0,n1⟩:=tT hk m;exact ki (by simp) n0 fun c hc hc2=>by have:=(n1 c hc2).1;simp at hc;lia
 .by_cases cj:j=7
  .subst cj;obtain⟨e,m⟩:=lowD (i:=i) (by lia);rw[h7,e,lW hk hx];obtain⟨n0,n1⟩:=tT hk m;exact ki n0 (by simp) fun c hc hc2=>by have:=(n1 c hc).1;simp at hc2;lia
  .rw[(lowD (i:=i) (by lia)).1,(lowD (i:=j) (by lia)).1];have h:=br (br (br Ds k (List.mem_range.mpr hk)) i (List.mem_range.mpr (by lia))) j (List.mem_range.mpr (by lia));rw[Bool.or_eq_true]at h;rcases h with h|h
   .exact absurd (by simpa using h) hij
   .exact Cc h
theorem zG (hk:k<5)(hx:192<=x)(hi:i<8):46∉wr k ((qD x).getD i 0):=by
 by_cases ci:i=7
 .subst ci;show 46∉wr k x;rw[lW hk hx];simp;lia
 .have:=NQ i (Nat.lt_of_le_of_ne (Nat.le_of_lt_succ hi) ci);intro m;have hm:(qD x).getD i 0∈fv:=by rcases this with rfl|rfl|rfl|rfl|rfl|rfl|rfl <;> first|exact(show(38:Nat)∈fv by decide)|exact(show(60:Nat)∈fv by decide)|exact(show(62:Nat)∈fv by decide)|exact(show(34:Nat)∈fv by decide)|exact(show(13:Nat)∈fv by decide)|exact(show(10:Nat)∈fv by decide)|exact(show(9:Nat)∈fv by decide)
  exact((tT hk hm).2 _ m).2 rfl
theorem rH (hx:x<55296)(hi:i<8):(qD x).getD i 0<55296:=by have:=Nf i hi;rcases this with rfl|rfl|rfl|rfl|rfl|rfl|rfl|rfl <;> first|exact hx|exact(show(38:Nat)<55296 by decide)|exact(show(60:Nat)<55296 by decide)|exact(show(62:Nat)<55296 by decide)|exact(show(34:Nat)<55296 by decide)|exact(show(13:Nat)<55296 by decide)|exact(show(10:Nat)<55296 by decide)|exact(show(9:Nat)<55296 by decide)
theorem zH (hi:i<8):((qD x).map fun c=>aj [c])[i]?=some (aj [(qD x).getD i 0]):=by have:=Nf i hi;rcases this with rfl|rfl|rfl|rfl|rfl|rfl|rfl|rfl <;> rfl
theorem mG (T:List (Nat × aN))(c d:Nat)(x:aB):bM T (wd [c] [d] x)=wd (fe T c) (fe T d) x:=by
 induction x with
 |nil=>rfl
 |cons b x ih =>
  rw[cJ,cJ,uG,ih]
  congr 1
  cases b <;> simp[bM]
theorem ya (c d:Nat)(x:aB):(wd [c] [d] x).length=x.length:=by
 induction x with
 |nil=>rfl
 |cons b x ih =>
  rw[cJ,dR,ih];cases b <;> simp <;> lia
theorem ER (h:z∈wd u v x):z∈u\/z∈v:=by
 induction x with
 |nil=>cases h
 |cons b x ih =>
  rw[cJ,List.mem_append]at h;rcases h with h|h
  .cases b
   .exact .inl h
   .exact .inr h
  .exact ih h
end
end Internal
section
set_option exponentiation.threshold 1000
namespace Internal
variable {S:cU}
structure fN (k cu cv:Nat):Prop where
 hk:k<5
 hu:cu<55296
 hv:cv<55296
 code:Code (wr k cu) (wr k cv)
 du:46∉wr k cu
 dv:46∉wr k cv
abbrev tw (cu cv:Nat)(x:aB):aN:=wd [cu] [cv] x
abbrev ww (k cu cv:Nat)(x:aB):aN:=wd (wr k cu) (wr k cv) x
theorem GH:((List.range 5).all fun k=>DJ (bG (dj k)))=true:=by decide +kernel
theorem xe (hk:k<5):DJ (bG (dj k))=true:=br GH k (List.mem_range.mpr hk)
section
variable {k cu cv m:Nat}(Q:fN k cu cv)
include Q
theorem fN.ok (h:x.length<=10000):tc (tw cu cv x):=⟨by rw[ya];exact aJ h (by decide),fun c hc=>by
 rcases ER hc with q|q
 .rw[aS q];exact Q.hu
 .rw[aS q];exact Q.hv⟩
theorem fN.len (h:x.length<=1000):(ww k cu cv x).length<=6*x.length:=by have:=(iD (xe Q.hk) (Q.ok (aJ h (by decide))).2).1;rw[mG,ya]at this;exact this
theorem fN.dot (x:aB):46∉ww k cu cv x:=fun h=>(ER h).elim Q.du Q.dv
theorem fN.ne (h:x≠[]):ww k cu cv x≠[]:=zW Q.code h
end
end Internal
end
namespace Internal
section
abbrev Wt:Type:=aB × aB
theorem CO (h:eS g w s e=some k):s<=k/\k+w.length<=e:=by unfold eS at h;have h1:=List.find?_some h;have h2:=List.mem_range'_1.mp (List.mem_of_find?_eq_some h);simp only[eO,jE]at h1;exact⟨h2.1,h1.1⟩
theorem rS:∀(ms:List aN)(s:Nat),s<=e->cX g e s (ms++[[]])=cX g e s ms
 |[],s,h=>EQ h
 |w::ms,s,h=>by
  show(match eS g w s e with|some k=>cX g e (k+w.length) (ms++[[]])|none=>false)=(match eS g w s e with|some k=>cX g e (k+w.length) ms|none=>false);cases c:eS g w s e with
  |none=>rfl
  |some k=>exact rS ms _ (CO c).2
theorem xZ (h:s<=e):cX g e s ([]::ms)=cX g e s ms:=by show(match eS g [] s e with|some k=>cX g e (k+0) ms|none=>false)=_;rw[pk (by simpa using h) (by simp)];rfl
theorem AG:(ms++[q]).getLastD []=q:=by rw[List.getLastD_eq_getLast?,List.getLast?_concat];rfl
theorem qQ:qu g s (ms++[q])=(q.isSuffixOf g&&decide (s+q.length<=g.length)&&cX g (g.length-q.length) s ms):=by
 unfold qu;rw[AG];by_cases hq:q=[]
 .subst hq;rw[if_pos rfl];have e1:([]:aN).isSuffixOf g=true:=List.isSuffixOf_iff_suffix.mpr List.nil_suffix;rw[e1,Bool.true_and];by_cases c:g.length<s
  .rw[if_pos c,cG (by simp;assumption),Bool.false_and]
  .rw[if_neg c,dg (by simp;lia),Bool.true_and,rS ms s (by lia)];rfl
 .rw[if_neg hq];cases c:q.isSuffixOf g with
  |false=>simp
  |true =>
   have hl:=(List.isSuffixOf_iff_suffix.mp c).length_le;rw[if_pos rfl,Bool.true_and,List.dropLast_concat];by_cases c2:g.length-q.length<s
   .rw[if_pos c2,cG (by lia),Bool.false_and]
   .rw[if_neg c2,dg (by lia),Bool.true_and]
theorem wI:Cq (p::(ms++[q])) g=(p.isPrefixOf g&&q.isSuffixOf g&&decide (p.length+q.length<=g.length)&&cX g (g.length-q.length) p.length ms):=by
 show(if p=[]then qu g 0 (([]:List aN)++p::(ms++[q]))else if p.isPrefixOf g then qu g p.length (ms++[q])else false)=_;by_cases hp:p=[]
 .subst hp;have e1:([]:aN).isPrefixOf g=true:=List.isPrefixOf_iff_prefix.mpr List.nil_prefix;have e2:([]:List aN)++[]::(ms++[q])=([]::ms)++[q]:=rfl;rw[if_pos rfl,e1,Bool.true_and,e2,qQ,List.length_nil];rw[xZ (gL _)]
 .rw[if_neg hp];cases c:p.isPrefixOf g with
  |false=>simp
  |true=>rw[if_pos rfl,Bool.true_and,qQ]
theorem Code.inj (c:Code u v):wd u v x=wd u v y↔x=y:=by
 constructor
 .intro h;have h1:x.isPrefixOf y=true:=by rw[<- c.pre,h];exact List.isPrefixOf_iff_prefix.mpr (List.prefix_refl _)
  have h2:y.isPrefixOf x=true:=by rw[<- c.pre,h];exact List.isPrefixOf_iff_prefix.mpr (List.prefix_refl _)
  have h1:=List.isPrefixOf_iff_prefix.mp h1;have h2:=List.isPrefixOf_iff_prefix.mp h2;exact h1.eq_of_length (Nat.le_antisymm h1.length_le h2.length_le)
 .rintro rfl;rfl
variable {S:cU}{cu cv:Nat}
theorem ft:∀{l:List α},(∀a∈l,f (i a)=some (if p a then[g a]else[]))->ef f (l.map i)=some ((l.filter p).map g)
 |[],_=>rfl
 |a::l,h=>by
  refine bi (h a dX) (bi (ft fun b m=>h b (eh _ m)) ?_);rw[List.filter_cons];by_cases hp:p a=true
  .rw[if_pos hp,if_pos hp];rfl
  .rw[if_neg hp,if_neg hp];rfl
theorem lk {l:List α}(hs:dk S ρ src=some (l.map i))
  (h:∀a∈l,∃ρ',bx (ρ.del (tg++[])) tg (i a)=some ρ'/\evT S ρ' c=some (p a)/\(p a=true->ev S ρ' elt=some (g a))) (hz:(!dC src || cD ((l.filter p).map g))=true:=by rfl):ev S ρ (.p elt (.c tg src (.c c .n) .n))=some (.list ((l.filter p).map g)):=by
 refine bi (x:=(l.filter p).map g) (bi hs (ft fun a m=>?_)) (if_pos (show(true&&(!dC src || cD ((l.filter p).map g)))=true from hz));obtain⟨ρ',h1,h2,h3⟩:=h a m;refine bi h1 (bi (x:=p a) (bi h2 (by cases p a <;> rfl)) ?_);cases hp:p a with
 |false=>rfl
 |true =>
  show(ev S ρ' elt).map (fun d=>[d])=_;rw[h3 hp];rfl
theorem cH {l:List α}(hs:dk S ρ src=some (l.map i))
  (h:∀a∈l,∃ρ',bx (ρ.del (tg++[])) tg (i a)=some ρ'/\ev S ρ' elt=some (g a)) (hz:(!dC src || cD (l.map g))=true:=by rfl):ev S ρ (.p elt (.c tg src .n .n))=some (.list (l.map g)):=by
 have key:ef (fun it=>(bx (ρ.del (tg++[])) tg it).bind fun ρ'=>(ie S ρ' .And .n).bind fun b=>bif b then le S ρ' ρ' (fun ρ'=>ev S ρ' elt) .n else some []) (l.map i)=some ((l.filter fun _=>true).map g):=ft fun a m=>by obtain⟨ρ',h1,h2⟩:=h a m;refine bi h1 (bi (x:=true) rfl ?_);show(ev S ρ' elt).map (fun d=>[d])=_;rw[h2];rfl
 rw[List.filter_eq_self.mpr fun _ _=>rfl]at key;exact bi (x:=l.map g) (bi hs key) (if_pos (show(true&&(!dC src || cD (l.map g)))=true from hz))
abbrev t9 (cu cv:Nat)(w:Wt):D:=.tuple [aj (tw cu cv w.1),aj (tw cu cv w.2)]
theorem xX (x y:aN):((tx x:Str)==tx y)=(x==y):=by rw[Bool.eq_iff_iff,beq_iff_eq,beq_iff_eq];exact⟨fun h=>by have:=congrArg (fun s:Str=>s.cps.toList) h;simpa using this,fun h=>by rw[h]⟩
theorem sB (x y:aN):PyData.eqv (aj x) (aj y)=(x==y):=by rw[<- xX];rfl
theorem DR (h:cu≠cv):Code [cu] [cv]:=ki (List.cons_ne_nil _ _) (List.cons_ne_nil _ _) fun c m m'=>h ((aS m).symm.trans (aS m'))
theorem kP (h:cu≠cv)(x y:aB):(tw cu cv x==tw cu cv y)=(x==y):=by rw[Bool.eq_iff_iff,beq_iff_eq,beq_iff_eq];exact(DR h).inj
theorem gI (x:aB):(tw cu cv x).length=x.length:=by rw[ya]
theorem sw {ρ:aF}(h:n≠k)(g:ρ.get n=some d):(ρ.del ([k]++[])).get n=some d:=by
 rw[aF.get_del,if_neg]
 .exact g
 .simpa using h
theorem db {ρ:aF}(h:n≠k)(g:ρ.get n=some d):(ρ.set k e).get n=some d:=by rw[aF.get_set,if_neg h];exact g
theorem an {ρ:aF}:(ρ.set n d).get n=some d:=by rw[aF.get_set,if_pos rfl]
theorem cm {ρ:aF}(h:Nat.beq n k=false)(g:ρ.get n=some d):(ρ.set k e).get n=some d:=db (Nat.ne_of_beq_eq_false h) g
theorem nj {ρ:aF}(h:Nat.beq n k=false)(g:ρ.get n=some d):(ρ.del ([k]++[])).get n=some d:=sw (Nat.ne_of_beq_eq_false h) g
theorem iq (g:ρ.get 58=some (aj [cu,cv])):dk S ρ (.e (.v 58))=some ([false,true].map fun s=>aj (tw cu cv [s])):=bi (aa g) rfl
theorem jg (h:evT S ρ c=some true)(h':dP S ρ a=o):ex S ρ (.i c a b)=o:=aW h h'
theorem ct (h:evT S ρ c=some false)(h':dP S ρ b=o):ex S ρ (.i c a b)=o:=aW h h'
theorem dW (h1:ev S ρ e1=some a)(h2:ev S ρ e2=some b):ev S ρ (.t (.c e1 (.c e2 .n)))=some (.tuple [a,b]):=sL (ah h1 (ah h2 aw)) (oF rfl)
end
section
variable {S:cU}{cu cv:Nat}
theorem Cf (xs:List α)(a:Nat):nN xs none (some (a:Int)) none=xs.take a:=by
 have:=yG xs none (some a);simp only[Option.map_some,Option.map_none,iT]at this;rw[this,List.drop_zero,Nat.sub_zero];rcases Nat.le_total a xs.length with h|h
 .rw[Nat.min_eq_left h]
 .rw[Nat.min_eq_right h,List.take_of_length_le (fc _),List.take_of_length_le h]
theorem Ce (xs:List α)(a:Nat):nN xs (some (a:Int)) none none=xs.drop a:=by
 have:=yG xs (some a) none;simp only[Option.map_some,Option.map_none,iT]at this;rw[this];rcases Nat.le_total a xs.length with h|h
 .rw[Nat.min_eq_left h,List.take_of_length_le (by rw[List.length_drop];exact fc _)]
 .rw[Nat.min_eq_right h,List.drop_of_length_le (fc _),List.drop_of_length_le h];simp
theorem El:fS (aj l) none (some (ae a)) none=some (aj (l.take a)):=by show some (PyData.str ⟨(nN l none (some (a:Int)) none).toArray⟩)=_;rw[Cf]
theorem Ek:fS (aj l) (some (ae a)) none none=some (aj (l.drop a)):=by show some (PyData.str ⟨(nN l (some (a:Int)) none none).toArray⟩)=_;rw[Ce]
theorem zT (x:aB)(n:Nat):(tw cu cv x).take n=tw cu cv (x.take n):=by
 induction x generalizing n with
 |nil=>simp[wd]
 |cons b x ih =>
  cases n with
  |zero=>rfl
  |succ n =>
   show List.take (n+1) (wd [cu] [cv] (b::x))=wd [cu] [cv] (b::x.take n);have ih':List.take n (wd [cu] [cv] x)=wd [cu] [cv] (x.take n):=ih n;rw[cJ,cJ,<- ih'];cases b <;> rfl
theorem zS (x:aB)(n:Nat):(tw cu cv x).drop n=tw cu cv (x.drop n):=by
 induction x generalizing n with
 |nil=>simp[wd]
 |cons b x ih =>
  cases n with
  |zero=>rfl
  |succ n =>
   show List.drop (n+1) (wd [cu] [cv] (b::x))=wd [cu] [cv] (x.drop n);have ih':List.drop n (wd [cu] [cv] x)=wd [cu] [cv] (x.drop n):=ih n;rw[cJ,<- ih'];cases b <;> rfl
theorem ln (a b:Nat):eE .Add (ae a) (ae b)=some (ae (a+b)):=eF a b
end
section
variable {S:cU}{k cu cv:Nat}
section
variable (Q:fN k cu cv)
include Q
theorem fN.okw (h:x.length<=150):tc (ww k cu cv x):=by have:=iD (xe Q.hk) (Q.ok (x:=x) (by exact qp ‹_› rfl)).2;rw[mG]at this;have h2:(ww k cu cv x).length<=6*(tw cu cv x).length:=this.1;rw[gI]at h2;exact⟨by lia,this.2⟩
theorem fN.written (F:Facts S)(h:x.length<=150):S.cal 46 [ae k,aj (tw cu cv x)]=some (aj (ww k cu cv x)):=by rw[F.c46 k _ Q.hk (Q.ok (by exact qp ‹_› rfl)),mG]
theorem fN.spelled (F:Facts S)(h:x.length<=150):S.cal 48 [ae k,aj (tw cu cv x)]=some (aj (ww k cu cv x)):=by rw[F.c48 k _ Q.hk (Q.ok (by exact qp ‹_› rfl)),mG]
end
theorem IB (x y:aN):bH .Eq (aj x) (aj y)=some (.bool (x==y)):=by show(if gc 8 (aj x)&&gc 8 (aj y)then some (PyData.bool (PyData.eqv (aj x) (aj y)))else none)=_;rw[if_pos (by rfl),sB]
abbrev a6 (cu cv:Nat)(E:List aB):D:=.list (E.map fun t=>aj (tw cu cv t))
theorem fN.code_ne (Q:fN k cu cv):cu≠cv:=fun e=>by
 have h:ww k cu cv [false]=ww k cu cv [true]:=by subst e;rfl
 exact absurd (Q.code.inj.mp h) (by decide)
end
end Internal
section
namespace Internal
variable {S:cU}
open PySem.StrLaws in
theorem nh:∀{cuts:aN}{a f:Nat},ChainG x ⟨#[c]⟩ x.length a cuts f->(∀k,f<=k->¬ At x ⟨#[c]⟩ x.length k)->a<=x.length->(x.cps.toList.drop a).count c=cuts.length
 |[],a,f,h,hn,ha=>by have e:f=a:=h;subst e;have:=part_free x c f x.length (fc _) fun k h1 _=>hn k h1;rw[strSub_toList]at this;rw[List.take_of_length_le (by rw[List.length_drop];simp[Str.length])]at this;exact List.count_eq_zero.mpr this
 |d::r,a,f,h,hn,ha=>by
  obtain⟨h1,h2,h3,h4⟩:=h;have hd:d+1<=x.length:=h2.1;have g:=(subAt_one x c d).mp h2;have free:=part_free x c a d (by exact il ‹_›) h3;rw[strSub_toList]at free;have ih:=nh h4 hn hd;have e1:x.cps.toList.drop a=(x.cps.toList.drop a).take (d-a)++x.cps.toList.drop d:=by
   have:=(List.take_append_drop (d-a) (x.cps.toList.drop a)).symm;rw[List.drop_drop]at this;have e:a+(d-a)=d:=by lia
   rw[e]at this;exact this
  have e2:x.cps.toList.drop d=c::x.cps.toList.drop (d+1):=by obtain⟨hlt,hv⟩:=List.getElem?_eq_some_iff.mp g;rw[List.drop_eq_getElem_cons hlt,hv]
  rw[e1,List.count_append,List.count_eq_zero.mpr free,e2,List.count_cons_self];have e3:(x.cps.toList.drop (d+1)).count c=r.length:=ih;rw[e3,sW];lia
open PySem.StrLaws in
theorem Al (x:Str)(c:Nat):Txt.count x ⟨#[c]⟩=((x.cps.toList.count c:Nat):Int):=by obtain⟨f,h1,h2⟩:=occ_tight x ⟨#[c]⟩ (fc 1);have:=nh h1 h2 (gL _);rw[List.drop_zero]at this;rw[this];rfl
theorem vu (l:aN)(c:Nat):lg .count (aj l) [aj [c]]=some (ae (l.count c)):=by show some (PyData.int (Txt.count (tx l) ⟨#[c]⟩))=_;rw[Al]
theorem sJ (h:ev S ρ o=some x)(hs:mK S ρ args=some ds)(e:lg m x ds=some d):ev S ρ (.m m o args)=some d:=bi h (bi hs e)
theorem zz {a k:Nat}(h:ib (a:Int)*k<=134217728):eE .Pow (ae a) (ae k)=some (ae (a^k)):=by
 show(if decide (0<=(k:Int))&&decide ((ib (a:Int):Int)*(k:Int)<=2^27)then some (PyData.int ((a:Int)^((k:Int)).toNat))else none)=_;have e:((ib (a:Int):Nat):Int)*(k:Int)=((ib (a:Int)*k:Nat):Int):=by rw[Int.natCast_mul]
 have e27:(2:Int)^27=134217728:=by decide
 rw[e,e27,if_pos (by simp only[eO,jE];lia),mY,<- Int.natCast_pow]
theorem yP (ns:aN):As .sum [.list (ns.map ae)]=some (ae ns.sum):=by show(jj (ns.map ae)).map (fun ns=>PyData.int ns.sum)=_;rw[re];show some (PyData.int (ns.map fun n:Nat=>(n:Int)).sum)=_;rw[v7]
noncomputable abbrev HI (b sc kk:Nat)(st:Int):E:=.b .Mod (.b .Add (.v b) (.f .sum (.c (.a (.v sc) (.y (.v kk)) (.y (.l (.int 60))) (.y (.l (.int st)))) .n))) (.b .Pow (.l (.int 10)) (.l (.int 9)))
def kY (xs:List Int)(st b:Int)(k:Nat):Nat:=((b+(nN xs (some (k:Int)) (some 60) (some st)).sum).fmod 1000000000).toNat
theorem No:eE .Pow (.int 10) (.int 9)=some (.int 1000000000):=by rfl
theorem CA {xs:List Int}{ρ:aF}{st bv:Int}{kv:Nat}(hst:st≠0)(gb:ρ.get b=some (.int bv))(gs:ρ.get sc=some (.list (xs.map PyData.int)))(gk:ρ.get kk=some (ae kv)):ev S ρ (HI b sc kk st)=some (ae (kY xs st bv kv)):=by
 have hs:ev S ρ (.a (.v sc) (.y (.v kk)) (.y (.l (.int 60))) (.y (.l (.int st))))=some (.list ((nN xs (some (kv:Int)) (some 60) (some st)).map PyData.int)):=by refine iE (aa gs) (fU (aa gk)) (fU ar) (fU ar) ?_;show(if some st=some 0 then none else some (PyData.list (nN (xs.map PyData.int) (some (kv:Int)) (some 60) (some st))))=_;rw[if_neg (fun e=>hst (aG e)),FT]
 have hsum:ev S ρ (.f .sum (.c (.a (.v sc) (.y (.v kk)) (.y (.l (.int 60))) (.y (.l (.int st)))) .n))=some (.int (nN xs (some (kv:Int)) (some 60) (some st)).sum):=by refine sG (ah hs aw) ?_;show(jj ((nN xs (some (kv:Int)) (some 60) (some st)).map PyData.int)).map (fun ns=>PyData.int ns.sum)=_;rw[q6];rfl
 refine aC (aC (aa gb) hsum (KM _ _)) (aC ar ar No) ?_;show(if(1000000000:Int) != 0 then some (PyData.int ((bv+(nN xs (some (kv:Int)) (some 60) (some st)).sum).fmod 1000000000))else none)=_;rw[if_pos (by decide)];unfold kY;have h0:0<=(bv+(nN xs (some (kv:Int)) (some 60) (some st)).sum).fmod 1000000000:=by rw[Int.fmod_eq_emod_of_nonneg _ (by lia)];lia
 obtain⟨n,hn⟩:=Int.eq_ofNat_of_zero_le h0;rw[hn,mY]
theorem Au {xs:List Int}{ρ:aF}{st:Int}{src:By}{ps:List (Nat × Int)}(hst:st≠0)(hs:dk S ρ src=some (ps.map fun p=>PyData.tuple [ae p.1, .int p.2]))(h1:b≠kk)(h2:sc≠kk)(h3:sc≠b)(gs:ρ.get sc=some (.list (xs.map PyData.int)))(hz:dC src=false:=by rfl) :
  ev S ρ (.p (HI b sc kk st) (.c [kk,b] src .n .n))=some (.list ((ps.map fun p=>kY xs st p.2 p.1).map ae)):=by
 rw[kR];refine cH hs (fun p _=>⟨((ρ.del ([kk,b]++[])).set kk (ae p.1)).set b (.int p.2),rfl,CA hst an (db h3 (db h2 ?_)) (db (fun e=>h1 e.symm) an)⟩) (by rw[hz];rfl);rw[aF.get_del,if_neg]
 .exact gs
 .simp[h2,h3]
noncomputable abbrev NT (cl : Nat) : E := .i (.c (.l (.str "&")) (.c (.l (.str "<")) (.c (.l (.str ">")) (.c (.l (.str "\"")) (.c (.l (.str "\r")) (.c (.l (.str "\n")) (.c (.l (.str "\t")) (.c (.f .chr (.c (.b .Add (.l (.int 192)) (.b .Mod (.b .FloorDiv (.s (.v cl) (.l (.int 0))) (.l (.int 280))) (.l (.int 55000)))) .n)) .n))))))))
theorem Ee : ("&" : Str) = tx [38] ∧ ("<" : Str) = tx [60] ∧ (">" : Str) = tx [62] ∧ ("\"" : Str) = tx [34] ∧ ("\r" : Str) = tx [13] ∧ ("\n" : Str) = tx [10] ∧ ("\t" : Str) = tx [9] := by decide +kernel
theorem dJ {ρ:aF}{cl i c:Nat}{cs:aN}(g:ρ.get cl=some (.list (cs.map ae)))(h:cs[i]?=some c):ev S ρ (.s (.v cl) (.l (.int i)))=some (ae c):=bk (aa g) ar (hH (i:=i) (by rw[List.getElem?_map,h];rfl))
theorem Iy {n:Nat}(h:n<=1114111):(decide (0<=(n:Int))&&decide ((n:Int)<=1114111))=true:=jX ⟨dg (Int.natCast_nonneg _),dg (Int.ofNat_le.mpr h)⟩
theorem IL {ρ:aF}{r:aN}(g:ρ.get cl=some (.list ((c0::r).map ae))):ev S ρ (NT cl)=some (.list ((qD (192+c0 / 280 % 55000)).map fun c=>aj [c])):=by
 obtain⟨h1,h2,h3,h4,h5,h6,h7⟩:=Ee;have hl:∀{y:Str}{c:Nat},y=tx [c]->ev S ρ (.l (.str y))=some (aj [c]):=fun h=>by rw[h];rfl
 refine dB (ah (hl h1) (ah (hl h2) (ah (hl h3) (ah (hl h4) (ah (hl h5) (ah (hl h6) (ah (hl h7) (ah ?_ aw)))))))) (oF rfl);refine sG (ds:=[ae (192+c0 / 280 % 55000)]) (ah (aC (y:=ae (c0 / 280 % 55000)) (ar (d:=ae 192)) (aC (x:=ae (c0 / 280)) (y:=ae 55000) (aC (x:=ae c0) (y:=ae 280) (dJ (i:=0) g rfl) ar (ia (by decide) (by decide))) ar (dT (by decide))) (ln _ _)) aw) ?_;have:c0 / 280 % 55000<55000:=Nat.mod_lt _ (by decide);show(if decide (0<=((192+c0 / 280 % 55000:Nat):Int))&&decide (((192+c0 / 280 % 55000:Nat):Int)<=1114111)then some (PyData.str ⟨#[((192+c0 / 280 % 55000:Nat):Int).toNat]⟩)else none)=_;rw[if_pos (Iy (aJ (il (Nat.add_lt_add_left this 192)) (by decide))),mY]
noncomputable abbrev NS (cl sg fi:Nat):E:=.b .Add (.s (.v sg) (.v fi)) (.s (.v sg) (.b .Mod (.b .Add (.b .Add (.v fi) (.l (.int 1))) (.b .Mod (.b .FloorDiv (.s (.v cl) (.l (.int 0))) (.l (.int 40))) (.l (.int 7)))) (.l (.int 8))))
theorem IK {ρ:aF}{r:aN}(g:ρ.get cl=some (.list ((c0::r).map ae)))(g86:ρ.get sg=some (.list ((qD x).map fun c=>aj [c])))(g87:ρ.get fi=some (ae i))(hi:i<8) :
  ev S ρ (NS cl sg fi)=some (aj [(qD x).getD i 0,(qD x).getD ((i+1+c0 / 40 % 7) % 8) 0]):=by
 refine lm (a:=[(qD x).getD i 0]) (b:=[(qD x).getD ((i+1+c0 / 40 % 7) % 8) 0]) (bk (aa g86) (aa g87) (hH (zH hi))) (bk (aa g86) (y:=ae ((i+1+c0 / 40 % 7) % 8)) ?_ (hH (zH (Nat.mod_lt _ (by decide))))) (oF rfl);refine aC (aC (aC (aa g87) (ar (d:=ae 1)) (ln _ _)) (aC (aC (dJ (i:=0) g rfl) (ar (d:=ae 40)) (ia (by decide) (by decide))) (ar (d:=ae 7)) (dT (by decide))) (ln _ _)) (ar (d:=ae 8)) (dT (by decide))
theorem Ho (hk:k<5)(h1:192<=x)(h2:x<55296)(hi:i<8)(hj:j<8)(hij:i≠j):fN k ((qD x).getD i 0) ((qD x).getD j 0):=
 ⟨hk,rH h2 hi,rH h2 hj,vS hk h1 hi hj hij,zG hk h1 hi,zG hk h1 hj⟩
end Internal
end
namespace Internal
section
variable {S:cU}{k cu cv:Nat}
abbrev KD (k cu cv:Nat):aN:=[(wr k cu).length,(wr k cv).length]
theorem yd (s:Bool):(ww k cu cv [s]).length=if s then(wr k cv).length else(wr k cu).length:=by
 cases s
 .show(wr k cu++[]).length=_;rw[List.append_nil];rfl
 .show(wr k cv++[]).length=_;rw[List.append_nil];rfl
theorem fN.size (Q:fN k cu cv):(1<=(wr k cu).length/\(wr k cu).length<=6)/\1<=(wr k cv).length/\(wr k cv).length<=6:=by have h0:=Q.len (x:=[false]) (by decide);have h1:=Q.len (x:=[true]) (by decide);have n0:=List.length_pos_iff.mpr (Q.ne (x:=[false]) (by decide));have n1:=List.length_pos_iff.mpr (Q.ne (x:=[true]) (by decide));rw[yd]at h0 h1 n0 n1;exact⟨⟨n0,h0⟩,n1,h1⟩
theorem wb (h:cu≠cv)(x:aB):(tw cu cv x).count cu=x.count false/\(tw cu cv x).count cv=x.count true:=by
 induction x with
 |nil=>exact⟨rfl,rfl⟩
 |cons b x ih =>
  have e:tw cu cv (b::x)=(if b then[cv]else[cu])++tw cu cv x:=cJ _ _ b x;rw[e,List.count_append,List.count_append,ih.1,ih.2];have h':¬ cv=cu:=fun q=>h q.symm;cases b <;> simp[List.count_cons,h,h'] <;> lia
theorem IS {a:Nat}(h:a<=12):ib (a:Int)<=4:=qZ (by exact NP ‹_› rfl)
theorem Jq {a e:Nat}(ha:a<=12)(he:e<=6):eE .Pow (ae a) (ae e)=some (ae (a^e)):=zz (by have:=Nat.mul_le_mul (IS ha) he;exact qp ‹_› rfl)
noncomputable def HW (T P:Nat):List (Int × Int):=[((T:Int),(P:Int)),(-(T:Int),(P:Int)),((T:Int),-(P:Int)),(-(T:Int),-(P:Int))]
noncomputable abbrev MQ (p:Int × Int):D:=.tuple [.int p.1, .int p.2]
abbrev wY (p:Int × Int):D:=iW p.1 p.2
theorem Nn (h1:evT S ρ a=some false)(h2:evT S ρ b=some false)(h3:evT S ρ c=some false):evT S ρ (.o .Or (.c a (.c b (.c c .n))))=some false:=bi h1 (bi h2 (bi h3 rfl))
theorem Jn (h1:evT S ρ a=some false)(h2:evT S ρ b=some false):evT S ρ (.o .Or (.c a (.c b .n)))=some false:=bi h1 (bi h2 rfl)
theorem yL:∀qs:List (Int × Int),PyData.eqvAll (qs.map wY) (qs.map wY)=true
 |[]=>rfl
 |p::qs=>by
  have e:PyData.eqvAll ((p::qs).map wY) ((p::qs).map wY)=(((p.1.fdiv p.2==p.1.fdiv p.2)&&((p.1.fmod p.2==p.1.fmod p.2)&&true))&&PyData.eqvAll (qs.map wY) (qs.map wY)):=by simp only[i8,PyData.eqvAll,PyData.eqv,iW]
  rw[e,yL qs];simp
theorem FV (qs:List (Int × Int)):gc 8 (.list (qs.map wY))=true:=List.all_eq_true.mpr fun x hx=>by obtain⟨p,_,rfl⟩:=iz hx;rfl
theorem ko:∀{l:List D},(∀a∈l,f a=some [])->ef f l=some []
 |[],_=>rfl
 |a::l,h=>by exact bi (h a dX) (bi (ko fun b m=>h b (eh _ m)) rfl)
theorem Ao (ms:aB):gc 8 (.list (ms.map PyData.bool))=true:=List.all_eq_true.mpr fun x hx=>by obtain⟨p,_,rfl⟩:=iz hx;rfl
end
end Internal
section
set_option linter.unusedSimpArgs false
namespace Internal
variable {S:cU}{k cu cv:Nat}
theorem uN {ps:List aN}(h:ev S ρ e=some (.list (ps.map aj)))(hn:ps.length<=1000)(hp:∀p∈ps,p.length<=1000/\∀c∈p,c<55296):ev S ρ (.m .join (.l (.str "")) (.c e .n))=some (aj ps.flatten):=by
 refine bi rfl (bi (ah h aw) ?_);have e3:ps.map aj=(ps.map tx).map PyData.str:=by rw[kR];rfl
 rw[e3];show(match gF ((ps.map tx).map PyData.str)with
  |some ts=>if JoinOk "" ts&&sok (.str (Txt.join "" ts))then some (PyData.str (Txt.join "" ts))else none
  |none=>none)=_
 rw[iw];have hj:Txt.join "" (ps.map tx)=tx ps.flatten:=Str.of_list (by
  rw[pE,kR,List.toList_toArray]
  congr 1
  exact(List.map_congr_left fun x _=>by simp).trans (List.map_id ps))
 show(if(JoinOk "" (ps.map tx)&&sok (.str (Txt.join "" (ps.map tx))))=true then some (PyData.str (Txt.join "" (ps.map tx)))else none)=_;rw[hj,if_pos];rw[eO];refine⟨?_,jz ?_ fun c hc=>?_⟩
 .unfold JoinOk;rw[PySem.StrLaws.joinFits (B:=1000)]
  .rfl
  .intro y hy;obtain⟨p,hp',rfl⟩:=iz hy;have:=(hp p hp').1
   simpa [Str.length]using this
  .have:(("" : Str).length)=0:=rfl;rw[this,dx];have:=oG 1000 hn;exact qp ‹_› rfl
 .have:∀(ps:List aN),(∀p∈ps,p.length<=1000)->ps.flatten.length<=ps.length*1000:=by
   intro ps
   induction ps with
   |nil=>intro _;exact gL _
   |cons p ps ih =>
    intro h;have h1:=h p dX;have h2:=ih fun q m=>h q (eh _ m);rw[List.flatten_cons,dR,sW];lia
  have h1:=this ps fun p m=>(hp p m).1;have:=oG 1000 hn
  lia
 .obtain⟨p,h1,h2⟩:=List.mem_flatten.mp hc;exact(hp p h1).2 c h2
theorem o8:∀ms:aB,((ms.map PyData.bool).countP fun y=>PyData.eqv y (.bool true))=ms.countP (· == true)
 |[]=>rfl
 |m::ms=>by rw[i8,List.countP_cons,List.countP_cons,o8 ms];cases m <;> rfl
theorem AP (ms:aB):lg .count (.list (ms.map PyData.bool)) [.bool true]=some (ae (ms.countP (· == true))):=by show(if gc 8 (.bool true)&&gc 8 (.list (ms.map PyData.bool))then some (PyData.int (((ms.map PyData.bool).countP fun y=>PyData.eqv y (.bool true):Nat):Int))else none)=_;rw[Ao,o8];rfl
theorem sy (E:List aB):gc 8 (a6 cu cv E)=true:=List.all_eq_true.mpr fun x hx=>by obtain⟨p,_,rfl⟩:=iz hx;rfl
theorem wq (h:cu≠cv)(t:aB):∀E:List aB,((E.map fun t=>aj (tw cu cv t)).any fun y=>PyData.eqv y (aj (tw cu cv t)))=decide (t∈E)
 |[]=>rfl
 |a::E=>by
  rw[i8,List.any_cons,wq h t E,sB,kP h,Bool.eq_iff_iff,Bool.or_eq_true,beq_iff_eq,jE,jE,List.mem_cons];constructor
  .rintro (rfl|q)
   .exact .inl rfl
   .exact .inr q
  .rintro (rfl|q)
   .exact .inl rfl
   .exact .inr q
theorem qN (h:cu≠cv)(t:aB)(E:List aB):bH .NotIn (aj (tw cu cv t)) (a6 cu cv E)=some (.bool (!decide (t∈E))):=by show(if gc 8 (aj (tw cu cv t))&&gc 8 (a6 cu cv E)then some (PyData.bool (!((E.map fun t=>aj (tw cu cv t)).any fun y=>PyData.eqv y (aj (tw cu cv t)))))else none)=_;rw[sy,wq h];rfl
end Internal
end
namespace Internal
section
variable {S:cU}
theorem mR:∀{l:List α},(∀a∈l,f (i a)=some (out a))->ef f (l.map i)=some (l.flatMap out)
 |[],_=>rfl
 |a::l,h=>by exact bi (h a (.head _)) (bi (mR fun b m=>h b (.tail _ m)) rfl)
theorem Cy (h:evT S ρ c=some b):ie S ρ .And (.c c .n)=some b:=bi h (by cases b <;> rfl)
theorem CG {l:List α}{i:α->D}{q:α->Bool}{l2:α->List β}{i2:α->β->D}{p:α->β->Bool}{g:α->β->D}(hs:dk S ρ src=some (l.map i))
  (h:∀a∈l,∃ρ',bx (ρ.del (tg++(tg2++[]))) tg (i a)=some ρ'/\ie S ρ' .And ifs=some (q a)/\(q a=true->dk S ρ' src2=some ((l2 a).map (i2 a))/\∀b∈l2 a,∃ρ'',bx ρ' tg2 (i2 a b)=some ρ''/\ie S ρ'' .And ifs2=some (p a b)/\(p a b=true->ev S ρ'' elt=some (g a b))))
  (hl:(l.flatMap fun a=>if q a then((l2 a).filter (p a)).map (g a)else[]).length<=16777216) (hz:(!dC src || cD (l.flatMap fun a=>if q a then((l2 a).filter (p a)).map (g a)else[]))=true:=by rfl) :
  ev S ρ (.p elt (.c tg src ifs (.c tg2 src2 ifs2 .n)))=some (.list (l.flatMap fun a=>if q a then((l2 a).filter (p a)).map (g a)else[])):=by
 refine bi (x:=l.flatMap fun a=>if q a then((l2 a).filter (p a)).map (g a)else[]) (bi hs (mR fun a m=>?_)) (if_pos (show(decide (_<=16777216)&&(!dC src || cD _))=true from jX ⟨dg hl,hz⟩));obtain⟨ρ',h1,h2,h3⟩:=h a m;refine bi h1 (bi h2 ?_);cases hq:q a with
 |false=>rfl
 |true =>
  obtain⟨h4,h5⟩:=h3 hq;refine bi h4 (ft fun b mb=>?_);obtain⟨ρ'',k1,k2,k3⟩:=h5 b mb;refine bi k1 (bi k2 ?_);cases hp:p a b with
  |false=>rfl
  |true =>
   show(ev S ρ'' elt).map (fun d=>[d])=_;rw[k3 hp];rfl
theorem sK {src src2:By}{l:List α}{i:α->D}{l2:α->List β}{i2:α->β->D}{g:α->β->D}(hs:dk S ρ src=some (l.map i))
  (h:∀a∈l,∃ρ',bx (ρ.del (tg++(tg2++[]))) tg (i a)=some ρ'/\dk S ρ' src2=some ((l2 a).map (i2 a))/\∀b∈l2 a,∃ρ'',bx ρ' tg2 (i2 a b)=some ρ''/\ev S ρ'' elt=some (g a b))
  (hl:(l.flatMap fun a=>(l2 a).map (g a)).length<=16777216) (hz:dC src=false:=by rfl):ev S ρ (.p elt (.c tg src .n (.c tg2 src2 .n .n)))=some (.list (l.flatMap fun a=>(l2 a).map (g a))):=by
 have e:(l.flatMap fun a=>if true=true then((l2 a).filter fun _=>true).map (g a)else[])=l.flatMap fun a=>(l2 a).map (g a):=by refine congrArg (fun f=>l.flatMap f) (funext fun a=>?_);rw[if_pos rfl,List.filter_eq_self.mpr fun _ _=>rfl]
 have:=CG (S:=S) (ρ:=ρ) (elt:=elt) (tg:=tg) (tg2:=tg2) (src:=src) (src2:=src2) (ifs:=.n) (ifs2:=.n) (q:=fun _=>true) (p:=fun _ _=>true) (l2:=l2) (i2:=i2) (g:=g) hs (fun a m=>by obtain⟨ρ',h1,h2,h3⟩:=h a m;exact⟨ρ',h1,rfl,fun _=>⟨h2,fun b mb=>let⟨ρ'',k1,k2⟩:=h3 b mb;⟨ρ'',k1,rfl,fun _=>k2⟩⟩⟩) (by rw[e];exact hl) (by rw[hz];rfl);rw[e]at this;exact this
end
section
noncomputable def addC {α:Type}[BEq α](l:List α)(c:α):List α:=if l.contains c then l else l++[c]
theorem Dw [BEq α][LawfulBEq α]{l:List α}{c x:α}:x∈addC l c↔x∈l\/x=c:=by
 unfold addC;by_cases h:l.contains c=true
 .rw[if_pos h];exact⟨.inl,fun q=>q.elim id fun e=>e▸List.contains_iff_mem.mp h⟩
 .rw[if_neg h,List.mem_append,List.mem_singleton]
theorem pL {α:Type}[BEq α][LawfulBEq α]:∀{cs l:List α}{x:α},x∈cs.foldl addC l↔x∈l\/x∈cs
 |[],l,x=>⟨.inl,fun q=>q.elim id fun m=>nomatch m⟩
 |c::cs,l,x=>by rw[List.foldl_cons,pL,Dw,List.mem_cons,or_assoc]
noncomputable def eG (g w:aB)(s e:Nat):Option Nat:=(List.range' s (e+1-s)).find? fun k=>decide (k+w.length<=e)&&((g.drop k).take w.length==w)
noncomputable def fb (g:aB)(e:Nat):Nat->List aB->Bool
 |_,[]=>true
 |s,w::ws=>match eG g w s e with
  |some k=>fb g e (k+w.length) ws
  |none=>false
def eQ (p:aB)(ms:List aB)(q g:aB):Bool:=p.isPrefixOf g&&q.isSuffixOf g&&decide (p.length+q.length<=g.length)&&fb g (g.length-q.length) p.length ms
structure g5 (u v:aN):Prop extends Code u v where
 hd:∀c∈u.tail++v.tail,u.head?≠some c/\v.head?≠some c
section
variable {u v:aN}
abbrev at_ (u v:aN)(g:aB)(j:Nat):Nat:=(wd u v (g.take j)).length
theorem u8 (h:a≠[]):(a++b).head?=a.head?:=by
 cases a with
 |nil=>exact absurd rfl h
 |cons x r=>rfl
theorem g5.occ (y:g5 u v)(hw:w≠[]):∀{g:aB}{i:Nat},wd u v w <+: (wd u v g).drop i->∃j,j<=g.length/\i=at_ u v g j/\w <+: g.drop j
 |g,0,h=>⟨0,gL _,rfl,tS ⟨y.u0,y.v0⟩ ⟨y.p1,y.p2⟩ h⟩
 |[],i+1,h=>absurd (List.prefix_nil.mp h) (zW y.toCode hw)
 |b::g,i+1,h=>by
  have hb:(if b then v else u)≠[]:=by cases b <;> first|exact y.u0|exact y.v0
  rw[cJ]at h;by_cases c:i+1<(if b then v else u).length
  .exfalso
   rw[List.drop_append_of_le_length (il c)]at h;obtain⟨x,hx⟩:∃x,(if b then v else u).drop (i+1)=x::(if b then v else u).drop (i+2):=⟨_,List.drop_eq_getElem_cons c⟩;obtain⟨r,hr⟩:=h;have e1:(wd u v w).head?=some x:=by
    have:=congrArg List.head? hr
    rwa [u8 (zW y.toCode hw),hx]at this
   have hm:x∈u.tail++v.tail:=by
    have m:x∈(if b then v else u).tail:=by
     rw[<- List.drop_one];have:x∈(if b then v else u).drop (i+1):=by rw[hx];exact .head _
     rw[Nat.add_comm,<- List.drop_drop]at this;exact List.mem_of_mem_drop this
    cases b
    .exact ij _ m
    .exact hJ _ m
   cases w with
   |nil=>exact hw rfl
   |cons s w =>
    have hs:(if s then v else u)≠[]:=by cases s <;> first|exact y.u0|exact y.v0
    rw[cJ,u8 hs]at e1;cases s
    .exact(y.hd x hm).1 e1
    .exact(y.hd x hm).2 e1
  .obtain⟨j,h1,h2,h3⟩:=y.occ hw (g:=g) (i:=i+1-(if b then v else u).length) (by rw[List.drop_append,List.drop_eq_nil_of_le (Nat.le_of_not_lt c),List.nil_append]at h;exact h);refine⟨j+1,Nat.succ_le_succ h1, ?_,h3⟩;show _=(wd u v (b::g.take j)).length;rw[cJ,dR];exact((Nat.add_sub_cancel' (Nat.le_of_not_lt c)).symm).trans (congrArg (fun n=>(if b then v else u).length+n) h2)
theorem F5 (i:Nat)(l:List α):(l.drop i).length<=l.length:=aJ (Nat.le_of_eq List.length_drop) (Nat.sub_le _ _)
theorem qP {l:List α}(h:i<=j):l.take j=l.take i++(l.take j).drop i:=by
 have:=(List.take_append_drop i (l.take j)).symm
 rwa [List.take_take,Nat.min_eq_left h]at this
theorem Code.at_le (c:Code u v){g:aB}(hi:i<=g.length)(hj:j<=g.length):at_ u v g i<=at_ u v g j↔i<=j:=by
 have key:∀{i j:Nat},i<=j->at_ u v g i<=at_ u v g j:=fun{i j} h=>by unfold at_;rw[qP h,bY,dR];exact nr _ _
 refine⟨fun h=>?_,key⟩;rcases Nat.lt_or_ge j i with q|q
 .exfalso
  have e:=qP (l:=g) (il q);have hn:(g.take i).drop j≠[]:=fun q'=>by have:=congrArg List.length q';rw[List.length_drop,List.length_take,List.length_nil]at this;exact Nat.sub_ne_zero_of_lt (by rw[Nat.min_eq_left hi];exact q) this
  have:=List.length_pos_iff.mpr (zW c hn);unfold at_ at h;rw[e,bY,dR]at h
  lia
 .exact q
theorem wu (h:w <+: g.drop j):at_ u v g (j+w.length)=at_ u v g j+(wd u v w).length:=by unfold at_;rw[List.take_add,bY,dR,<- List.prefix_iff_eq_take.mp h]
theorem Hs (g:aB)(j:Nat):(wd u v g).drop (at_ u v g j)=wd u v (g.drop j):=by
 have:wd u v g=wd u v (g.take j)++wd u v (g.drop j):=by rw[<- bY,List.take_append_drop]
 rw[this,List.drop_left]
theorem take_pre [BEq α][LawfulBEq α]{a b:List α}:(a.take b.length==b)=true↔b <+: a:=by rw[beq_iff_eq];exact⟨fun h=>h▸List.take_prefix _ _,fun h=>(List.prefix_iff_eq_take.mp h).symm⟩
theorem mQ (h1:s<=j)(h2:j<=e)(hp:p j=true)(hn:∀i,s<=i->i<j->p i=false):(List.range' s (e+1-s)).find? p=some j:=
 List.find?_range'_eq_some.mpr ⟨hp,List.mem_range'_1.mpr ⟨h1,by lia⟩,fun i a b=>by rw[hn i a b];rfl⟩
theorem wS (hn:∀i,s<=i->p i=false):(List.range' s (e+1-s)).find? p=none:=
 List.find?_range'_eq_none.mpr fun i a _=>by rw[hn i a];rfl
theorem ot (h:(List.range' s (e+1-s)).find? p=some j):s<=j/\p j=true/\∀i,s<=i->i<j->p i=false:=by obtain⟨p1,p2,p3⟩:=List.find?_range'_eq_some.mp h;exact⟨(List.mem_range'_1.mp p2).1,p1,fun i a b=>im (p3 i a b)⟩
theorem uX (h:(List.range' s (e+1-s)).find? p=none)(h1:s<=i)(h2:i<=e):p i=false:=
 im (List.find?_range'_eq_none.mp h i h1 (by lia))
theorem fV {k n e:Nat}{b:Bool}(h:(decide (k+n<=e)&&b)=true):k+n<=e:=bJ (cE h).1
theorem g5.find (y:g5 u v){g w:aB}{s e:Nat}(hs:s<=e)(he:e<=g.length):eS (wd u v g) (wd u v w) (at_ u v g s) (at_ u v g e)=(eG g w s e).map (at_ u v g):=by
 have hsg:=aJ hs he;by_cases hw:w=[]
 .subst hw;have h1:eG g [] s e=some s:=mQ (fc _) hs (jX ⟨dg hs,beq_self_eq_true []⟩) fun i a b=>absurd a (Nat.not_le.mpr b);rw[h1];exact mQ (fc _) ((y.at_le hsg he).mpr hs) (jX ⟨dg ((y.at_le hsg he).mpr hs),beq_self_eq_true []⟩) fun i a b=>absurd a (Nat.not_le.mpr b)
 .have up:∀{j:Nat},(decide (j+w.length<=e)&&((g.drop j).take w.length==w))=true ->
    (decide (at_ u v g j+(wd u v w).length<=at_ u v g e)&&(((wd u v g).drop (at_ u v g j)).take (wd u v w).length==wd u v w))=true:=fun{j} h=>by
   have h2:=take_pre.mp (cE h).2;refine jX ⟨dg ?_,take_pre.mpr ?_⟩
   .rw[<- wu h2];exact(y.at_le (aJ (fV h) he) he).mpr (fV h)
   .rw[Hs];exact tR h2
  have dn:∀{i:Nat},at_ u v g s<=i->(decide (i+(wd u v w).length<=at_ u v g e)&&(((wd u v g).drop i).take (wd u v w).length==wd u v w))=true ->
    ∃j,s<=j/\i=at_ u v g j/\(decide (j+w.length<=e)&&((g.drop j).take w.length==w))=true:=fun{i} hi h=>by
   have h1:=fV h;obtain⟨j,a1,rfl,a3⟩:=y.occ hw (take_pre.mp (cE h).2);refine⟨j,(y.at_le hsg a1).mp hi,rfl,jX ⟨dg ?_,take_pre.mpr a3⟩⟩;have hl:=a3.length_le;rw[List.length_drop]at hl;rw[<- wu a3]at h1;exact(y.at_le (Nat.add_comm j _▸Nat.add_le_of_le_sub a1 hl) he).mp h1
  cases hr:eG g w s e with
  |some j =>
   obtain⟨p1,p2,p3⟩:=ot hr;have hje:=aJ (nr j _) (fV p2);have q1:=up p2;refine mQ ((y.at_le hsg (aJ hje he)).mpr p1) (aJ (nr _ _) (fV q1)) q1 fun i a b=>?_;cases q:(decide (i+(wd u v w).length<=at_ u v g e)&&(((wd u v g).drop i).take (wd u v w).length==wd u v w))with
   |false=>rfl
   |true =>
    obtain⟨j',a1,rfl,a3⟩:=dn a q;have hle:=aJ (nr j' _) (fV a3);rcases Nat.lt_or_ge j' j with z|z
    .exact absurd (a3.symm.trans (p3 j' a1 z)) (fun e=>Bool.noConfusion e)
    .exact absurd ((y.at_le (aJ hje he) (aJ hle he)).mpr z) (Nat.not_le.mpr b)
  |none =>
   refine wS fun i a=>?_;cases q:(decide (i+(wd u v w).length<=at_ u v g e)&&(((wd u v g).drop i).take (wd u v w).length==wd u v w))with
   |false=>rfl
   |true =>
    obtain⟨j',a1,rfl,a3⟩:=dn a q;exact absurd (a3.symm.trans (uX hr a1 (aJ (nr j' _) (fV a3)))) (fun e=>Bool.noConfusion e)
theorem g5.walk (y:g5 u v){g:aB}(he:e<=g.length):∀{ms:List aB}{s:Nat},s<=e->cX (wd u v g) (at_ u v g e) (at_ u v g s) (ms.map (wd u v))=fb g e s ms
 |[],_,_=>rfl
 |w::ms,s,hs=>by
  show(match eS (wd u v g) (wd u v w) (at_ u v g s) (at_ u v g e)with|some k=>cX (wd u v g) (at_ u v g e) (k+(wd u v w).length) (ms.map (wd u v))|none=>false)=(match eG g w s e with|some k=>fb g e (k+w.length) ms|none=>false);rw[y.find hs he];cases hr:eG g w s e with
  |none=>rfl
  |some j =>
   obtain⟨_,p1,_⟩:=ot hr;obtain⟨h1,h2⟩:=cE p1;show cX _ _ (at_ u v g j+(wd u v w).length) _=fb g e (j+w.length) ms;rw[<- wu (take_pre.mp h2)];exact y.walk he (bJ h1)
theorem g5.ell (y:g5 u v)(p:aB)(ms:List aB)(q g:aB):Cq (wd u v p::(ms.map (wd u v)++[wd u v q])) (wd u v g)=eQ p ms q g:=by
 rw[wI,y.pre,y.suf];unfold eQ;by_cases h1:p.isPrefixOf g=true
 .by_cases h2:q.isSuffixOf g=true
  .have e1:p=g.take p.length:=List.prefix_iff_eq_take.mp (List.isPrefixOf_iff_prefix.mp h1);have hp:=(List.isPrefixOf_iff_prefix.mp h1).length_le;have hs:=List.isSuffixOf_iff_suffix.mp h2;have hq:=hs.length_le;have c1:(wd u v p).length=at_ u v g p.length:=by unfold at_;rw[<- e1]
   have c2:(wd u v g).length-(wd u v q).length=at_ u v g (g.length-q.length):=by
    have:wd u v g=wd u v (g.take (g.length-q.length))++wd u v q:=by
     obtain⟨r,hr⟩:=hs;have e:g.take (g.length-q.length)=r:=by rw[<- hr,dR,Nat.add_sub_cancel,List.take_left]
     rw[e,<- bY,hr]
    rw[this,dR,Nat.add_sub_cancel]
   have c3:(wd u v q).length<=(wd u v g).length:=by obtain⟨r,rfl⟩:=hs;rw[bY,dR];exact Nat.le_add_left _ _
   rw[h1,h2,c2];by_cases h3:p.length+q.length<=g.length
   .rw[dg h3,dg (by have:=(y.at_le (g:=g) (i:=p.length) (j:=g.length-q.length) hp (Nat.sub_le _ _)).mpr (Nat.le_sub_of_add_le h3);rw[<- c1,<- c2]at this;exact Nat.add_le_of_le_sub c3 this),c1,y.walk (Nat.sub_le _ _) (Nat.le_sub_of_add_le h3)]
   .rw[cG h3,cG fun h=>h3 ?_]
    .rfl
    .have:(wd u v p).length<=(wd u v g).length-(wd u v q).length:=Nat.le_sub_of_add_le h;rw[c1,c2]at this;have:=(y.at_le (g:=g) hp (Nat.sub_le _ _)).mp this
     lia
  .rw[Bool.not_eq_true]at h2;rw[h2];simp
 .rw[Bool.not_eq_true]at h1;rw[h1];simp
end
end
section
def d6:List Str:=gH++[("_law_words" : Str),("words" : Str),("spare" : Str),("pick" : Str),("picks" : Str),("fresh" : Str),("one" : Str),("pair" : Str),("_law_one_reading" : Str),("asked" : Str),("short" : Str),("whole" : Str),("tail" : Str),("tails" : Str),("told" : Str),("dress" : Str),("mirrored" : Str),("other" : Str),("_law_gap" : Str),("rows" : Str),("places" : Str),("reached" : Str),("met" : Str),("fronts" : Str),("k" : Str),("_law_rows_told" : Str),("row" : Str),("wants" : Str),("two" : Str),("size" : Str),("more" : Str),("beside" : Str),("law" : Str),("twos" : Str),("message" : Str),("gap" : Str),("cells" : Str),("weight" : Str),("only" : Str),("both" : Str),("number" : Str),("part" : Str),("refused" : Str),("total" : Str),("sizes" : Str),("every" : Str),("signs" : Str),("first" : Str),("base" : Str),("script" : Str)]
noncomputable abbrev MF:St:=.s 57 (.s (.v 52) (.b .Mod (.b .FloorDiv (.v 54) (.l (.int 3))) (.f .len (.c (.v 52) .n))))
noncomputable abbrev MH:St:=.s 56 (.i (.c (.b .Add (.a (.v 57) (.y (.l (.int 1))) .n .n) (.a (.v 57) .n (.y (.l (.int 1))) .n)) .n))
noncomputable abbrev MJ:St:=.i (.o .And (.c (.q .Lt (.b .Mod (.v 54) (.l (.int 3))) (.l (.int 2))) (.c (.q .Lt (.f .len (.c (.v 57) .n)) (.l (.int 3))) (.c (.q .Lt (.f .len (.c (.v 52) .n)) (.l (.int 6))) .n)))) (.c (.s 56 (.s (.i (.c (.p (.b .Add (.v 57) (.v 50)) (.c [50] (.e (.v 58)) .n .n)) (.c (.p (.b .Add (.v 50) (.v 57)) (.c [50] (.e (.v 58)) .n .n)) .n))) (.b .Mod (.v 54) (.l (.int 3))))) .n) .n
noncomputable abbrev ML:St:=.s 52 (.b .Add (.p (.v 3) (.c [3] (.e (.v 52)) (.c (.o .And (.c (.q .NotEq (.v 3) (.v 57)) (.c (.q .NotIn (.v 3) (.v 56)) .n))) .n) .n)) (.v 56))
abbrev z6:nU:=.c MF (.c MH (.c MJ (.c ML .n)))
noncomputable abbrev On:St:=.s 52 (.i (.c (.s (.v 58) (.l (.int 0))) (.c (.s (.v 58) (.l (.int 1))) .n)))
abbrev Oo:St:=.l [54] (.e (.v 55)) z6
noncomputable abbrev Op:St:=.i (.q .Eq (.v 53) (.l (.str ""))) (.c (.r (.v 52)) .n) .n
noncomputable abbrev Oq:St:=.i (.q .In (.v 53) (.v 52)) (.c (.r (.p (.v 3) (.c [3] (.e (.v 52)) (.c (.q .NotEq (.v 3) (.v 53)) .n) .n))) .n) .n
noncomputable abbrev Ot:St:=.r (.b .Add (.v 52) (.i (.c (.v 53) .n)))
abbrev MN:nU:=.c On (.c Oo (.c Op (.c Oq (.c Ot .n))))
def hE:Fn:=⟨[58,55,53],[],MN⟩
noncomputable abbrev Mw:St:=.s 65 (.c 32 (.c (.e (.v 67) (.b .Add (.l (.str "...")) (.s (.v 66) (.v 61))) (.b .Add (.s (.v 66) (.v 61)) (.l (.str "...")))) (.c (.s (.v 66) (.v 62)) .n)))
noncomputable abbrev My:St:=.i (.o .And (.c (.q .IsNot (.v 65) (.l (.bool true))) (.c (.q .IsNot (.v 65) (.l (.bool false))) .n))) (.c (.r (.l .none)) .n) .n
noncomputable abbrev Mz:St:=.s 63 (.e (.v 67) (.a (.v 62) .n (.y (.b .Sub (.f .len (.c (.v 62) .n)) (.f .len (.c (.v 61) .n)))) .n) (.a (.v 62) (.y (.f .len (.c (.v 61) .n))) .n .n))
noncomputable abbrev MB:St:=.i (.o .And (.c (.v 65) (.c (.q .NotEq (.p (.v 57) (.c [57] (.e (.v 52)) (.c (.q .IsNot (.c 32 (.c (.s (.v 66) (.v 63)) (.c (.s (.v 66) (.v 57)) .n))) (.q .Eq (.v 57) (.v 63))) .n) .n)) (.i .n)) .n))) (.c (.r (.l .none)) .n) .n
noncomputable abbrev MD:St:=.i (.o .And (.c (.v 65) (.c (.q .In (.v 63) (.v 52)) .n))) (.c (.r (.l (.bool false))) .n) .n
noncomputable abbrev NI:St:=.i (.o .And (.c (.v 65) (.c (.ocmp .NotIn (.v 63) 64) .n))) (.c (.a 64 (.v 63)) (.c (.ext 60 (.b .Add (.p (.t (.c (.v 63) (.c (.v 57) .n))) (.c [57] (.e (.v 52)) .n .n)) (.p (.t (.c (.v 57) (.c (.v 63) .n))) (.c [57] (.e (.v 52)) .n .n)))) .n)) .n
abbrev ga:nU:=.c Mw (.c My (.c Mz (.c MB (.c MD (.c NI .n)))))
noncomputable abbrev NX:St:=.compO 60 (.t (.c (.v 57) (.c (.v 68) .n))) (.c [57] (.e (.v 52)) .n (.c [68] (.e (.v 52)) (.c (.q .NotEq (.v 57) (.v 68)) .n) .n))
noncomputable abbrev NY:St:=.newO 64 .n
abbrev Oh:St:=.grow 60 [61,62] ga
noncomputable abbrev Oi:St:=.r (.l (.bool true))
abbrev ME:nU:=.c NX (.c NY (.c Oh (.c Oi .n)))
def dQ:Fn:=⟨[66,52,67],[60,64],ME⟩
noncomputable abbrev Ms:St:=.setU 72 (.b .Add (.v 57) (.v 50)) (.c [57] (.e (.v 71)) (.c (.q .In (.b .Add (.v 57) (.v 50)) (.v 74)) .n) .n) (.l (.str "")) (.c [57] (.e (.v 71)) (.c (.q .In (.b .Add (.v 57) (.v 50)) (.v 52)) .n) .n)
noncomputable abbrev Mu:St:=.i (.q .Eq (.slen 72) (.l (.int 0))) (.c (.r (.b .Add (.v 41) (.v 50))) .n) .n
noncomputable abbrev NH:St:=.i (.ocmp .NotIn (.ssort 72) 73) (.c (.a 73 (.ssort 72)) (.c (.a 70 (.t (.c (.b .Add (.v 41) (.v 50)) (.c (.ssort 72) .n)))) .n)) .n
abbrev fZ:nU:=.c Ms (.c Mu (.c NH .n))
abbrev NG:St:=.l [50] (.e (.v 58)) fZ
abbrev z5:nU:=.c NG .n
noncomputable abbrev NU:St:=.s 74 (.ssc (.a (.v 3) .n (.y (.v 75)) .n) (.c [3] (.e (.v 52)) .n (.c [75] (.r (.c (.f .len (.c (.v 3) .n)) .n)) .n .n)))
noncomputable abbrev NV:St:=.newO 70 (.c (.t (.c (.l (.str "")) (.c (.v 74) .n))) .n)
noncomputable abbrev NW:St:=.newO 73 (.c (.v 74) .n)
abbrev Of:St:=.grow 70 [41,71] z5
noncomputable abbrev Og:St:=.r (.l .none)
abbrev Mv:nU:=.c NU (.c NV (.c NW (.c Of (.c Og .n))))
def jk:Fn:=⟨[58,52],[73,72,70],Mv⟩
noncomputable abbrev NZ:St:=.s 82 (.p (.t (.c (.s (.v 66) (.s (.v 52) (.v 75))) (.c (.s (.v 66) (.s (.v 52) (.b .Sub (.v 75) (.l (.int 1))))) .n))) (.c [75] (.r (.c (.f .len (.c (.v 52) .n)) .n)) .n .n))
noncomputable abbrev N0:St:=.s 65 (.p (.p (.c 32 (.c (.b .Add (.b .Add (.v 57) (.l (.str "..."))) (.v 68)) (.c (.v 36) .n))) (.c [36] (.e (.i (.c (.b .Add (.v 57) (.v 68)) (.c (.v 57) (.c (.v 68) .n))))) .n .n)) (.c [57,68] (.e (.v 82)) .n .n))
noncomputable abbrev N1:St:=.s 81 (.p (.p (.c 32 (.c (.b .Add (.b .Add (.b .Add (.b .Add (.v 57) (.l (.str "..."))) (.v 68)) (.l (.str "..."))) (.v 68)) (.c (.v 36) .n))) (.c [36] (.e (.i (.c (.b .Add (.b .Add (.v 57) (.v 68)) (.v 68)) (.c (.b .Add (.v 57) (.v 68)) .n)))) .n .n)) (.c [57,68] (.e (.v 82)) .n .n))
noncomputable abbrev Oj:St:=.i (.o .Or (.c (.q .NotEq (.v 65) (.b .Mult (.i (.c (.i (.c (.l (.bool true)) (.c (.l (.bool false)) (.c (.l (.bool false)) .n)))) .n)) (.f .len (.c (.v 82) .n)))) (.c (.q .NotEq (.v 81) (.b .Mult (.i (.c (.i (.c (.l (.bool true)) (.c (.l (.bool false)) .n))) .n)) (.f .len (.c (.v 82) .n)))) .n))) (.c (.r (.l (.bool false))) .n) .n
noncomputable abbrev Ok:St:=.s 77 (.m .join (.l (.str "")) (.c (.v 52) .n))
noncomputable abbrev Ol:St:=.s 78 (.p (.b .Add (.b .Add (.l (.str "...")) (.m .join (.l (.str "...")) (.c (.b .Mult (.i (.c (.s (.v 66) (.v 79)) .n)) (.v 80)) .n))) (.l (.str "..."))) (.c [80] (.e (.i (.c (.m .count (.v 77) (.c (.v 79) .n)) (.c (.b .Add (.m .count (.v 77) (.c (.v 79) .n)) (.l (.int 1))) .n)))) .n .n))
noncomputable abbrev Om:St:=.r (.q .Eq (.p (.c 32 (.c (.v 38) (.c (.c 46 (.c (.v 47) (.c (.v 77) .n))) .n))) (.c [38] (.e (.v 78)) .n .n)) (.i (.c (.l (.bool true)) (.c (.l (.bool false)) .n))))
abbrev H8:nU:=.c NZ (.c N0 (.c N1 (.c Oj (.c Ok (.c Ol (.c Om .n))))))
def eV:Fn:=⟨[47,66,52,79],[],H8⟩
noncomputable abbrev NB:St:=.s 87 (.p (.b .Mod (.b .Add (.v 99) (.f .sum (.c (.a (.v 100) (.y (.v 75)) (.y (.l (.int 60))) (.y (.l (.int 3)))) .n))) (.b .Pow (.l (.int 10)) (.l (.int 9)))) (.c [75,99] (.enum (.i (.c (.l (.int 194)) (.c (.l (.int 1219860)) (.c (.l (.int 14)) .n))))) .n .n))
noncomputable abbrev NC:St:=.s 47 (.b .Mod (.s (.v 87) (.l (.int 0))) (.l (.int 5)))
noncomputable abbrev ND : St := .s 97 (.i (.c (.l (.str "&")) (.c (.l (.str "<")) (.c (.l (.str ">")) (.c (.l (.str "\"")) (.c (.l (.str "\r")) (.c (.l (.str "\n")) (.c (.l (.str "\t")) (.c (.f .chr (.c (.b .Add (.l (.int 192)) (.b .Mod (.b .FloorDiv (.s (.v 87) (.l (.int 0))) (.l (.int 280))) (.l (.int 55000)))) .n)) .n)))))))))
noncomputable abbrev NE:St:=.s 98 (.b .Mod (.b .FloorDiv (.s (.v 87) (.l (.int 0))) (.l (.int 5))) (.l (.int 8)))
noncomputable abbrev NF:St:=.s 58 (.b .Add (.s (.v 97) (.v 98)) (.s (.v 97) (.b .Mod (.b .Add (.b .Add (.v 98) (.l (.int 1))) (.b .Mod (.b .FloorDiv (.s (.v 87) (.l (.int 0))) (.l (.int 40))) (.l (.int 7)))) (.l (.int 8)))))
noncomputable abbrev Mi:St:=.s 84 (.p (.b .Add (.v 57) (.v 68)) (.c [57] (.e (.v 58)) .n (.c [68] (.e (.v 58)) .n .n)))
noncomputable abbrev Mk:St:=.s 96 (.b .Add (.b .Add (.i (.c (.s (.v 58) (.l (.int 0))) (.c (.s (.v 58) (.l (.int 1))) .n))) (.v 84)) (.p (.b .Add (.v 57) (.v 68)) (.c [57] (.e (.v 84)) .n (.c [68] (.e (.v 58)) .n .n))))
noncomputable abbrev Mm:St:=.s 66 (.dcomp (.v 3) (.c 46 (.c (.v 47) (.c (.v 3) .n))) (.c [3] (.e (.b .Add (.v 96) (.i (.c (.l (.str "")) .n)))) .n .n))
noncomputable abbrev Mo:St:=.i (.q .NotEq (.p (.v 3) (.c [3] (.e (.v 96)) (.c (.q .NotEq (.s (.v 66) (.v 3)) (.c 48 (.c (.v 47) (.c (.v 3) .n)))) .n) .n)) (.i .n)) (.c (.r (.l (.bool false))) .n) .n
noncomputable abbrev Mq:St:=.s 52 (.c 51 (.c (.v 58) (.c (.p (.b .Mod (.b .FloorDiv (.s (.v 87) (.l (.int 1))) (.b .Pow (.l (.int 18)) (.v 75))) (.l (.int 18))) (.c [75] (.r (.c (.l (.int 5)) .n)) .n .n)) (.c (.s (.b .Add (.v 96) (.b .Mult (.i (.c (.l (.str "")) .n)) (.l (.int 14)))) (.b .Mod (.s (.v 87) (.l (.int 2))) (.l (.int 28)))) .n))))
noncomputable abbrev H5:St:=.s 89 (.c 59 (.c (.v 66) (.c (.v 52) (.c (.l (.bool false)) .n))))
noncomputable abbrev H6:St:=.i (.o .Or (.c (.q .Is (.v 89) (.l .none)) (.c (.q .IsNot (.c 59 (.c (.v 66) (.c (.v 52) (.c (.l (.bool true)) .n)))) (.v 89)) .n))) (.c (.r (.l (.bool false))) .n) .n
noncomputable abbrev E0:St:=.s 95 (.p (.f .len (.c (.s (.v 66) (.v 50)) .n)) (.c [50] (.e (.v 58)) .n .n))
noncomputable abbrev E2:St:=.s 94 (.f .sum (.c (.p (.b .Mult (.b .Mult (.b .Pow (.s (.v 95) (.l (.int 0))) (.m .count (.v 3) (.c (.s (.v 58) (.l (.int 0))) .n))) (.b .Pow (.s (.v 95) (.l (.int 1))) (.m .count (.v 3) (.c (.s (.v 58) (.l (.int 1))) .n)))) (.b .Pow (.f .sum (.c (.v 95) .n)) (.b .Sub (.l (.int 3)) (.f .len (.c (.v 3) .n))))) (.c [3] (.e (.v 52)) .n .n)) .n))
noncomputable abbrev E3:St:=.s 60 (.i (.c (.t (.c (.v 94) (.c (.b .Pow (.f .sum (.c (.v 95) .n)) (.l (.int 3))) .n))) (.c (.t (.c (.n (.v 94)) (.c (.b .Pow (.f .sum (.c (.v 95) .n)) (.l (.int 3))) .n))) (.c (.t (.c (.v 94) (.c (.n (.b .Pow (.f .sum (.c (.v 95) .n)) (.l (.int 3)))) .n))) (.c (.t (.c (.n (.v 94)) (.c (.n (.b .Pow (.f .sum (.c (.v 95) .n)) (.l (.int 3)))) .n))) .n)))))
noncomputable abbrev E4:St:=.s 65 (.p (.c 31 (.c (.v 91) (.c (.v 92) .n))) (.c [91,92] (.e (.v 60)) .n .n))
noncomputable abbrev H7:St:=.s 93 (.l (.bool false))
noncomputable abbrev E5:St:=.tryZ 31 (.c (.v 94) (.c (.l (.int 0)) .n)) 93 true
noncomputable abbrev E6:St:=.i (.o .Or (.c (.z (.v 93)) (.c (.q .NotEq (.v 65) (.p (.t (.c (.b .FloorDiv (.v 91) (.v 92)) (.c (.b .Mod (.v 91) (.v 92)) .n))) (.c [91,92] (.e (.v 60)) .n .n))) (.c (.q .NotEq (.p (.v 57) (.c [90] (.e (.v 65)) .n (.c [57] (.e (.v 90)) (.c (.o .Or (.c (.isb (.v 57)) (.c (.z (.isi (.v 57))) .n))) .n) .n))) (.i .n)) .n)))) (.c (.r (.l (.bool false))) .n) .n
noncomputable abbrev E7:St:=.s 88 (.s (.v 65) (.l (.int 0)))
noncomputable abbrev E8:St:=.s 86 (.c 69 (.c (.v 58) (.c (.v 52) .n)))
noncomputable abbrev E9:St:=.i (.q .Eq (.m .count (.i (.c (.v 89) (.c (.q .Is (.v 86) (.l .none)) (.c (.q .Eq (.v 88) (.t (.c (.l (.int 1)) (.c (.l (.int 0)) .n)))) .n)))) (.c (.l (.bool true)) .n)) (.l (.int 2))) (.c (.r (.l (.bool false))) .n) .n
noncomputable abbrev Fa:St:=.i (.o .And (.c (.v 89) (.c (.q .GtE (.s (.v 88) (.l (.int 0))) (.l (.int 1))) (.c (.q .NotEq (.v 88) (.t (.c (.l (.int 1)) (.c (.l (.int 0)) .n)))) .n)))) (.c (.r (.l (.bool false))) .n) .n
noncomputable abbrev Fb:St:=.i (.z (.c 76 (.c (.v 47) (.c (.v 66) (.c (.v 52) (.c (.s (.v 84) (.b .Mod (.b .FloorDiv (.s (.v 87) (.l (.int 2))) (.l (.int 28))) (.l (.int 4)))) .n)))))) (.c (.r (.l (.bool false))) .n) .n
noncomputable abbrev Fc:St:=.s 85 (.c 46 (.c (.v 47) (.c (.m .join (.l (.str "")) (.c (.p (.b .Add (.v 57) (.v 68)) (.c [57] (.e (.v 52)) .n (.c [68] (.e (.v 52)) .n .n))) .n)) .n)))
noncomputable abbrev Fd:St:=.i (.o .And (.c (.q .IsNot (.v 86) (.l .none)) (.c (.q .IsNot (.c 32 (.c (.b .Add (.b .Add (.l (.str "...")) (.c 46 (.c (.v 47) (.c (.v 86) .n)))) (.l (.str "..."))) (.c (.v 85) .n))) (.l (.bool false))) .n))) (.c (.r (.l (.bool false))) .n) .n
noncomputable abbrev zZ:St:=.i (.o .And (.c (.q .IsNot (.v 86) (.l .none)) (.c (.q .Lt (.f .len (.c (.v 86) .n)) (.l (.int 3))) .n))) (.c (.r (.l (.bool true))) .n) .n
noncomputable abbrev Fe:St:=.r (.q .Eq (.p (.v 3) (.c [3] (.e (.v 84)) (.c (.q .IsNot (.c 32 (.c (.b .Add (.b .Add (.l (.str "...")) (.s (.v 66) (.v 3))) (.l (.str "..."))) (.c (.v 85) .n))) (.l (.bool true))) .n) .n)) (.i .n))
abbrev Kw:nU:=.c NB (.c NC (.c ND (.c NE (.c NF (.c Mi (.c Mk (.c Mm (.c Mo (.c Mq (.c H5 (.c H6 (.c E0 (.c E2 (.c E3 (.c E4 (.c H7 (.c E5 (.c E6 (.c E7 (.c E8 (.c E9 (.c Fa (.c Fb (.c Fc (.c Fd (.c zZ (.c Fe .n)))))))))))))))))))))))))))
def Di:Fn:=⟨[100],[],Kw⟩
variable {S:cU}{k cu cv:Nat}
def Bd (M:Nat)(c:List aB):Prop:=∀x∈c,x.length<=M
theorem ig {f:α->List β}{n:Nat}:∀{l:List α},(∀a∈l,(f a).length<=n)->(l.flatMap f).length<=l.length*n
 |[],_=>gL _
 |a::l,h=>by
  have h1:=h a (.head _);have h2:=ig (l:=l) fun b m=>h b (.tail _ m);rw[List.flatMap_cons,dR,sW,Nat.succ_mul]
  lia
theorem jC (h1:ev S ρ e1=some (aj (tw cu cv x)))(h2:ev S ρ e2=some (aj (tw cu cv y)))(hx:x.length<=5000)(hy:y.length<=5000):ev S ρ (.b .Add e1 e2)=some (aj (tw cu cv (x++y))):=by have:=lm h1 h2 (by rw[gI,gI];exact NO ‹_› ‹_› rfl);rw[<- bY]at this;exact this
theorem jW (h1:ev S ρ e1=some (a6 cu cv l))(h2:ev S ρ e2=some (a6 cu cv m))(hl:l.length+m.length<=100000):ev S ρ (.b .Add e1 e2)=some (a6 cu cv (l++m)):=by have:=yM h1 h2 (by rw[dx,dx];exact hl);rw[<- List.map_append]at this;exact this
theorem jI (h:ev S ρ e=some (aj (tw cu cv x))):ev S ρ (.f .len (.c e .n))=some (ae x.length):=by
 have:=yN h
 rwa [gI]at this
theorem sI (h:ev S ρ e=some (a6 cu cv l)):ev S ρ (.f .len (.c e .n))=some (ae l.length):=by
 have:=CE h
 rwa [dx]at this
theorem CF (h:evT S ρ e=some b):evT S ρ (.z e)=some (!b):=by show(evT S ρ e).map (!·)=_;rw[h];rfl
theorem rJ:fS (aj (tw cu cv x)) (some (ae a)) none none=some (aj (tw cu cv (x.drop a))):=by rw[Ek,zS]
theorem m8:fS (aj (tw cu cv x)) none (some (ae a)) none=some (aj (tw cu cv (x.take a))):=by rw[El,zT]
theorem HK (h:cu≠cv)(x y:aB):bH .Eq (aj (tw cu cv x)) (aj (tw cu cv y))=some (.bool (x==y)):=by rw[IB,kP h]
theorem xc (h:cu≠cv)(x y:aB):bH .NotEq (aj (tw cu cv x)) (aj (tw cu cv y))=some (.bool (!(x==y))):=by show some (PyData.bool (!PyData.eqv (aj (tw cu cv x)) (aj (tw cu cv y))))=_;rw[sB,kP h]
theorem nX (h:cu≠cv)(t:aB)(E:List aB):bH .In (aj (tw cu cv t)) (a6 cu cv E)=some (.bool (decide (t∈E))):=by show(if gc 8 (aj (tw cu cv t))&&gc 8 (a6 cu cv E)then some (PyData.bool ((E.map fun t=>aj (tw cu cv t)).any fun y=>PyData.eqv y (aj (tw cu cv t))))else none)=_;rw[sy,wq h];rfl
theorem de (g:ρ.get n=some (a6 cu cv l)):dk S ρ (.e (.v n))=some (l.map fun x=>aj (tw cu cv x)):=bi (aa g) rfl
theorem fN.okw2 (Q:fN k cu cv)(h:x.length<=10000):(ww k cu cv x).length<=60000/\∀c∈ww k cu cv x,c<55296:=by have:=iD (xe Q.hk) (Q.ok (x:=x) h).2;rw[mG]at this;exact⟨aJ this.1 (Nat.mul_le_mul_left 6 (gI (cu:=cu) (cv:=cv) x▸h)),this.2⟩
theorem fN.okb (Q:fN k cu cv)(h:x.length<=10000):tc (ww k cu cv x):=⟨aJ (Q.okw2 h).1 (by decide),(Q.okw2 h).2⟩
theorem fN.writ (F:Facts S)(Q:fN k cu cv)(h:x.length<=10000):S.cal 46 [ae k,aj (tw cu cv x)]=some (aj (ww k cu cv x)):=by rw[F.c46 k _ Q.hk (Q.ok h),mG]
structure Dr (k cu cv:Nat)(l:List aB)(dr:D):Prop where
 at_:∀x∈l,jf dr (aj (tw cu cv x))=some (aj (ww k cu cv x))
 nt:dF dr=true
theorem fN.dots (F:Facts S)(Q:fN k cu cv)(y:g5 (wr k cu) (wr k cv))(hp:p.length<=1000)(hq:q.length<=1000)(hm:∀x∈ms,x.length<=1000)(hl:ms.length<=1000) :
  S.cal 32 [aj (be (ww k cu cv p::(ms.map (ww k cu cv)++[ww k cu cv q]))),aj (ww k cu cv g)]=some (.bool (eQ p ms q g)):=by
 have hh:∀z∈ww k cu cv p::(ms.map (ww k cu cv)++[ww k cu cv q]),∃x:aB,x.length<=1000/\z=ww k cu cv x:=fun z m=>by
  rcases bA m with rfl|m
  .exact⟨p,hp,rfl⟩
  .rcases cy m with m|m
   .obtain⟨x,mx,rfl⟩:=iz m;exact⟨x,hm x mx,rfl⟩
   .exact⟨q,hq,aS m⟩
 rw[F.c32 _ _ (by simp) (fun z m=>by obtain⟨x,_,rfl⟩:=hh z m;exact Q.dot x) (fun z m=>by obtain⟨x,hx,rfl⟩:=hh z m;exact Q.okb (aJ hx (by decide))) (by simp;exact qp ‹_› rfl),y.ell]
theorem fN.plain (F:Facts S)(Q:fN k cu cv):S.cal 32 [aj (ww k cu cv x),aj (ww k cu cv g)]=some (.bool (x==g)):=by rw[F.c320 _ _ (Q.dot x)];refine congrArg (fun b=>some (PyData.bool b)) ?_;rw[Bool.eq_iff_iff,beq_iff_eq,beq_iff_eq];exact Q.code.inj
theorem DF (g:ρ.get n=some (.bool b)):evT S ρ (.o .And (.c (.q .IsNot (.v n) (.l (.bool true))) (.c (.q .IsNot (.v n) (.l (.bool false))) .n)))=some false:=by
 cases b
 .exact bi (av (aa g) ar (t:=true) rfl) (bi (av (aa g) ar (t:=false) rfl) rfl)
 .exact bi (av (aa g) ar (t:=false) rfl) rfl
theorem KQ (x:aN):be [[],x,[]]=D3++x++D3:=by simp[be]
def yg (S:cU)(ρ:aF)(e:E)(a:aN)(m:Nat):Prop:=ev S ρ e=some (aj a)/\a.length<=m
theorem yg.add (h:yg S ρ e1 a m)(k:yg S ρ e2 b n)(l:Nat.ble (m+n) 100000=true):yg S ρ (.b .Add e1 e2) (a++b) (m+n):=
 ⟨lm h.1 k.1 (aJ (qx h.2 k.2) (oF l)),by rw[dR];exact qx h.2 k.2⟩
theorem yg.lit:yg S ρ (.l (.str "...")) D3 3:=⟨Ja,oF rfl⟩
def Kp (l:aN)(ρ ρ':aF):Prop:=∀m d,l.contains m=false->ρ.get m=some d->ρ'.get m=some d
theorem Kp.refl:Kp l ρ ρ:=fun _ _ _ g=>g
theorem Kp.set (K:Kp l ρ ρ')(h:l.contains n=true):Kp l ρ (ρ'.set n e):=fun m d q g=>db (fun z=>by rw[z,h]at q;exact Bool.noConfusion q) (K m d q g)
theorem Kp.trans (K:Kp l ρ ρ')(K2:Kp l ρ' ρ2):Kp l ρ ρ2:=fun m d q g=>K2 m d q (K m d q g)
theorem Kp.mono (K:Kp l ρ ρ')(h:l.all l'.contains=true):Kp l' ρ ρ':=fun m d q g=>K m d (Bool.eq_false_iff.mpr fun z=>by rw[br h m (List.contains_iff_mem.mp z)]at q;exact Bool.noConfusion q) g
end
section
variable {S:cU}{k cu cv:Nat}
noncomputable def xA (x:aB):aB:=x.drop 1++x.take 1
noncomputable def kE (ws:List aB)(n:Nat):aB:=ws.getD (n / 3 % ws.length) []
def eT (ws:List aB)(n:Nat)(x:aB):List aB:=
 if n % 3<2/\x.length<3/\ws.length<6 then(if n % 3=0 then[x++[false],x++[true]]else[false::x,true::x])else[xA x]
def fg (ws:List aB)(n:Nat):List aB:=
 (ws.filter fun x=>!(x==kE ws n)&&!decide (x∈eT ws n (kE ws n)))++eT ws n (kE ws n)
noncomputable def kM (ws:List aB)(s:aB):List aB:=
 if s=[]then ws else if s∈ws then ws.filter (fun x=>!(x==s))else ws++[s]
def eu (ps:aN)(s:aB):List aB:=kM (ps.foldl fg [[false],[true]]) s
structure ue (n:Nat)(ws:List aB):Prop where
 ne:ws≠[]
 len:ws.length<=n
 sz:∀x∈ws,1<=x.length/\x.length<=3
theorem vG (h:ws≠[])(n:Nat):ws[n / 3 % ws.length]?=some (kE ws n):=by have:=Nat.mod_lt (n / 3) (List.length_pos_iff.mpr h);unfold kE;rw[List.getD_eq_getElem?_getD,List.getElem?_eq_getElem this];rfl
theorem pU (h:ws≠[])(n:Nat):kE ws n∈ws:=qw (vG h n)
theorem GS:∀x:aB,(xA x).length=x.length
 |[]=>rfl
 |a::l=>dR
theorem uV (h:1<=x.length/\x.length<=3):eT ws n x≠[]/\(eT ws n x).length<=2/\∀y∈eT ws n x,1<=y.length/\y.length<=3:=by
 unfold eT;by_cases c:n % 3<2/\x.length<3/\ws.length<6
 .rw[if_pos c];have l3:1<=x.length+1/\x.length+1<=3:=⟨Nat.le_add_left _ _,c.2.1⟩;by_cases d:n % 3=0
  .rw[if_pos d];refine⟨List.cons_ne_nil _ _,fc _,fun y m=>?_⟩;rcases bA m with rfl|m
   .rw[dR];exact l3
   .rw[aS m,dR];exact l3
  .rw[if_neg d];refine⟨List.cons_ne_nil _ _,fc _,fun y m=>?_⟩;rcases bA m with rfl|m
   .exact l3
   .rw[aS m];exact l3
 .rw[if_neg c];refine⟨List.cons_ne_nil _ _,Nat.le_succ _,fun y m=>?_⟩;rw[aS m,GS];exact h
theorem jU (W:ue N ws)(n:Nat):ue (N+2) (fg ws n):=by
 obtain⟨f1,f2,f3⟩:=uV (ws:=ws) (n:=n) (W.sz _ (pU W.ne n));unfold fg;refine⟨fun e=>f1 (List.append_eq_nil_iff.mp e).2, ?_,fun x m=>?_⟩
 .rw[dR];exact qx (aJ (List.length_filter_le _ _) W.len) f2
 .rcases cy m with m|m
  .exact W.sz x (List.mem_filter.mp m).1
  .exact f3 x m
section
variable (h:cu≠cv){ρ:aF}{ws:List aB}{n N:Nat}{x:aB}
include h
theorem MG (W:ue N ws)(g52:ρ.get 52=some (a6 cu cv ws))(g54:ρ.get 54=some (ae n))(hN:N<=100):ex S ρ MF=some (.n (ρ.set 57 (aj (tw cu cv (kE ws n))))):=by have hp:=List.length_pos_iff.mpr W.ne;exact aK (bk (aa g52) (aC (aC (aa g54) (ar (d:=ae 3)) (ia (by decide) (by decide))) (sI (aa g52)) (dT hp)) (hH (by rw[List.getElem?_map,vG W.ne];rfl)))
theorem MI (g57:ρ.get 57=some (aj (tw cu cv x)))(hx:x.length<=3):ex S ρ MH=some (.n (ρ.set 56 (a6 cu cv [xA x]))):=by have hd:(x.drop 1).length<=5000:=aJ (F5 _ _) (aJ hx (by decide));have ht:(x.take 1).length<=5000:=aJ (List.length_take_le _ _) (by decide);exact aK (dB (ah (jC (iE (aa g57) (fU (ar (d:=ae 1))) fQ fQ rJ) (iE (aa g57) fQ (fU (ar (d:=ae 1))) fQ m8) hd ht) aw) (oF rfl))
theorem xa:bH .Lt (ae a) (ae b)=some (.bool (decide (a<b))):=by rw[gQ];exact congrArg (fun b=>some (PyData.bool b)) (decide_eq_decide.mpr Int.ofNat_lt)
theorem j6 {ρ:aF}{g:Bool->aB}(g58:ρ.get 58=some (aj [cu,cv]))(hg:∀s,∀ρ':aF,(∀m d,m≠50->ρ.get m=some d->ρ'.get m=some d)->ρ'.get 50=some (aj (tw cu cv [s]))->ev S ρ' elt=some (aj (tw cu cv (g s)))):ev S ρ (.p elt (.c [50] (.e (.v 58)) .n .n))=some (a6 cu cv [g false,g true]):=
 cH (l:=[false,true]) (i:=fun s=>aj (tw cu cv [s])) (g:=fun s=>aj (tw cu cv (g s))) (iq g58) fun s _=>⟨(ρ.del ([50]++[])).set 50 (aj (tw cu cv [s])),rfl,hg s _ (fun m d hm gm=>db hm (sw hm gm)) an⟩
omit h in
theorem M7 {a b c:E}{x y z:Bool}(h1:evT S ρ a=some x)(h2:evT S ρ b=some y)(h3:evT S ρ c=some z):evT S ρ (.o .And (.c a (.c b (.c c .n))))=some (x&&(y&&z)):=by
 refine bi h1 ?_;cases x
 .rfl
 .refine bi h2 ?_;cases y
  .rfl
  .exact bi h3 (by cases z <;> rfl)
theorem MK (g52:ρ.get 52=some (a6 cu cv ws))(g54:ρ.get 54=some (ae n))(g57:ρ.get 57=some (aj (tw cu cv x)))(g58:ρ.get 58=some (aj [cu,cv]))(g56:ρ.get 56=some (a6 cu cv [xA x])):∃ρ',ex S ρ MJ=some (.n ρ')/\ρ'.get 56=some (a6 cu cv (eT ws n x))/\Kp [56] ρ ρ':=by
 have m3:ev S ρ (.b .Mod (.v 54) (.l (.int 3)))=some (ae (n % 3)):=aC (aa g54) (ar (d:=ae 3)) (dT (by decide));have hc:=M7 (S:=S) (av m3 (ar (d:=ae 2)) (xa h)) (av (jI (aa g57)) (ar (d:=ae 3)) (xa h)) (av (sI (aa g52)) (ar (d:=ae 6)) (xa h));rw[<- Bool.decide_and,<- Bool.decide_and]at hc;by_cases c:n % 3<2/\x.length<3/\ws.length<6
 .rw[dg c]at hc;have hx:x.length<=5000:=aJ (il c.2.1) (by decide);have e1:=j6 (S:=S) h (elt:=.b .Add (.v 57) (.v 50)) (g:=fun s=>x++[s]) g58 fun s ρ' k g=>jC (aa (k 57 _ (by decide) g57)) (aa g) hx (by show 1<=5000;decide);have e2:=j6 (S:=S) h (elt:=.b .Add (.v 50) (.v 57)) (g:=fun s=>[s]++x) g58 fun s ρ' k g=>jC (aa g) (aa (k 57 _ (by decide) g57)) (by show 1<=5000;decide) hx;refine⟨ρ.set 56 (a6 cu cv (eT ws n x)),jg hc (ag (aK (bk (dB (ah e1 (ah e2 aw)) (oF rfl)) m3 (hH ?_))) rfl),an,Kp.refl.set rfl⟩;unfold eT;rw[if_pos c];rcases Nat.le_one_iff_eq_zero_or_eq_one.mp (Nat.le_of_lt_succ c.1)with e|e <;> rw[e] <;> rfl
 .rw[cG c]at hc;exact⟨ρ,ct hc rfl,by unfold eT;rw[if_neg c];exact g56,Kp.refl⟩
theorem MM (g52:ρ.get 52=some (a6 cu cv ws))(g56:ρ.get 56=some (a6 cu cv fs))(g57:ρ.get 57=some (aj (tw cu cv x)))(hl:ws.length+fs.length<=1000):ex S ρ ML=some (.n (ρ.set 52 (a6 cu cv ((ws.filter fun y=>!(y==x)&&!decide (y∈fs))++fs)))):=by
 have key:=lk (S:=S) (ρ:=ρ) (elt:=.v 3) (c:=.o .And (.c (.q .NotEq (.v 3) (.v 57)) (.c (.q .NotIn (.v 3) (.v 56)) .n))) (tg:=[3]) (src:=.e (.v 52)) (l:=ws) (i:=fun y=>aj (tw cu cv y)) (g:=fun y=>aj (tw cu cv y)) (p:=fun y=>!(y==x)&&!decide (y∈fs)) (de g52) fun y _=>⟨(ρ.del ([3]++[])).set 3 (aj (tw cu cv y)),rfl,by
  refine bi (av (aa an) (aa (cm rfl (nj rfl g57))) (xc h y x)) ?_;cases y==x
  .exact bi (av (aa an) (aa (cm rfl (nj rfl g56))) (qN h y fs)) (by cases decide (y∈fs) <;> rfl)
  .rfl,fun _=>aa an⟩
 have hf:(ws.filter fun y=>!(y==x)&&!decide (y∈fs)).length<=ws.length:=List.length_filter_le _ _;exact aK (jW key (aa g56) (aJ (Nat.add_le_add_right hf _) (aJ hl (by decide))))
theorem yc {ns:aN}:∀{ws:List aB}{N:Nat}{ρ:aF},ue N ws->N+2*ns.length<=100->ρ.get 58=some (aj [cu,cv])->ρ.get 52=some (a6 cu cv ws) ->
  ∃ρ',pv (fun d ρ'=>(bx ρ' [54] d).bind fun ρ''=>dP S ρ'' z6) (ns.map ae) ρ=some (.n ρ')/\ρ'.get 52=some (a6 cu cv (ns.foldl fg ws))/\ue (N+2*ns.length) (ns.foldl fg ws)/\Kp [52,54,56,57] ρ ρ':=by
 induction ns with
 |nil=>exact fun{ws N ρ} W _ _ g52=>⟨ρ,rfl,g52,W,Kp.refl⟩
 |cons n ns ih =>
  intro ws N ρ W hN g58 g52;have en:N+2*(n::ns).length=N+2+2*ns.length:=by rw[sW,Nat.mul_succ,Nat.add_comm (2*_),Nat.add_assoc]
  rw[en]at hN ⊢;have hN1:=aJ (nr _ _) hN;obtain⟨z1,z2⟩:=W.sz _ (pU W.ne n);obtain⟨f1,f2,f3⟩:=uV (ws:=ws) (n:=n) ⟨z1,z2⟩;have s0:=MG (S:=S) h (ρ:=ρ.set 54 (ae n)) (n:=n) W (cm rfl g52) an (aJ (nr _ _) hN1);have K0:Kp [54,57,56] ρ (((ρ.set 54 (ae n)).set 57 (aj (tw cu cv (kE ws n)))).set 56 (a6 cu cv [xA (kE ws n)])):=((Kp.refl.set rfl).set rfl).set rfl;have s1:=MI (S:=S) h (ρ:=(ρ.set 54 (ae n)).set 57 (aj (tw cu cv (kE ws n)))) an z2;have q57:(((ρ.set 54 (ae n)).set 57 (aj (tw cu cv (kE ws n)))).set 56 (a6 cu cv [xA (kE ws n)])).get 57=_:=cm rfl an;obtain⟨ρ1,s2,r56,k1⟩:=MK (S:=S) h (ws:=ws) (n:=n) (x:=kE ws n) (K0 52 _ rfl g52) (cm rfl (cm rfl an)) q57 (K0 58 _ rfl g58) an;have K1:Kp [54,57,56] ρ ρ1:=K0.trans (k1.mono rfl);have s3:=MM (S:=S) h (ρ:=ρ1) (ws:=ws) (x:=kE ws n) (K1 52 _ rfl g52) r56 (k1 57 _ rfl q57) (aJ (qx W.len f2) (aJ hN1 (by decide)));obtain⟨ρ',e1,e2,e3,e4⟩:=ih (ρ:=ρ1.set 52 (a6 cu cv (fg ws n))) (jU W n) hN (cm rfl (K1 58 _ rfl g58)) an;exact⟨ρ',qY (ag s0 (ag s1 (ag s2 (ag s3 rfl)))) e1,e2,e3,((K1.mono rfl).set rfl).trans e4⟩
theorem Bg {ns:aN}(hn:ns.length<=5):aV S hE [aj [cu,cv], .list (ns.map ae),aj (tw cu cv s)]=some (a6 cu cv (eu ns s)):=by
 refine cF rfl ?_;show dP S [(58,aj [cu,cv]),(55, .list (ns.map ae)),(53,aj (tw cu cv s))] _=_;have W0:ue 2 [[false],[true]]:=⟨List.cons_ne_nil _ _,fc _,fun x m=>by
  rcases bA m with rfl|m
  .exact⟨fc _,by decide⟩
  .rw[aS m];exact⟨fc _,by decide⟩⟩
 refine ag (ρ':=[(58,aj [cu,cv]),(55, .list (ns.map ae)),(53,aj (tw cu cv s)),(52,a6 cu cv [[false],[true]])]) rfl ?_;obtain⟨ρ1,a1,a2,a3,a4⟩:=yc (S:=S) h (ns:=ns) (ρ:=[(58,aj [cu,cv]),(55, .list (ns.map ae)),(53,aj (tw cu cv s)),(52,a6 cu cv [[false],[true]])]) W0 (aJ (Nat.add_le_add_left (Nat.mul_le_mul_left 2 hn) 2) (by decide)) rfl rfl;have hs:dk S [(58,aj [cu,cv]),(55, .list (ns.map ae)),(53,aj (tw cu cv s)),(52,a6 cu cv [[false],[true]])] (.e (.v 55))=some (ns.map ae):=rfl;refine ag (lq hs a1) ?_;have q53:ρ1.get 53=some (aj (tw cu cv s)):=a4 53 _ rfl rfl;generalize hw:ns.foldl fg [[false],[true]]=ws at a2 a3;have t0:evT S ρ1 (.q .Eq (.v 53) (.l (.str "")))=some (s==[]):=av (aa q53) ar (HK h s []);unfold eu kM;rw[hw];by_cases c0:s=[]
 .rw[if_pos c0];rw[beq_iff_eq.mpr c0]at t0;exact au (jg t0 (au (bE (aa a2))))
 rw[if_neg c0];rw[beq_eq_false_iff_ne.mpr c0]at t0;refine ag (ct t0 rfl) ?_;have t1:evT S ρ1 (.q .In (.v 53) (.v 52))=some (decide (s∈ws)):=av (aa q53) (aa a2) (nX h s ws);by_cases c1:s∈ws
 .rw[if_pos c1];rw[dg c1]at t1;refine au (jg t1 (au (bE ?_)));exact lk (S:=S) (ρ:=ρ1) (elt:=.v 3) (c:=.q .NotEq (.v 3) (.v 53)) (tg:=[3]) (src:=.e (.v 52)) (l:=ws) (i:=fun y=>aj (tw cu cv y)) (g:=fun y=>aj (tw cu cv y)) (p:=fun y=>!(y==s)) (de a2) fun y _=>⟨(ρ1.del ([3]++[])).set 3 (aj (tw cu cv y)),rfl,av (aa an) (aa (cm rfl (nj rfl q53))) (xc h y s),fun _=>aa an⟩
 .rw[if_neg c1];rw[cG c1]at t1;have wl:=a3.len;exact ag (ct t1 rfl) (au (bE (jW (aa a2) (dB (ah (aa q53) aw) (oF rfl)) (aJ (Nat.succ_le_succ (aJ wl (Nat.add_le_add_left (Nat.mul_le_mul_left 2 hn) 2))) (by decide)))))
end
def Tl (mir:Bool)(s w t:aB):Prop:=(if mir then t++s else s++t)=w
noncomputable def GN (mir:Bool)(s w:aB):Bool:=if mir then s.isSuffixOf w else s.isPrefixOf w
theorem pre_tl:GN mir s w=true↔∃t,Tl mir s w t:=by
 unfold GN Tl;cases mir
 .exact List.isPrefixOf_iff_prefix
 .exact List.isSuffixOf_iff_suffix
inductive yf (mir:Bool)(ws:List aB):aB->Prop
 |base {s w t:aB}(hs:s∈ws)(hw:w∈ws)(hn:s≠w)(h:Tl mir s w t):yf mir ws t
 |left {u w t:aB}(hu:yf mir ws u)(hw:w∈ws)(h:Tl mir u w t):yf mir ws t
 |right {u w t:aB}(hu:yf mir ws u)(hw:w∈ws)(h:Tl mir w u t):yf mir ws t
structure Hx (mir:Bool)(ws L:List aB):Prop where
 out:∀t∈L,t∉ws
 base:∀s w t,s∈ws->w∈ws->s≠w->Tl mir s w t->t∈L
 left:∀u w t,u∈L->w∈ws->Tl mir u w t->t∈L
 right:∀u w t,u∈L->w∈ws->Tl mir w u t->t∈L
theorem F8 (s w:aB):eQ s [] [] w=s.isPrefixOf w:=by
 unfold eQ;have h1:([]:aB).isSuffixOf w=true:=List.isSuffixOf_iff_suffix.mpr (List.nil_suffix);rw[h1];cases h:s.isPrefixOf w with
 |false=>rfl
 |true =>
  have:=(List.isPrefixOf_iff_prefix.mp h).length_le;rw[dg (by rw[List.length_nil];exact this)];rfl
theorem F9 (s w:aB):eQ [] [] s w=s.isSuffixOf w:=by
 unfold eQ;have h1:([]:aB).isPrefixOf w=true:=rfl;rw[h1];cases h:s.isSuffixOf w with
 |false=>rfl
 |true =>
  have:=(List.isSuffixOf_iff_suffix.mp h).length_le;rw[dg (by rw[List.length_nil,Nat.zero_add];exact this)];rfl
def Ib (k cu cv:Nat)(dr:D):Prop:=∀x:aB,x.length<=3->jf dr (aj (tw cu cv x))=some (aj (ww k cu cv x))
theorem y7 (a b:Bool):bH .IsNot (.bool a) (.bool b)=some (.bool (a != b)):=by cases a <;> cases b <;> rfl
theorem cP (g:ρ.get n=some (.bool b)):evT S ρ (.v n)=some b:=bi g rfl
theorem Ik (h:evT S ρ a=some false):evT S ρ (.o .And (.c a r))=some false:=bi h rfl
theorem ug (h:evT S ρ a=some true)(h2:evT S ρ b=some t):evT S ρ (.o .And (.c a (.c b .n)))=some t:=bi h (bi h2 (by cases t <;> rfl))
section
variable (F:Facts S)(Q:fN k cu cv)(y:g5 (wr k cu) (wr k cv)){dr:D}(Dd:Ib k cu cv dr){ws:List aB}{mir:Bool}{ρ:aF}{s w:aB}
include F Q y Dd
theorem Mx (g66:ρ.get 66=some dr)(g67:ρ.get 67=some (.bool mir))(g61:ρ.get 61=some (aj (tw cu cv s)))(g62:ρ.get 62=some (aj (tw cu cv w)))(hs:s.length<=3)(hw:w.length<=3):ex S ρ Mw=some (.n (ρ.set 65 (.bool (GN mir s w)))):=by
 have hl:(ww k cu cv s).length<=18:=aJ (Q.len (aJ hs (by decide))) (Nat.mul_le_mul_left 6 hs);have e61:ev S ρ (.s (.v 66) (.v 61))=some (aj (ww k cu cv s)):=bk (aa g66) (aa g61) (Dd s hs);have e62:ev S ρ (.s (.v 66) (.v 62))=some (aj (ww k cu cv w)):=bk (aa g66) (aa g62) (Dd w hw);refine aK ?_;have m:∀x∈([]:List aB),x.length<=1000:=fun _ m=>nomatch m;cases mir
 .have q:=Q.dots F y (p:=s) (ms:=[]) (q:=[]) (g:=w) (aJ hs (by decide)) (gL _) m (gL _);rw[F8]at q;have e:be (ww k cu cv s::(([]:List aB).map (ww k cu cv)++[ww k cu cv []]))=ww k cu cv s++D3:=by show ww k cu cv s++D3++[]=_;rw[List.append_nil]
  rw[e]at q;exact aX (ah (ll (t:=false) (cP g67) (lm e61 Ja (aJ (Nat.add_le_add_right hl 3) (by decide)))) (ah e62 aw)) q
 .have q:=Q.dots F y (p:=[]) (ms:=[]) (q:=s) (g:=w) (gL _) (aJ hs (by decide)) m (gL _);rw[F9]at q;have e:be (ww k cu cv []::(([]:List aB).map (ww k cu cv)++[ww k cu cv s]))=D3++ww k cu cv s:=rfl;rw[e]at q;exact aX (ah (ll (t:=true) (cP g67) (lm Ja e61 (aJ (Nat.add_le_add_left hl 3) (by decide)))) (ah e62 aw)) q
omit F Q y Dd in
theorem MA (g67:ρ.get 67=some (.bool mir))(g61:ρ.get 61=some (aj (tw cu cv s)))(g62:ρ.get 62=some (aj (tw cu cv w))):∃d,ex S ρ Mz=some (.n (ρ.set 63 d))/\∀t,Tl mir s w t->d=aj (tw cu cv t):=by
 have l1:ev S ρ (.f .len (.c (.v 62) .n))=some (ae w.length):=jI (aa g62);have l2:ev S ρ (.f .len (.c (.v 61) .n))=some (ae s.length):=jI (aa g61);cases mir
 .refine⟨aj (tw cu cv (w.drop s.length)),aK (ll (t:=false) (cP g67) (iE (aa g62) (fU l2) fQ fQ rJ)),fun t h=>?_⟩;have h:s++t=w:=h;rw[<- h,List.drop_left]
 .by_cases c:s.length<=w.length
  .refine⟨aj (tw cu cv (w.take (w.length-s.length))),aK (ll (t:=true) (cP g67) (iE (aa g62) fQ (fU (aC l1 l2 (ge c))) fQ m8)),fun t h=>?_⟩;have h:t++s=w:=h;rw[<- h,dR,Nat.add_sub_cancel,List.take_left]
  .refine⟨_,aK (ll (t:=true) (cP g67) (iE (aa g62) fQ (fU (aC (z:=.int ((w.length:Int)-s.length)) l1 l2 rfl)) fQ rfl)),fun t h=>?_⟩;have h:t++s=w:=h;rw[<- h,dR]at c;exact absurd (Nat.le_add_left _ _) c
theorem MC (g66:ρ.get 66=some dr)(g52:ρ.get 52=some (a6 cu cv ws))(g63:ρ.get 63=some (aj (tw cu cv t)))(ht:t.length<=3)(hb:Bd 3 ws) :
  evT S ρ (.q .NotEq (.p (.v 57) (.c [57] (.e (.v 52)) (.c (.q .IsNot (.c 32 (.c (.s (.v 66) (.v 63)) (.c (.s (.v 66) (.v 57)) .n))) (.q .Eq (.v 57) (.v 63))) .n) .n)) (.i .n))=some false:=by
 have key:=lk (S:=S) (ρ:=ρ) (elt:=.v 57) (c:=.q .IsNot (.c 32 (.c (.s (.v 66) (.v 63)) (.c (.s (.v 66) (.v 57)) .n))) (.q .Eq (.v 57) (.v 63))) (tg:=[57]) (src:=.e (.v 52)) (l:=ws) (i:=fun z=>aj (tw cu cv z)) (g:=fun z=>aj (tw cu cv z)) (p:=fun _=>false) (de g52) fun z m=>⟨(ρ.del ([57]++[])).set 57 (aj (tw cu cv z)),rfl,by
  have q66:((ρ.del ([57]++[])).set 57 (aj (tw cu cv z))).get 66=some dr:=cm rfl (nj rfl g66);have q63:((ρ.del ([57]++[])).set 57 (aj (tw cu cv z))).get 63=some (aj (tw cu cv t)):=cm rfl (nj rfl g63);have c1:bH .IsNot (.bool (t==z)) (.bool (z==t))=some (.bool false):=by rw[y7,show(t==z)=(z==t)from Bool.beq_comm];cases z==t <;> rfl
  exact av (aX (ah (bk (aa q66) (aa q63) (Dd t ht)) (ah (bk (aa q66) (aa an) (Dd z (hb z m))) aw)) (Q.plain F)) (jH (aa an) (aa q63) (HK Q.code_ne z t)) c1,fun h=>nomatch h⟩
 have e:ws.filter (fun _=>false)=[]:=List.filter_eq_nil_iff.mpr fun _ _ h=>nomatch h;rw[e]at key;exact av key rfl rfl
omit F Q y Dd in
theorem EJ (h:Tl mir s w t)(h':Tl mir s w u):u=t:=by
 have h1:(if mir then t++s else s++t)=w:=h;have h2:(if mir then u++s else s++u)=w:=h';cases mir
 .exact List.append_cancel_left (h2.trans h1.symm)
 .exact List.append_cancel_right (h2.trans h1.symm)
omit F Q y Dd in
theorem EK (h:Tl mir s w t):t.length<=w.length:=by
 have h:(if mir then t++s else s++t)=w:=h;rw[<- h];cases mir
 .exact dR▸Nat.le_add_left _ _
 .exact dR▸nr _ _
structure OE (cu cv:Nat)(dr:D)(ws:List aB)(mir:Bool)(A:List Wt)(L:List aB)(ρ:aF):Prop where
 g52:ρ.get 52=some (a6 cu cv ws)
 g66:ρ.get 66=some dr
 g67:ρ.get 67=some (.bool mir)
 g60:ρ.get 60=some (.list (A.map (t9 cu cv)))
 g64:ρ.get 64=some (a6 cu cv L)
omit F Q y Dd in
theorem OE.keep (g:OE cu cv dr ws mir A L ρ)(K:Kp [60,61,62,63,64,65] ρ ρ')(h60:ρ'.get 60=some (.list (A'.map (t9 cu cv))))(h64:ρ'.get 64=some (a6 cu cv L')):OE cu cv dr ws mir A' L' ρ':=⟨K 52 _ rfl g.g52,K 66 _ rfl g.g66,K 67 _ rfl g.g67,h60,h64⟩
noncomputable def rm (ws:List aB)(A:List Wt)(t:aB):List Wt:=A++(ws.map (fun o=>(t,o))++ws.map (fun o=>(o,t)))
inductive uc (mir:Bool)(ws:List aB)(A:List Wt)(L:List aB)(s w:aB)(cu cv:Nat)(dr:D):Option gZ->Prop
 |skip {ρ:aF}(g:OE cu cv dr ws mir A L ρ)(h:∀t,Tl mir s w t->t∈L/\t∉ws):uc mir ws A L s w cu cv dr (some (.n ρ))
 |hit {t:aB}(h:Tl mir s w t)(ht:t∈ws):uc mir ws A L s w cu cv dr (some (.r (.bool false)))
 |more {ρ:aF}{t:aB}(g:OE cu cv dr ws mir (rm ws A t) (L++[t]) ρ)(h:Tl mir s w t)(ht:t∉ws)(hL:t∉L):uc mir ws A L s w cu cv dr (some (.n ρ))
theorem DU (g:OE cu cv dr ws mir A L ρ)(hs:s.length<=3)(hw:w.length<=3)(hb:Bd 3 ws)(hA:A.length<=13000)(hL:L.length<=15)(hl:ws.length<=100) :
  uc mir ws A L s w cu cv dr ((bx ρ [61,62] (t9 cu cv (s,w))).bind fun ρ''=>dP S ρ'' ga):=by
 show uc mir ws A L s w cu cv dr (dP S ((ρ.set 61 (aj (tw cu cv s))).set 62 (aj (tw cu cv w))) ga);have K1:Kp [60,61,62,63,64,65] ρ ((ρ.set 61 (aj (tw cu cv s))).set 62 (aj (tw cu cv w))):=(Kp.refl.set rfl).set rfl;have K0:Kp [61,62] ρ ((ρ.set 61 (aj (tw cu cv s))).set 62 (aj (tw cu cv w))):=(Kp.refl.set rfl).set rfl;have q61:((ρ.set 61 (aj (tw cu cv s))).set 62 (aj (tw cu cv w))).get 61=some (aj (tw cu cv s)):=cm rfl an;have q62:((ρ.set 61 (aj (tw cu cv s))).set 62 (aj (tw cu cv w))).get 62=some (aj (tw cu cv w)):=an;generalize (ρ.set 61 (aj (tw cu cv s))).set 62 (aj (tw cu cv w))=ρ1 at K1 K0 q61 q62 ⊢;have s0:=Mx F Q y Dd (K1 66 _ rfl g.g66) (K1 67 _ rfl g.g67) q61 q62 hs hw;generalize hb':GN mir s w=b at s0;have q65:(ρ1.set 65 (.bool b)).get 65=some (.bool b):=an;have K2:Kp [61,62,65] ρ (ρ1.set 65 (.bool b)):=(K0.mono rfl).set rfl;have r61:(ρ1.set 65 (.bool b)).get 61=_:=cm rfl q61;have r62:(ρ1.set 65 (.bool b)).get 62=_:=cm rfl q62;generalize ρ1.set 65 (.bool b)=ρ2 at s0 q65 K2 r61 r62;have s1:ex S ρ2 My=some (.n ρ2):=ct (DF q65) rfl;obtain⟨d,s2,hd⟩:=MA (S:=S) (ρ:=ρ2) (mir:=mir) (s:=s) (w:=w) (cu:=cu) (cv:=cv) (K2 67 _ rfl g.g67) r61 r62;have K3:Kp [61,62,63,65] ρ (ρ2.set 63 d):=(K2.mono rfl).set rfl;have r65:(ρ2.set 63 d).get 65=some (.bool b):=cm rfl q65;have r63:(ρ2.set 63 d).get 63=some d:=an;generalize ρ2.set 63 d=ρ3 at s2 K3 r65 r63;have g3:OE cu cv dr ws mir A L ρ3:=g.keep (K3.mono rfl) (K3 60 _ rfl g.g60) (K3 64 _ rfl g.g64);have r52:=g3.g52;cases b with
 |false =>
  have e:dP S ρ1 ga=some (.n ρ3):=ag s0 (ag s1 (ag s2 (ag (ct (Ik (cP r65)) rfl) (ag (ct (Ik (cP r65)) rfl) (ag (ct (Ik (cP r65)) rfl) rfl)))));rw[e];exact .skip g3 fun t ht=>absurd (pre_tl.mpr ⟨t,ht⟩) (by rw[hb'];exact g6)
 |true =>
  obtain⟨t,ht⟩:=pre_tl.mp hb';have hd:=hd t ht;subst hd;have tl:=aJ (EK ht) hw;have s3:ex S ρ3 MB=some (.n ρ3):=ct (ug (cP r65) (MC F Q y Dd g3.g66 r52 r63 tl hb)) rfl;have t4:evT S ρ3 (.q .In (.v 63) (.v 52))=some (decide (t∈ws)):=av (aa r63) (aa r52) (nX Q.code_ne t ws);by_cases c1:t∈ws
  .rw[dg c1]at t4;have e:dP S ρ1 ga=some (.r (.bool false)):=ag s0 (ag s1 (ag s2 (ag s3 (au (jg (ug (cP r65) t4) (au (bE ar)))))));rw[e];exact .hit ht c1
  .rw[cG c1]at t4;have s4:ex S ρ3 MD=some (.n ρ3):=ct (ug (cP r65) t4) rfl;have t5:evT S ρ3 (.ocmp .NotIn (.v 63) 64)=some (!decide (t∈L)):=by refine bi (x:=.bool (!decide (t∈L))) (bi (aa r63) ?_) rfl;rw[g3.g64];show(bH .NotIn (aj (tw cu cv t)) (a6 cu cv L)).bind _=_;rw[qN Q.code_ne];rfl
   by_cases c2:t∈L
   .rw[dg c2]at t5;have e:dP S ρ1 ga=some (.n ρ3):=ag s0 (ag s1 (ag s2 (ag s3 (ag s4 (ag (ct (ug (cP r65) t5) rfl) rfl)))));rw[e];exact .skip g3 fun t' ht'=>by rw[EJ ht ht'];exact⟨c2,c1⟩
   .rw[cG c2]at t5;have K4:Kp [64] ρ3 (ρ3.set 64 (a6 cu cv (L++[t]))):=Kp.refl.set rfl;have q64:(ρ3.set 64 (a6 cu cv (L++[t]))).get 64=some (a6 cu cv (L++[t])):=an;generalize hρ4:ρ3.set 64 (a6 cu cv (L++[t]))=ρ4 at K4 q64;have s5:ex S ρ3 (.a 64 (.v 63))=some (.n ρ4):=by show fM (ρ3.get 64) (fun xs=>(ev S ρ3 (.v 63)).bind fun d=>if xs.length<1000000 then some (gZ.n (aF.set ρ3 64 (.list (xs++[d]))))else none)=_;rw[g3.g64];refine(bi (aa r63) ?_:(ev S ρ3 (.v 63)).bind _=_);rw[if_pos (by rw[dx];exact lC hL (by decide)),<- hρ4,a6,List.map_append];rfl
    have q63:=K4 63 _ rfl r63;have q52:=K4 52 _ rfl r52;have c1':ev S ρ4 (.p (.t (.c (.v 63) (.c (.v 57) .n))) (.c [57] (.e (.v 52)) .n .n))=some (.list ((ws.map fun o=>(t,o)).map (t9 cu cv))):=by rw[kR];exact cH (de q52) fun o _=>⟨(ρ4.del ([57]++[])).set 57 (aj (tw cu cv o)),rfl,dW (aa (cm rfl (nj rfl q63))) (aa an)⟩
    have c2':ev S ρ4 (.p (.t (.c (.v 57) (.c (.v 63) .n))) (.c [57] (.e (.v 52)) .n .n))=some (.list ((ws.map fun o=>(o,t)).map (t9 cu cv))):=by rw[kR];exact cH (de q52) fun o _=>⟨(ρ4.del ([57]++[])).set 57 (aj (tw cu cv o)),rfl,dW (aa an) (aa (cm rfl (nj rfl q63)))⟩
    have lw:(ws.map fun o=>(t,o)).length+(ws.map fun o=>(o,t)).length<=200:=by rw[dx,dx];exact qx hl hl
    have c3':=yM c1' c2' (by rw[dx,dx,dx,dx];exact aJ (qx hl hl) (by decide));rw[<- List.map_append]at c3';have s6:ex S ρ4 (.ext 60 (.b .Add (.p (.t (.c (.v 63) (.c (.v 57) .n))) (.c [57] (.e (.v 52)) .n .n)) (.p (.t (.c (.v 57) (.c (.v 63) .n))) (.c [57] (.e (.v 52)) .n .n))))=some (.n (ρ4.set 60 (.list ((rm ws A t).map (t9 cu cv))))):=by show fM (ρ4.get 60) (fun xs=>fM (ev S ρ4 _) fun ys=>if xs.length+ys.length<1000000 then some (gZ.n (aF.set ρ4 60 (.list (xs++ys))))else none)=_;rw[K4 60 _ rfl g3.g60,c3'];show(if _ then _ else none)=_;rw[if_pos (by rw[dx,dx,dR];exact lC (qx hA lw) (by decide)),<- List.map_append];rfl
    have e:dP S ρ1 ga=some (.n (ρ4.set 60 (.list ((rm ws A t).map (t9 cu cv))))):=ag s0 (ag s1 (ag s2 (ag s3 (ag s4 (ag (jg (ug (cP r65) t5) (ag s5 (ag s6 rfl))) rfl)))));rw[e];exact .more (g3.keep ((K4.mono rfl).set rfl) an (cm rfl q64)) ht c1 c2
end
theorem fy [BEq α][LawfulBEq α]:∀{L M:List α},L.Nodup->(∀x∈L,x∈M)->L.length<=M.length
 |[],M,_,_=>gL _
 |x::L,M,hn,hm=>by obtain⟨h1,h2⟩:=List.nodup_cons.mp hn;have mx:=hm x (.head _);have ih:=fy (L:=L) (M:=M.erase x) h2 fun z mz=>(List.mem_erase_of_ne (fun(e:z=x)=>h1 (by rw[<- e];exact mz))).mpr (hm z (.tail _ mz));rw[List.length_erase_of_mem mx]at ih;exact aJ (Nat.succ_le_succ ih) (Nat.le_of_eq (Nat.sub_add_cancel (List.length_pos_of_mem mx)))
noncomputable def Ii:List aB:=[[],[false],[true],[false,false],[false,true],[true,false],[true,true],[false,false,false],[false,false,true],[false,true,false],[false,true,true],[true,false,false],[true,false,true],[true,true,false],[true,true,true]]
theorem nq:∀{x:aB},x.length<=3->x∈Ii
 |[],_=>by decide +kernel
 |[a],_=>by revert a;decide +kernel
 |[a,b],_=>by revert a b;decide +kernel
 |[a,b,c],_=>by revert a b c;decide +kernel
 |_::_::_::_::x,h=>absurd (show x.length+4<=3 from h) (Nat.not_le_of_lt (Nat.le_add_left 4 _))
structure qt (mir:Bool)(ws:List aB)(A:List Wt)(L:List aB)(i:Nat):Prop where
 src:∀p∈A,(p.1∈ws/\p.2∈ws/\p.1≠p.2)\/(p.1∈L/\p.2∈ws)\/(p.1∈ws/\p.2∈L)
 all:∀s w,s∈ws->w∈ws->s≠w->(s,w)∈A
 lft:∀u w,u∈L->w∈ws->(u,w)∈A/\(w,u)∈A
 drv:∀t∈L,yf mir ws t/\t∉ws/\t.length<=3
 nd:L.Nodup
 don:∀j p,j<i->A[j]?=some p->∀t,Tl mir p.1 p.2 t->t∈L/\t∉ws
 len:A.length<=ws.length*ws.length+2*ws.length*L.length
theorem qt.len15 (I:qt mir ws A L i):L.length<=15:=fy (M:=Ii) I.nd fun x m=>nq (I.drv x m).2.2
theorem qt.lenA (I:qt mir ws A L i)(hl:ws.length<=100):A.length<=13000:=aJ I.len (qx (Nat.mul_le_mul hl hl) (Nat.mul_le_mul (Nat.mul_le_mul_left 2 hl) I.len15))
theorem qt.fin (I:qt mir ws A L i)(h:A.length<=i):Hx mir ws L:=by
 have key:∀s w t,(s,w)∈A->Tl mir s w t->t∈L:=fun s w t m ht=>by obtain⟨j,hj⟩:=List.getElem?_of_mem m;have hlt:=(List.getElem?_eq_some_iff.mp hj).1;exact(I.don j (s,w) (kS hlt h) hj t ht).1
 exact⟨fun t m=>(I.drv t m).2.1,fun s w t a b c d=>key s w t (I.all s w a b c) d,fun u w t a b d=>key u w t (I.lft u w a b).1 d,fun u w t a b d=>key w u t (I.lft u w a b).2 d⟩
theorem uY:100000<=qX:=Nat.le_of_ble_eq_true rfl
def gn (mir:Bool)(ws:List aB)(b:Bool):Prop:=if b then∃L,Hx mir ws L else∃t,yf mir ws t/\t∈ws
theorem DT (hlt:i<A.length)(ha:A[i]?=some (s,w))(I:qt mir ws A L i)(dv:∀t,Tl mir s w t->yf mir ws t)(hw:w.length<=3)(h:Tl mir s w t)(ht:t∉ws)(hL:t∉L):qt mir ws (rm ws A t) (L++[t]) (i+1) where
 src:=fun p m=>by
  rcases cy m with m|m
  .rcases I.src p m with a|⟨a,b⟩|⟨a,b⟩
   .exact .inl a
   .exact .inr (.inl ⟨ij _ a,b⟩)
   .exact .inr (.inr ⟨a,ij _ b⟩)
  .rcases cy m with m|m
   .obtain⟨o,mo,rfl⟩:=iz m;exact .inr (.inl ⟨hJ _ (.head _),mo⟩)
   .obtain⟨o,mo,rfl⟩:=iz m;exact .inr (.inr ⟨mo,hJ _ (.head _)⟩)
 all:=fun s w a b c=>ij _ (I.all s w a b c)
 lft:=fun u w a b=>by
  rcases cy a with a|a
  .exact⟨ij _ (I.lft u w a b).1,ij _ (I.lft u w a b).2⟩
  .rw[aS a];exact⟨hJ _ (ij _ (List.mem_map.mpr ⟨w,b,rfl⟩)),hJ _ (hJ _ (List.mem_map.mpr ⟨w,b,rfl⟩))⟩
 drv:=fun u a=>by
  rcases cy a with a|a
  .exact I.drv u a
  .rw[aS a];exact⟨dv t h,ht,aJ (EK h) hw⟩
 nd:=List.nodup_append.mpr ⟨I.nd,List.nodup_cons.mpr ⟨(fun q=>nomatch q),List.nodup_nil⟩,fun a ma b mb e=>hL (aS mb▸e▸ma)⟩
 don:=fun j p hj hp u hu=>by
  have hp:(A++_)[j]?=some p:=hp;rw[List.getElem?_append_left (kS hj hlt)]at hp;rcases Nat.lt_or_ge j i with q|q
  .exact⟨ij _ (I.don j p q hp u hu).1,(I.don j p q hp u hu).2⟩
  .obtain rfl:=Nat.le_antisymm (Nat.le_of_lt_succ hj) q;obtain rfl:=aG (ha.symm.trans hp);rw[EJ h hu];exact⟨hJ _ (.head _),ht⟩
 len:=by unfold rm;rw[dR,dR,dx,dx,dR,List.length_singleton,Nat.mul_succ,<- Nat.two_mul,<- Nat.add_assoc];exact Nat.add_le_add_right I.len _
section
variable (F:Facts S)(Q:fN k cu cv)(y:g5 (wr k cu) (wr k cv)){dr:D}(Dd:Ib k cu cv dr){ws:List aB}{mir:Bool}(hb:Bd 3 ws)(hl:ws.length<=100)
include F Q y Dd hb hl
inductive Id (mir:Bool)(ws:List aB):Option gZ->Prop
 |ret (h:gn mir ws false):Id mir ws (some (.r (.bool false)))
 |next {ρ:aF}(h:gn mir ws true):Id mir ws (some (.n ρ))
theorem DS {K:Nat}:∀{i:Nat}{A:List Wt}{L:List aB}{ρ:aF},qt mir ws A L i->i<=A.length->13001<=K+i->OE cu cv dr ws mir A L ρ->Id mir ws (ox (fun d ρ'=>(bx ρ' [61,62] d).bind fun ρ''=>dP S ρ'' ga) 60 K i ρ):=by
 induction K with
 |zero=>exact fun{i A L ρ} I hi hK _=>absurd (show 13001<=13000 from aJ hK (aJ (Nat.le_of_eq (Nat.zero_add i)) (aJ hi (I.lenA hl)))) (by decide)
 |succ K ih =>
  intro i A L ρ I hi hK g;by_cases c:A.length<=i
  .rw[sN g.g60 (by rw[dx];exact c)];exact .next ⟨L,I.fin c⟩
  have hlt:i<A.length:=Nat.lt_of_not_le c;have ha:A[i]?=some A[i]:=List.getElem?_eq_getElem hlt;generalize A[i]=p at ha;obtain⟨s,w⟩:=p;have mp:(s,w)∈A:=qw ha;have hx:(A.map (t9 cu cv))[i]?=some (t9 cu cv (s,w)):=by rw[List.getElem?_map,ha];rfl
  have hsw:s.length<=3/\w.length<=3:=by
   rcases I.src _ mp with⟨a,b,_⟩|⟨a,b⟩|⟨a,b⟩
   .exact⟨hb _ a,hb _ b⟩
   .exact⟨(I.drv _ a).2.2,hb _ b⟩
   .exact⟨hb _ a,(I.drv _ b).2.2⟩
  have dv:∀t,Tl mir s w t->yf mir ws t:=fun t ht=>by
   rcases I.src _ mp with⟨a,b,n⟩|⟨a,b⟩|⟨a,b⟩
   .exact .base a b n ht
   .exact .left (I.drv _ a).1 b ht
   .exact .right (I.drv _ b).1 a ht
  have hK':13001<=K+(i+1):=by rw[Nat.add_comm i,<- Nat.add_assoc];exact hK
  have st:=DU F Q y Dd (s:=s) (w:=w) g hsw.1 hsw.2 hb (I.lenA hl) I.len15 hl;generalize ho:((bx ρ [61,62] (t9 cu cv (s,w))).bind fun ρ''=>dP S ρ'' ga)=o at st;cases st with
  |hit h ht =>
   rw[sP g.g60 hx ho];exact .ret ⟨_,dv _ h,ht⟩
  |skip g' h =>
   rw[sO g.g60 hx ho rfl];refine ih { I with don:=fun j p hj hp t ht=>?_ } hlt hK' g';rcases Nat.lt_or_ge j i with q|q
   .exact I.don j p q hp t ht
   .obtain rfl:=Nat.le_antisymm (Nat.le_of_lt_succ hj) q;obtain rfl:=aG (ha.symm.trans hp);exact h t ht
  |more g' h ht hL =>
   rw[sO g.g60 hx ho rfl];exact ih (DT hlt ha I dv hsw.2 h ht hL) (aJ hlt (by unfold rm;rw[dR];exact nr _ _)) hK' g'
theorem GV:∃b,aV S dQ [dr,a6 cu cv ws, .bool mir]=some (.bool b)/\gn mir ws b:=by
 have hll:ws.length*ws.length<=100*100:=Nat.mul_le_mul hl hl;generalize hA:(ws.flatMap fun a=>(ws.filter fun b=>!(a==b)).map fun b=>(a,b))=A;have lA:A.length<=ws.length*ws.length:=by rw[<- hA];exact ig fun a _=>by rw[dx];exact List.length_filter_le _ _
 have mA:∀p:Wt,p∈A↔p.1∈ws/\p.2∈ws/\p.1≠p.2:=fun p=>by
  rw[<- hA,List.mem_flatMap];constructor
  .rintro ⟨a,ma,m⟩
   obtain⟨b,mb,rfl⟩:=iz m;obtain⟨m1,m2⟩:=List.mem_filter.mp mb;refine⟨ma,m1,fun e=>?_⟩;have e:a=b:=e;rw[e,beq_self_eq_true]at m2;exact ff m2
  .rintro ⟨a,b,c⟩
   exact⟨p.1,a,List.mem_map.mpr ⟨p.2,List.mem_filter.mpr ⟨b,by rw[beq_eq_false_iff_ne.mpr c];rfl⟩,rfl⟩⟩
 have s0:ev S [(66,dr),(52,a6 cu cv ws),(67, .bool mir)] (.p (.t (.c (.v 57) (.c (.v 68) .n))) (.c [57] (.e (.v 52)) .n (.c [68] (.e (.v 52)) (.c (.q .NotEq (.v 57) (.v 68)) .n) .n)))=some (.list (A.map (t9 cu cv))):=by
  have e:A.map (t9 cu cv)=ws.flatMap fun a=>if true=true then(ws.filter fun b=>!(a==b)).map (fun b=>t9 cu cv (a,b))else[]:=by rw[<- hA,List.map_flatMap];refine congrArg (fun f=>ws.flatMap f) (funext fun a=>?_);rw[if_pos rfl,kR];rfl
  rw[e];refine CG (l:=ws) (i:=fun z=>aj (tw cu cv z)) (q:=fun _=>true) (l2:=fun _=>ws) (i2:=fun _ z=>aj (tw cu cv z)) (p:=fun a b=>!(a==b)) (g:=fun a b=>t9 cu cv (a,b)) (de rfl) (fun a _=>⟨[(66,dr),(52,a6 cu cv ws),(67, .bool mir),(57,aj (tw cu cv a))],rfl,rfl,fun _=>⟨de rfl,fun b _=>⟨[(66,dr),(52,a6 cu cv ws),(67, .bool mir),(57,aj (tw cu cv a)),(68,aj (tw cu cv b))],rfl,Cy (av (aa (d:=aj (tw cu cv a)) rfl) (aa (d:=aj (tw cu cv b)) rfl) (xc Q.code_ne a b)),fun _=>dW (aa rfl) (aa rfl)⟩⟩⟩) ?_;rw[<- e,dx];exact aJ (aJ lA hll) (by decide)
 have I:qt mir ws A [] 0:={
  src:=fun p m=>.inl ((mA p).mp m)
  all:=fun s w a b c=>(mA (s,w)).mpr ⟨a,b,c⟩
  lft:=fun u w a=>nomatch a
  drv:=fun t m=>nomatch m
  nd:=List.nodup_nil
  don:=fun j p h=>absurd h (Nat.not_lt_zero _)
  len:=lA }
 have e0:ex S [(66,dr),(52,a6 cu cv ws),(67, .bool mir)] NX=some (.n [(66,dr),(52,a6 cu cv ws),(67, .bool mir),(60, .list (A.map (t9 cu cv)))]):=by show fM (ev S _ _) (fun xs=>some (gZ.n (aF.set _ 60 (.list xs))))=_;rw[s0];rfl
 have e1:ex S [(66,dr),(52,a6 cu cv ws),(67, .bool mir),(60, .list (A.map (t9 cu cv)))] NY=some (.n [(66,dr),(52,a6 cu cv ws),(67, .bool mir),(60, .list (A.map (t9 cu cv))),(64,a6 cu cv [])]):=rfl;have r:=DS F Q y Dd hb hl (K:=qX) (i:=0) (ρ:=[(66,dr),(52,a6 cu cv ws),(67, .bool mir),(60, .list (A.map (t9 cu cv))),(64,a6 cu cv [])]) I (gL _) (aJ (show 13001<=100000 by decide) (aJ uY (nr _ _))) ⟨rfl,rfl,rfl,rfl,rfl⟩;generalize ho:ox _ _ _ _ _=o at r;cases r with
 |ret q=>exact⟨false,cF rfl (ag e0 (ag e1 (au ho))),q⟩
 |next q=>exact⟨true,cF rfl (ag e0 (ag e1 (ag ho (au (bE ar))))),q⟩
end
abbrev fT (cu cv:Nat)(x:aB):Str:=tx (tw cu cv x)
theorem CJ (h:cu≠cv)(x y:aB):(fT cu cv x==fT cu cv y)=(x==y):=by rw[xX,kP h]
theorem wP (h:cu≠cv)(x y:aB)(e:fT cu cv x=fT cu cv y):x=y:=by have:=CJ h x y;rw[e,beq_self_eq_true]at this;exact eM this.symm
theorem BI (h:cu≠cv)(x:aB):∀l:List aB,((l.map (fT cu cv)).any (· == fT cu cv x))=l.contains x
 |[]=>rfl
 |a::l=>by rw[i8,List.any_cons,BI h x l,CJ h,List.contains_cons,Bool.beq_comm]
def nR (l:List aB):List aB:=l.foldl addC []
theorem mem_setB:x∈nR l↔x∈l:=by unfold nR;rw[pL];exact⟨fun q=>q.elim (fun m=>nomatch m) id, .inr⟩
theorem Ft {l:List aB}(h:l.Nodup):(addC l c).Nodup:=by
 unfold addC;by_cases m:l.contains c=true
 .rw[if_pos m];exact h
 .rw[if_neg m];refine List.nodup_append.mpr ⟨h,List.nodup_cons.mpr ⟨(fun q=>nomatch q),List.nodup_nil⟩,fun a ma b mb e=>m ?_⟩;rw[aS mb]at e;rw[<- e];exact List.contains_iff_mem.mpr ma
theorem sM:∀{cs l:List aB},l.Nodup->(cs.foldl addC l).Nodup
 |[],_,h=>h
 |_::cs,_,h=>sM (cs:=cs) (Ft h)
theorem jT (l:List aB):(nR l).Nodup:=sM List.nodup_nil
theorem vo (h:cu≠cv)(l:List aB)(x:aB):(addC l x).map (fT cu cv)=if(l.map (fT cu cv)).any (· == fT cu cv x)then l.map (fT cu cv)else l.map (fT cu cv)++[fT cu cv x]:=by
 rw[BI h];unfold addC;by_cases m:l.contains x=true
 .rw[if_pos m,if_pos m]
 .rw[if_neg m,if_neg m,List.map_append];rfl
theorem pr (h:cu≠cv):∀cs l:List aB,(cs.map fun x=>aj (tw cu cv x)).foldl rN (l.map (fT cu cv))=(cs.foldl addC l).map (fT cu cv)
 |[],_=>rfl
 |c::cs,l=>by rw[i8,List.foldl_cons,List.foldl_cons,<- pr h cs,vo h];rfl
theorem pt (h:cu≠cv):∀cs l:List aB,(cs.map (fT cu cv)).foldl fh (l.map (fT cu cv))=(cs.foldl addC l).map (fT cu cv)
 |[],_=>rfl
 |c::cs,l=>by rw[i8,List.foldl_cons,List.foldl_cons,<- pt h cs,vo h];rfl
theorem zE (h:cu≠cv)(l:List aB):qa (l.map fun x=>aj (tw cu cv x))=(nR l).map (fT cu cv):=pr h l []
theorem Du {f:α->β}:∀{l:List β},(∀s∈l,∃x,f x=s)->∃l':List α,l'.map f=l
 |[],_=>⟨[],rfl⟩
 |s::l,h=>by obtain⟨x,hx⟩:=h s (.head _);obtain⟨l',e⟩:=Du (l:=l) fun t m=>h t (.tail _ m);exact⟨x::l',by rw[i8,hx,e]⟩
structure HE (cu cv:Nat)(P:List aB):Prop where
 st:dZ (P.map (fT cu cv))=P.map (fT cu cv)
 nd:P.Nodup
theorem DB (h:cu≠cv){l:List aB}:(l.map (fT cu cv)).Nodup↔l.Nodup:=by refine⟨fun q=>List.Pairwise.of_map (fT cu cv) (fun a b (n:fT cu cv a≠fT cu cv b)=>(fun e=>n (congrArg _ e):a≠b)) q,fun q=>List.Pairwise.map (fT cu cv) (fun a b (n:a≠b)=>(fun e=>n (wP h a b e):fT cu cv a≠fT cu cv b)) q⟩
theorem zM (h:cu≠cv){l:List aB}(hn:l.Nodup):∃P,dZ (l.map (fT cu cv))=P.map (fT cu cv)/\HE cu cv P/\∀x,x∈P↔x∈l:=by
 have pm:(dZ (l.map (fT cu cv))).Perm (l.map (fT cu cv)):=List.mergeSort_perm _ _;obtain⟨P,hP⟩:=Du (f:=fT cu cv) (l:=dZ (l.map (fT cu cv))) fun s m=>by obtain⟨x,_,e⟩:=iz (pm.mem_iff.mp m);exact⟨x,e⟩
 rw[<- hP]at pm;refine⟨P,hP.symm,⟨by rw[qe pm,hP],(DB h).mp (pm.nodup_iff.mpr ((DB h).mpr hn))⟩,fun x=>?_⟩;have key:∀{m:List aB},fT cu cv x∈m.map (fT cu cv)↔x∈m:=fun{m}=>⟨fun q=>by obtain⟨z,mz,e⟩:=iz q;rw[<- wP h _ _ e];exact mz,fun q=>List.mem_map.mpr ⟨x,q,rfl⟩⟩;exact key.symm.trans (pm.mem_iff.trans key)
theorem HE.eq (h:cu≠cv)(p:HE cu cv P)(r:HE cu cv R)(e:∀x,x∈P↔x∈R):P=R:=by have pm:P.Perm R:=(List.perm_ext_iff_of_nodup p.nd r.nd).mpr e;have:=qe (pm.map (fT cu cv));rw[p.st,r.st]at this;exact(List.map_inj_right (wP h)).mp this
theorem Hg (l:List aB):gF (l.map fun x=>aj (tw cu cv x))=some (l.map (fT cu cv)):=by
 have e1:(l.map fun x=>aj (tw cu cv x))=(l.map (fT cu cv)).map PyData.str:=by rw[kR];rfl
 rw[e1,iw]
theorem xR (P:List aB):(P.map (fT cu cv)).map PyData.str=P.map fun x=>aj (tw cu cv x):=by rw[kR];rfl
theorem uO {ρ:aF}{l P:List aB}(g:ρ.get n=some (.tuple (l.map fun x=>aj (tw cu cv x))))(h:dZ (l.map (fT cu cv))=P.map (fT cu cv)):ev S ρ (.ssort n)=some (a6 cu cv P):=by show xV (ρ.get n) (fun xs=>(gF xs).bind fun ts=>some (PyData.list ((dZ ts).map .str)))=_;rw[g];show(gF (l.map fun x=>aj (tw cu cv x))).bind _=_;rw[Hg];show some (PyData.list ((dZ (l.map (fT cu cv))).map .str))=_;rw[h,xR]
theorem Gh (g:ρ.get n=some (.tuple l)):ev S ρ (.slen n)=some (ae l.length):=by show xV (ρ.get n) (fun xs=>some (PyData.int xs.length))=_;rw[g];rfl
theorem pi (h:cu≠cv):∀a b:List aB,PyData.eqvAll (a.map fun x=>aj (tw cu cv x)) (b.map fun x=>aj (tw cu cv x))=(a==b)
 |[],[]=>rfl
 |[],_::_=>rfl
 |_::_,[]=>rfl
 |x::a,y::b=>by show(PyData.eqv (aj (tw cu cv x)) (aj (tw cu cv y))&&PyData.eqvAll (a.map fun x=>aj (tw cu cv x)) (b.map fun x=>aj (tw cu cv x)))=_;rw[pi h a b,sB,kP h];rfl
theorem ui (h:cu≠cv)(P:List aB):∀M:List (List aB),((M.map (a6 cu cv)).any fun y=>PyData.eqv y (a6 cu cv P))=decide (P∈M)
 |[]=>rfl
 |a::M=>by
  rw[i8,List.any_cons,ui h P M];have e:PyData.eqv (a6 cu cv a) (a6 cu cv P)=(a==P):=pi h a P;rw[e,Bool.eq_iff_iff,Bool.or_eq_true,beq_iff_eq,jE,jE,List.mem_cons];constructor
  .rintro (q|q)
   .exact .inl q.symm
   .exact .inr q
  .rintro (q|q)
   .exact .inl q.symm
   .exact .inr q
theorem Cj (M:List (List aB)):gc 8 (.list (M.map (a6 cu cv)))=true:=List.all_eq_true.mpr fun x hx=>by obtain⟨p,_,rfl⟩:=iz hx;exact List.all_eq_true.mpr fun z hz=>by obtain⟨q,_,rfl⟩:=iz hz;rfl
theorem xd (h:cu≠cv)(P:List aB)(M:List (List aB)):bH .NotIn (a6 cu cv P) (.list (M.map (a6 cu cv)))=some (.bool (!decide (P∈M))):=by show(if gc 8 (a6 cu cv P)&&gc 8 (.list (M.map (a6 cu cv)))then some (PyData.bool (!((M.map (a6 cu cv)).any fun y=>PyData.eqv y (a6 cu cv P))))else none)=_;rw[Cj,sy,ui h];rfl
theorem uL (h:cu≠cv)(g71:ρ.get 71=some (a6 cu cv l))(hl:l.length<=1000)
  (hh:∀o∈l,∀ρ':aF,ρ'.get 57=some (aj (tw cu cv o))->(∀m d,m≠57->ρ.get m=some d->ρ'.get m=some d)->evT S ρ' c=some (p o)/\(p o=true->ev S ρ' e=some (aj (tw cu cv (g o))))) :
  nk S ρ e (.c [57] (.e (.v 71)) (.c c .n) .n)=some ((nR ((l.filter p).map g)).map (fT cu cv)):=by
 have key:le S ρ (ρ.del (j1 (.c [57] (.e (.v 71)) (.c c .n) .n))) (fun ρ'=>jA (ev S ρ' e) fun a=>some (.str a)) (.c [57] (.e (.v 71)) (.c c .n) .n)=some (((l.filter p).map g).map fun x=>aj (tw cu cv x)):=by
  refine bi (de g71) ?_;rw[kR];refine ft fun o m=>?_;obtain⟨h1,h2⟩:=hh o m ((ρ.del ([57]++[])).set 57 (aj (tw cu cv o))) an fun m d hm gm=>db hm (sw hm gm);refine bi (x:=(ρ.del ([57]++[])).set 57 (aj (tw cu cv o))) rfl ?_;refine bi (Cy h1) ?_;cases hp:p o with
  |false=>rfl
  |true =>
   show(jA (ev S _ e) fun a=>some (PyData.str a)).map (fun d=>[d])=_;rw[h2 hp];rfl
 refine bi key ?_;have hf:(l.filter p).length<=l.length:=List.length_filter_le _ _;have hc:(decide (((((l.filter p).map g).map fun x=>aj (tw cu cv x))).length<=1000)&&Jk (.c [57] (.e (.v 71)) (.c c .n) .n))=true:=jX ⟨dg (by rw[dx,dx];lia),rfl⟩;refine(if_pos hc).trans ?_;rw[zE h]
def Fr (ws:List aB)(p:aB):Prop:=∃x∈ws,p <+: x/\p.length<x.length
def eY (ws:List aB)(X:aB->Prop)(s:Bool)(x:aB):Prop:=
 (∃o,X o/\Fr ws (o++[s])/\x=o++[s])\/(x=[]/\∃o,X o/\o++[s]∈ws)
def Rc (ws:List aB)(u:aB):aB->Prop:=u.foldl (eY ws) (Fr ws)
theorem yh (ws:List aB)(u:aB)(s:Bool):Rc ws (u++[s])=eY ws (Rc ws u) s:=by unfold Rc;rw[List.foldl_append];rfl
def vI (F ws P:List aB)(s:Bool):List aB:=
 (nR ((P.filter fun o=>decide (o++[s]∈ws)).map fun _=>[])).foldl addC (nR ((P.filter fun o=>decide (o++[s]∈F)).map fun o=>o++[s]))
theorem Js (F ws P:List aB)(s:Bool):(vI F ws P s).Nodup:=sM (jT _)
theorem jO (hF:∀x,x∈F↔Fr ws x)(hP:∀x,x∈P↔X x)(x:aB):x∈vI F ws P s↔eY ws X s x:=by
 unfold vI eY;rw[pL,mem_setB,mem_setB,List.mem_map,List.mem_map];constructor
 .rintro (⟨o,m,rfl⟩|⟨o,m,rfl⟩)
  .obtain⟨a,b⟩:=List.mem_filter.mp m;exact .inl ⟨o,(hP o).mp a,(hF _).mp (bJ b),rfl⟩
  .obtain⟨a,b⟩:=List.mem_filter.mp m;exact .inr ⟨rfl,o,(hP o).mp a,bJ b⟩
 .rintro (⟨o,a,b,rfl⟩|⟨rfl,o,a,b⟩)
  .exact .inl ⟨o,List.mem_filter.mpr ⟨(hP o).mpr a,dg ((hF _).mpr b)⟩,rfl⟩
  .exact .inr ⟨o,List.mem_filter.mpr ⟨(hP o).mpr a,dg b⟩,rfl⟩
abbrev nQ (cu cv:Nat)(r:aB × List aB):D:=.tuple [aj (tw cu cv r.1),a6 cu cv r.2]
section
variable (h:cu≠cv){F ws P:List aB}{u:aB}{s:Bool}{ρ:aF}{R:List (aB × List aB)}
include h
structure GE (cu cv:Nat)(F ws P:List aB)(u:aB)(R:List (aB × List aB))(ρ:aF):Prop where
 g41:ρ.get 41=some (aj (tw cu cv u))
 g71:ρ.get 71=some (a6 cu cv P)
 g74:ρ.get 74=some (a6 cu cv F)
 g52:ρ.get 52=some (a6 cu cv ws)
 g70:ρ.get 70=some (.list (R.map (nQ cu cv)))
 g73:ρ.get 73=some (.list (R.map fun r=>a6 cu cv r.2))
omit h in
theorem GE.keep (g:GE cu cv F ws P u R ρ)(K:Kp [50,70,72,73] ρ ρ')(h70:ρ'.get 70=some (.list (R'.map (nQ cu cv))))(h73:ρ'.get 73=some (.list (R'.map fun r=>a6 cu cv r.2))):GE cu cv F ws P u R' ρ':=
 ⟨K 41 _ rfl g.g41,K 71 _ rfl g.g71,K 74 _ rfl g.g74,K 52 _ rfl g.g52,h70,h73⟩
inductive qF (F ws P:List aB)(u:aB)(s:Bool)(R:List (aB × List aB))(cu cv:Nat)(ρ:aF):Option gZ->Prop
 |ret (h:vI F ws P s=[]):qF F ws P u s R cu cv ρ (some (.r (aj (tw cu cv (u++[s])))))
 |old {ρ':aF}{r:aB × List aB}(m:r∈R)(hr:∀x,x∈r.2↔x∈vI F ws P s)(hn:vI F ws P s≠[])(g:GE cu cv F ws P u R ρ')(K:Kp [50,70,72,73] ρ ρ'):qF F ws P u s R cu cv ρ (some (.n ρ'))
 |new {ρ':aF}{N:List aB}(m:∀r∈R,r.2≠N)(so:HE cu cv N)(hr:∀x,x∈N↔x∈vI F ws P s)(hn:vI F ws P s≠[])(g:GE cu cv F ws P u (R++[(u++[s],N)]) ρ') (K:Kp [50,70,72,73] ρ ρ'):qF F ws P u s R cu cv ρ (some (.n ρ'))
theorem CS (g:GE cu cv F ws P u R ρ)(hu:u.length<=1000)(hP:P.length<=1000)(hP3:Bd 10 P)(hF:∀x∈F,x.length<=2)(hR:R.length<=1000):qF F ws P u s R cu cv ρ ((bx ρ [50] (aj (tw cu cv [s]))).bind fun ρ''=>dP S ρ'' fZ):=by
 show qF F ws P u s R cu cv ρ (dP S (ρ.set 50 (aj (tw cu cv [s]))) fZ);have K1:Kp [50] ρ (ρ.set 50 (aj (tw cu cv [s]))):=Kp.refl.set rfl;have q50:(ρ.set 50 (aj (tw cu cv [s]))).get 50=some (aj (tw cu cv [s])):=an;generalize ρ.set 50 (aj (tw cu cv [s]))=ρ1 at K1 q50 ⊢;have os:∀{o:aB}{ρ':aF},o∈P->ρ'.get 57=some (aj (tw cu cv o))->ρ'.get 50=some (aj (tw cu cv [s]))->ev S ρ' (.b .Add (.v 57) (.v 50))=some (aj (tw cu cv (o++[s]))):=fun{o ρ'} m a b=>jC (aa a) (aa b) (aJ (hP3 o m) (by decide)) (by show 1<=5000;decide);have e1:=uL (S:=S) h (ρ:=ρ1) (e:=.b .Add (.v 57) (.v 50)) (c:=.q .In (.b .Add (.v 57) (.v 50)) (.v 74)) (l:=P) (p:=fun o=>decide (o++[s]∈F)) (g:=fun o=>o++[s]) (K1 71 _ rfl g.g71) hP fun o mo ρ' a K=>⟨av (os mo a (K 50 _ (by decide) q50)) (aa (K 74 _ (by decide) (K1 74 _ rfl g.g74))) (nX h _ F),fun _=>os mo a (K 50 _ (by decide) q50)⟩;have e2:=uL (S:=S) h (ρ:=ρ1) (e:=.l (.str "")) (c:=.q .In (.b .Add (.v 57) (.v 50)) (.v 52)) (l:=P) (p:=fun o=>decide (o++[s]∈ws)) (g:=fun _=>[]) (K1 71 _ rfl g.g71) hP fun o mo ρ' a K=>⟨av (os mo a (K 50 _ (by decide) q50)) (aa (K 52 _ (by decide) (K1 52 _ rfl g.g52))) (nX h _ ws),fun _=>rfl⟩;generalize hX:nR ((P.filter fun o=>decide (o++[s]∈F)).map fun o=>o++[s])=X at e1;generalize hY:nR ((P.filter fun o=>decide (o++[s]∈ws)).map fun _=>([]:aB))=Y at e2;have lX:X.length<=3:=fy (M:=[[s],[false,s],[true,s]]) (hX▸jT _) fun x m=>by
  rw[<- hX,mem_setB]at m;obtain⟨o,mo,rfl⟩:=iz m;have:=hF _ (bJ (List.mem_filter.mp mo).2);rw[dR]at this
  match o,this with
  |[],_=>exact .head _
  |[false],_=>exact .tail _ (.head _)
  |[true],_=>exact .tail _ (.tail _ (.head _))
  |_::_::o,q=>exact absurd (show o.length+3<=2 from q) (Nat.not_le_of_lt (Nat.le_add_left 3 _))
 have lY:Y.length<=1:=fy (M:=[[]]) (hY▸jT _) fun x m=>by rw[<- hY,mem_setB]at m;obtain⟨o,mo,rfl⟩:=iz m;exact .head _
 have hN:Y.foldl addC X=vI F ws P s:=by rw[<- hX,<- hY];rfl
 have s0:ex S ρ1 Ms=some (.n (ρ1.set 72 (.tuple ((vI F ws P s).map fun x=>aj (tw cu cv x))))):=by show(nk S ρ1 _ _).bind (fun x=>(nk S ρ1 _ _).bind fun y=>if decide (x.length<=3)&&decide (y.length<=1)then some (gZ.n (aF.set ρ1 72 (.tuple ((y.foldl fh x).map .str))))else none)=_;refine bi e1 (bi e2 ?_);rw[if_pos (jX ⟨dg (by rw[dx];exact lX),dg (by rw[dx];exact lY)⟩),pt h,hN,xR]
 generalize hL:vI F ws P s=N at s0;have K2:Kp [50,72] ρ (ρ1.set 72 (.tuple (N.map fun x=>aj (tw cu cv x)))):=(K1.mono rfl).set rfl;have q72:(ρ1.set 72 (.tuple (N.map fun x=>aj (tw cu cv x)))).get 72=some (.tuple (N.map fun x=>aj (tw cu cv x))):=an;have r50:(ρ1.set 72 (.tuple (N.map fun x=>aj (tw cu cv x)))).get 50=some (aj (tw cu cv [s])):=cm rfl q50;generalize ρ1.set 72 (.tuple (N.map fun x=>aj (tw cu cv x)))=ρ2 at s0 K2 q72 r50;have r41:=K2 41 _ rfl g.g41;have r70:=K2 70 _ rfl g.g70;have r73:=K2 73 _ rfl g.g73;have e3:=Gh (S:=S) q72;rw[dx]at e3;have us:∀{ρ':aF},ρ'.get 41=some (aj (tw cu cv u))->ρ'.get 50=some (aj (tw cu cv [s]))->ev S ρ' (.b .Add (.v 41) (.v 50))=some (aj (tw cu cv (u++[s]))):=fun a b=>jC (aa a) (aa b) (aJ hu (by decide)) (by show 1<=5000;decide);by_cases c0:N=[]
 .have t:evT S ρ2 (.q .Eq (.slen 72) (.l (.int 0)))=some true:=av e3 (ar (d:=ae 0)) (by rw[c0];rfl);have e:dP S ρ1 fZ=some (.r (aj (tw cu cv (u++[s])))):=ag s0 (au (jg t (au (bE (us r41 r50)))));rw[e];exact .ret (hL.trans c0)
 .have t:evT S ρ2 (.q .Eq (.slen 72) (.l (.int 0)))=some false:=av e3 (ar (d:=ae 0)) (by rw[nW,cG];intro q;exact c0 (List.length_eq_zero_iff.mp (Int.ofNat.inj q)));have s1:ex S ρ2 Mu=some (.n ρ2):=ct t rfl;obtain⟨N',o1,o2,o3⟩:=zM h (hL▸Js F ws P s:N.Nodup);have e4:=uO (S:=S) q72 o1;have t2:evT S ρ2 (.ocmp .NotIn (.ssort 72) 73)=some (!decide (N'∈R.map (·.2))):=by
   refine bi (x:=.bool (!decide (N'∈R.map (·.2)))) (bi e4 ?_) rfl;rw[r73];show(bH .NotIn (a6 cu cv N') (.list (R.map fun r=>a6 cu cv r.2))).bind _=_;have e5:(R.map fun r=>a6 cu cv r.2)=(R.map (·.2)).map (a6 cu cv):=by rw[kR];rfl
   rw[e5,xd h];rfl
  by_cases c1:N'∈R.map (·.2)
  .rw[dg c1]at t2;have e:dP S ρ1 fZ=some (.n ρ2):=ag s0 (ag s1 (ag (ct t2 rfl) rfl));rw[e];obtain⟨r,mr,er⟩:=iz c1;exact .old mr (fun x=>by rw[er,hL];exact o3 x) (by rw[hL];exact c0) (g.keep (K2.mono rfl) r70 r73) (K2.mono rfl)
  .rw[cG c1]at t2;have K3:Kp [73] ρ2 (ρ2.set 73 (.list ((R++[(u++[s],N')]).map fun r=>a6 cu cv r.2))):=Kp.refl.set rfl;have w73:(ρ2.set 73 (.list ((R++[(u++[s],N')]).map fun r=>a6 cu cv r.2))).get 73=some (.list ((R++[(u++[s],N')]).map fun r=>a6 cu cv r.2)):=an;generalize hρ3:ρ2.set 73 (.list ((R++[(u++[s],N')]).map fun r=>a6 cu cv r.2))=ρ3 at K3 w73;have s2:ex S ρ2 (.a 73 (.ssort 72))=some (.n ρ3):=by show fM (ρ2.get 73) (fun xs=>(ev S ρ2 (.ssort 72)).bind fun d=>if xs.length<1000000 then some (gZ.n (aF.set ρ2 73 (.list (xs++[d]))))else none)=_;rw[r73];refine(bi e4 ?_:(ev S ρ2 (.ssort 72)).bind _=_);rw[if_pos (by rw[dx];exact lC hR (by decide)),<- hρ3,List.map_append];rfl
   have e6:=uO (S:=S) (K3 72 _ rfl q72) o1;have s3:ex S ρ3 (.a 70 (.t (.c (.b .Add (.v 41) (.v 50)) (.c (.ssort 72) .n))))=some (.n (ρ3.set 70 (.list ((R++[(u++[s],N')]).map (nQ cu cv))))):=by show fM (ρ3.get 70) (fun xs=>(ev S ρ3 (.t _)).bind fun d=>if xs.length<1000000 then some (gZ.n (aF.set ρ3 70 (.list (xs++[d]))))else none)=_;rw[K3 70 _ rfl r70];refine(bi (dW (us (K3 41 _ rfl r41) (K3 50 _ rfl r50)) e6) ?_:(ev S ρ3 (.t _)).bind _=_);rw[if_pos (by rw[dx];exact lC hR (by decide)),List.map_append];rfl
   have e:dP S ρ1 fZ=some (.n (ρ3.set 70 (.list ((R++[(u++[s],N')]).map (nQ cu cv))))):=ag s0 (ag s1 (ag (jg t2 (ag s2 (ag s3 rfl))) rfl));rw[e];have K4:Kp [50,70,72,73] ρ (ρ3.set 70 (.list ((R++[(u++[s],N')]).map (nQ cu cv)))):=((K2.mono rfl).trans (K3.mono rfl)).set rfl;exact .new (fun r mr q=>c1 (List.mem_map.mpr ⟨r,mr,q⟩)) o2 (fun x=>by rw[hL];exact o3 x) (by rw[hL];exact c0) (g.keep K4 an (cm rfl w73)) K4
end
abbrev lZ:Type:=aB × List aB
noncomputable def BF:Nat->List aB
 |0=>[[]]
 |n+1=>(BF n).flatMap fun l=>[false::l,true::l]
theorem uf:∀n,(BF n).length<=2^n
 |0=>fc _
 |n+1=>by have h:=ig (l:=BF n) (f:=fun l=>[false::l,true::l]) (n:=2) fun _ _=>fc _;have ih:=uf n;rw[Nat.pow_succ];exact aJ h (oG 2 ih)
theorem vr:∀l:aB,l∈BF l.length
 |[]=>.head _
 |b::l=>List.mem_flatMap.mpr ⟨l,vr l,by cases b;exact .head _;exact .tail _ (.head _)⟩
noncomputable def T7:List aB:=[[],[false],[true],[false,false],[false,true],[true,false],[true,true]]
theorem Dv:∀{x:aB},x.length<=2->x∈T7
 |[],_=>by decide +kernel
 |[a],_=>by revert a;decide +kernel
 |[a,b],_=>by revert a b;decide +kernel
 |_::_::_::x,h=>absurd (show x.length+3<=2 from h) (Nat.not_le_of_lt (Nat.le_add_left 3 _))
def j2 (F ws:List aB)(R:List lZ)(r:lZ)(s:Bool):Prop:=vI F ws r.2 s≠[]/\∃r'∈R,(∀x,x∈r'.2↔x∈vI F ws r.2 s)/\r'.1.length<=r.1.length+1
theorem j2.app {F ws:List aB}{R E:List lZ}{r:lZ}{s:Bool}(h:j2 F ws R r s):j2 F ws (R++E) r s:=by obtain⟨a,r',b,c⟩:=h;exact⟨a,r',ij _ b,c⟩
structure GI (cu cv:Nat)(F ws:List aB)(c:Nat)(R:List lZ)(i:Nat):Prop where
 h0:R[0]?=some ([],F)
 ok:∀r∈R,HE cu cv r.2/\(∀x,x∈r.2↔Rc ws r.1 x)/\r.2≠[]
 nd:(R.map (·.2)).Nodup
 len:∀(j:Nat) (r:lZ),R[j]?=some r->r.1.length<=j
 srt:∀(j j':Nat) (r r':lZ),j<=j'->R[j]?=some r->R[j']?=some r'->r.1.length<=r'.1.length
 top:∀r∈R,r.1.length<=c+1
 don:∀(j:Nat) (r:lZ),j<i->R[j]?=some r->∀s,j2 F ws R r s
structure Ic (cu cv:Nat)(F ws:List aB):Prop where
 so:HE cu cv F
 mem:∀x,x∈F↔Fr ws x
 nil:Fr ws []
 sz:∀x,Fr ws x->x.length<=2
theorem yS {ws:List aB}(hn:Fr ws []):∀{u:aB}{X:aB->Prop},(∀x,X x->Fr ws x)->∀x,u.foldl (eY ws) X x->Fr ws x
 |[],_,h,x,hx=>h x hx
 |s::u,X,h,x,hx=>yS hn (u:=u) (X:=eY ws X s) (fun z hz=>by
  rcases hz with⟨o,_,a,rfl⟩|⟨rfl,_⟩
  .exact a
  .exact hn) x hx
section
variable (h:cu≠cv){F ws:List aB}(O:Ic cu cv F ws)
include O
theorem GI.sz {c i:Nat}{R:List lZ}(I:GI cu cv F ws c R i){r:lZ}(m:r∈R):∀x∈r.2,x.length<=2:=fun x mx=>O.sz x (yS O.nil (fun _ q=>q) x (((I.ok r m).2.1 x).mp mx))
include h
theorem GI.few {c i:Nat}{R:List lZ}(I:GI cu cv F ws c R i):R.length<=128:=by
 have n1:(R.map fun r=>T7.map fun x=>decide (x∈r.2)).Nodup:=by
  have n2:=List.pairwise_map.mp I.nd;refine List.pairwise_map.mpr ?_;refine List.Pairwise.imp_of_mem (fun{a b} ma mb n=>fun e=>n ?_) n2;refine(I.ok a ma).1.eq h (I.ok b mb).1 fun x=>?_;by_cases q:x.length<=2
  .have m7:=Dv q;have:=(List.map_inj_left.mp e) x m7;exact decide_eq_decide.mp this
  .exact⟨fun m=>absurd (I.sz O ma x m) q,fun m=>absurd (I.sz O mb x m) q⟩
 have:=fy (M:=BF 7) n1 fun x m=>by obtain⟨r,_,rfl⟩:=iz m;have:=vr (T7.map fun x=>decide (x∈r.2));rw[dx]at this;exact this
 rw[dx]at this;exact aJ this (uf 7)
theorem GI.more {c i:Nat}{R:List lZ}{u:aB}{P N:List aB}{s:Bool}(I:GI cu cv F ws u.length R i)(hr:R[i]?=some (u,P))(m:∀r∈R,r.2≠N)(so:HE cu cv N)(hN:∀x,x∈N↔x∈vI F ws P s)(hn:vI F ws P s≠[]):GI cu cv F ws u.length (R++[(u++[s],N)]) i:=by
 have mr:=qw hr;have hi:=(List.getElem?_eq_some_iff.mp hr).1;have cas:∀j r,(R++[(u++[s],N)])[j]?=some r->R[j]?=some r/\j<R.length\/r=(u++[s],N)/\j=R.length:=fun j r hj=>by
  rcases Nat.lt_or_ge j R.length with q|q
  .rw[List.getElem?_append_left q]at hj;exact .inl ⟨hj,q⟩
  .rw[List.getElem?_append_right q]at hj;rcases Nat.eq_zero_or_pos (j-R.length)with z|z
   .rw[z]at hj;cases hj;exact .inr ⟨rfl,Nat.le_antisymm (Nat.le_of_sub_eq_zero z) q⟩
   .rw[Dm (by rw[List.length_singleton];exact z)]at hj;exact nn hj
 refine{ h0:=?_,ok:=fun r mr'=>?_,nd:=?_,len:=fun j r hj=>?_,srt:=fun j j' r r' hjj hj hj'=>?_,top:=fun r mr'=>?_,don:=fun j r hj hr' s=>?_ }
 .rw[List.getElem?_append_left (lC (gL i) hi)];exact I.h0
 .rcases cy mr' with q|q
  .exact I.ok r q
  .rw[aS q];refine⟨so,fun x=>?_,fun e=>?_⟩
   .rw[yh];exact(hN x).trans (jO O.mem (I.ok _ mr).2.1 x)
   .cases hc:vI F ws P s with
    |nil=>exact hn hc
    |cons a l =>
     have:=(hN a).mpr (by rw[hc];exact .head _);have e:N=[]:=e;rw[e]at this;exact nomatch this
 .rw[List.map_append];refine List.nodup_append.mpr ⟨I.nd,List.nodup_cons.mpr ⟨(fun q=>nomatch q),List.nodup_nil⟩,fun a ma b mb e=>?_⟩;obtain⟨r,q,rfl⟩:=iz ma;exact m r q (e.trans (aS mb))
 .rcases cas j r hj with⟨q,_⟩|⟨rfl,rfl⟩
  .exact I.len j r q
  .rw[dR,List.length_singleton];exact aJ (Nat.succ_le_succ (I.len i _ hr)) hi
 .rcases cas j r hj with⟨q,ql⟩|⟨rfl,rfl⟩
  .rcases cas j' r' hj' with⟨q',_⟩|⟨rfl,rfl⟩
   .exact I.srt j j' r r' hjj q q'
   .rw[dR,List.length_singleton];exact I.top r (qw q)
  .rcases cas j' r' hj' with⟨q',ql⟩|⟨rfl,rfl⟩
   .exact absurd hjj (Nat.not_le_of_lt ql)
   .exact fc _
 .rcases cy mr' with q|q
  .exact I.top r q
  .rw[aS q,dR,List.length_singleton];exact fc _
 .rcases cas j r hr' with⟨q,_⟩|⟨rfl,rfl⟩
  .exact(I.don j r hj q s).app
  .exact absurd hi (Nat.lt_asymm hj)
inductive Ig (F ws P:List aB)(u:aB)(i cu cv:Nat)(ss:aB)(R:List lZ)(ρ:aF):Option gZ->Prop
 |ret {s:Bool}{R':List lZ}(e:vI F ws P s=[])(I:GI cu cv F ws u.length R' i)(hr:R'[i]?=some (u,P)):Ig F ws P u i cu cv ss R ρ (some (.r (aj (tw cu cv (u++[s])))))
 |next {ρ':aF}{E:List lZ}(I:GI cu cv F ws u.length (R++E) i)(dn:∀s∈ss,j2 F ws (R++E) (u,P) s)(g:GE cu cv F ws P u (R++E) ρ')(K:Kp [50,70,72,73] ρ ρ'):Ig F ws P u i cu cv ss R ρ (some (.n ρ'))
theorem Eh {u:aB}{P:List aB}{i:Nat}{s:Bool}{R:List lZ}{ρ:aF}{o:Option gZ}(I:GI cu cv F ws u.length R i)(hr:R[i]?=some (u,P))(st:qF F ws P u s R cu cv ρ o):Ig F ws P u i cu cv [s] R ρ o:=by
 have one:∀{R:List lZ},j2 F ws R (u,P) s->∀t∈[s],j2 F ws R (u,P) t:=fun d t m=>aS m▸d;cases st with
 |ret e=>exact .ret e I hr
 |old m hr' hn g K=>exact .next (E:=[]) ((List.append_nil R).symm▸I) (one (j2.app ⟨hn,_,m,hr',I.top _ m⟩)) ((List.append_nil R).symm▸g) K
 |new m so hr' hn g K=>exact .next (E:=[_]) (GI.more h O (c:=0) I hr m so hr' hn) (one ⟨hn,_,hJ _ (.head _),hr',by rw[dR];exact fc _⟩) g K
theorem Bk {u:aB}{P:List aB}{i:Nat}{ss:aB}:∀{R:List lZ}{ρ:aF},GI cu cv F ws u.length R i->R[i]?=some (u,P)->GE cu cv F ws P u R ρ->Ig F ws P u i cu cv ss R ρ (pv (fun d ρ'=>(bx ρ' [50] d).bind fun ρ''=>dP S ρ'' fZ) (ss.map fun s=>aj (tw cu cv [s])) ρ):=by
 induction ss with
 |nil=>exact fun{R ρ} I hr g=>.next (E:=[]) ((List.append_nil R).symm▸I) (fun _ m=>nomatch m) ((List.append_nil R).symm▸g) Kp.refl
 |cons s ss ih =>
  intro R ρ I hr g;have mr:=qw hr;have few:=I.few h O;have hi:=(List.getElem?_eq_some_iff.mp hr).1;have sz:=I.sz O mr;have lP:P.length<=7:=fy (M:=T7) (I.ok _ mr).1.nd fun x m=>Dv (sz x m);have st:=Eh (u:=u) h O I hr (CS (S:=S) h (s:=s) g (aJ (I.len i _ hr) (aJ (il hi) (aJ few (by decide)))) (aJ lP (by decide)) (fun x m=>aJ (sz x m) (by decide)) (fun x m=>O.sz x ((O.mem x).mp m)) (aJ few (by decide)));show Ig F ws P u i cu cv (s::ss) R ρ (match(bx ρ [50] (aj (tw cu cv [s]))).bind fun ρ''=>dP S ρ'' fZ with
   |some (.n ρ')=>pv _ (ss.map fun s=>aj (tw cu cv [s])) ρ'
   |o=>o)
  generalize ((bx ρ [50] (aj (tw cu cv [s]))).bind fun ρ''=>dP S ρ'' fZ)=o at st ⊢;cases st with
  |ret e I' hr'=>exact .ret e I' hr'
  |next I' dn g' K =>
   have r:=ih I' ((List.getElem?_append_left hi).trans hr) g';revert r;show Ig F ws P u i cu cv ss _ _ _->Ig F ws P u i cu cv (s::ss) R ρ (pv _ _ _);generalize pv _ _ _=o;intro r;cases r with
   |ret e I2 hr2=>exact .ret e I2 hr2
   |next I2 dn2 g2 K2 =>
    rw[List.append_assoc]at I2 dn2 g2;refine .next I2 (fun t m=>?_) g2 (K.trans K2);rcases bA m with rfl|m
    .rw[<- List.append_assoc];exact(dn t (.head _)).app
    .exact dn2 t m
end
def qv (cu cv:Nat):Option aB->D
 |none=>.none
 |some g=>aj (tw cu cv g)
def na (ws:List aB):Option aB->Prop
 |none=>∀v,∃x,Rc ws v x
 |some g=>(∀x,¬ Rc ws g x)/\g.length<=1000/\(3<=g.length->∀v:aB,v.length<=2->∃x,Rc ws v x)
theorem iu (h:l≠[]):∃x,x∈l:=by
 cases l with
 |nil=>exact absurd rfl h
 |cons a l=>exact⟨a, .head _⟩
section
variable (h:cu≠cv){F ws:List aB}(O:Ic cu cv F ws)
include O
theorem GI.all (I:GI cu cv F ws c R i)(hi:R.length<=i)(v:aB):∃x,Rc ws v x:=by
 have key:∀{v:aB}{X:aB->Prop},(∃r∈R,∀x,x∈r.2↔X x)->∃r∈R,∀x,x∈r.2↔v.foldl (eY ws) X x:=fun{v}=>by
  induction v with
  |nil=>exact fun q=>q
  |cons s v ih =>
   intro X ⟨r,m,e⟩;obtain⟨j,hj⟩:=List.getElem?_of_mem m;have hl:=kS (List.getElem?_eq_some_iff.mp hj).1 hi;obtain⟨_,r',m',e',_⟩:=I.don j r hl hj s;exact ih (X:=eY ws X s) ⟨r',m',fun x=>(e' x).trans (jO O.mem e x)⟩
 obtain⟨r,m,e⟩:=key (v:=v) ⟨([],F),qw I.h0,O.mem⟩;obtain⟨x,mx⟩:=iu (I.ok r m).2.2;exact⟨x,(e x).mp mx⟩
theorem GI.two (I:GI cu cv F ws c R i)(hr:R[i]?=some (u,P))(hu:2<=u.length)(v:aB)(hv:v.length<=2):∃x,Rc ws v x:=by
 have before:∀{r:lZ},r∈R->r.1.length<=1->∀s,j2 F ws R r s:=fun{r} m l s=>by
  obtain⟨j,hj⟩:=List.getElem?_of_mem m;rcases Nat.lt_or_ge j i with q|q
  .exact I.don j r q hj s
  .exact absurd (aJ hu (I.srt i j _ r q hr hj)) (Nat.not_le_of_lt (Nat.lt_succ_of_le l))
 have m0:(([],F):lZ)∈R:=qw I.h0
 match v,hv with
 |[],_=>exact⟨[],O.nil⟩
 |[s],_ =>
  obtain⟨a,_⟩:=before m0 (gL _) s;obtain⟨x,mx⟩:=iu a;exact⟨x,(jO O.mem O.mem x).mp mx⟩
 |[s,t],_ =>
  obtain⟨_,r',m',e',l'⟩:=before m0 (gL _) s;obtain⟨a,_⟩:=before m' l' t;obtain⟨x,mx⟩:=iu a;exact⟨x,(jO O.mem (fun z=>(e' z).trans (jO O.mem O.mem z)) x).mp mx⟩
 |_::_::_::x,q=>exact absurd (show x.length+3<=2 from q) (Nat.not_le_of_lt (Nat.le_add_left 3 _))
include h
inductive MY (ws:List aB)(cu cv:Nat):Option gZ->Prop
 |ret {g:aB}(h:na ws (some g)):MY ws cu cv (some (.r (aj (tw cu cv g))))
 |next {ρ:aF}(h:na ws none):MY ws cu cv (some (.n ρ))
structure GO (cu cv:Nat)(F ws:List aB)(R:List lZ)(ρ:aF):Prop where
 g58:ρ.get 58=some (aj [cu,cv])
 g74:ρ.get 74=some (a6 cu cv F)
 g52:ρ.get 52=some (a6 cu cv ws)
 g70:ρ.get 70=some (.list (R.map (nQ cu cv)))
 g73:ρ.get 73=some (.list (R.map fun r=>a6 cu cv r.2))
set_option tactic.hygienic true in
theorem CR {K:Nat}:∀{i c:Nat}{R:List lZ}{ρ:aF},GI cu cv F ws c R i->(∀(j:Nat) (r:lZ),i<=j->R[j]?=some r->c<=r.1.length)->i<=R.length->130<=K+i->GO cu cv F ws R ρ->MY ws cu cv (ox (fun d ρ'=>(bx ρ' [41,71] d).bind fun ρ''=>dP S ρ'' z5) 70 K i ρ):=by
 induction K with
 |zero=>exact fun{i c R ρ} I _ hi hK _=>absurd (show 130<=128 from aJ hK (aJ (Nat.le_of_eq (Nat.zero_add i)) (aJ hi (I.few h O)))) (by decide)
 |succ K ih =>
  intro i c R ρ I hc hi hK g;by_cases q:R.length<=i
  .rw[sN g.g70 (by rw[dx];exact q)];exact .next (I.all O q)
  have hlt:i<R.length:=Nat.lt_of_not_le q;have hr:R[i]?=some R[i]:=List.getElem?_eq_getElem hlt;generalize R[i]=r at hr;obtain⟨u,P⟩:=r;have hcu:c<=u.length:=hc i _ (fc _) hr;have I2:GI cu cv F ws u.length R i:=⟨I.h0,I.ok,I.nd,I.len,I.srt,fun r m=>aJ (I.top r m) (Nat.succ_le_succ hcu),I.don⟩;have hx:(R.map (nQ cu cv))[i]?=some (nQ cu cv (u,P)):=by rw[List.getElem?_map,hr];rfl
  have K1:Kp [41,71] ρ ((ρ.set 41 (aj (tw cu cv u))).set 71 (a6 cu cv P)):=(Kp.refl.set rfl).set rfl;have src:=iq (S:=S) (cu:=cu) (cv:=cv) (K1 58 _ rfl g.g58);have st:=Bk (S:=S) h O (ss:=[false,true]) I2 hr ⟨cm rfl an,an,K1 74 _ rfl g.g74,K1 52 _ rfl g.g52,K1 70 _ rfl g.g70,K1 73 _ rfl g.g73⟩;generalize ho:pv _ _ _=o at st;cases st with
  |ret b I3 hr3 =>
   rw[sP g.g70 hx (au (lq src ho))];refine .ret ⟨fun x hx=>?_, ?_,fun h3 v hv=>I3.two O hr3 ?_ v hv⟩
   .rw[yh]at hx;have:=(jO O.mem (I3.ok _ (qw hr3)).2.1 x).mpr hx;rw[b]at this;exact nomatch this
   .rw[dR];exact aJ (Nat.add_le_add_right (aJ (I3.len i _ hr3) (aJ (il (List.getElem?_eq_some_iff.mp hr3).1) (I3.few h O))) _) (oF rfl)
   .rw[dR]at h3;exact Nat.le_of_succ_le_succ h3
  |next I3 dn g3 K3 =>
   rename_i E;have hr3:(R++E)[i]?=some (u,P):=(List.getElem?_append_left hlt).trans hr;have dn3:∀(j:Nat) (r:lZ),j<i+1->(R++E)[j]?=some r->∀s,j2 F ws (R++E) r s:=fun j r hj hjr s=>by
    rcases Nat.lt_or_ge j i with z|z
    .exact I3.don j r z hjr s
    .obtain rfl:=Nat.le_antisymm (Nat.le_of_lt_succ hj) z;obtain rfl:=aG (hr3.symm.trans hjr);exact dn s (by cases s;exact .head _;exact .tail _ (.head _))
   have I4:GI cu cv F ws u.length (R++E) (i+1):=⟨I3.h0,I3.ok,I3.nd,I3.len,I3.srt,I3.top,dn3⟩;have K4:=(K1.mono (l':=[41,71,50,70,72,73]) rfl).trans (K3.mono rfl);have r:=ih I4 (fun j r hj hjr=>I3.srt i j _ r (Nat.le_of_succ_le hj) hr3 hjr) (aJ hlt (by rw[dR];exact nr _ _)) (by rw[Nat.add_comm i,<- Nat.add_assoc];exact hK) ⟨K4 58 _ rfl g.g58,K4 74 _ rfl g.g74,K4 52 _ rfl g.g52,g3.g70,g3.g73⟩;rw[sO g.g70 hx (ag (lq src ho) rfl) rfl];exact r
end
noncomputable def Fk (ws:List aB):List aB:=ws.flatMap fun x=>(List.range x.length).map fun k=>x.take k
theorem mem_flR:p∈Fk ws↔Fr ws p:=by
 unfold Fk Fr;rw[List.mem_flatMap];constructor
 .rintro ⟨x,mx,m⟩
  obtain⟨k,mk,rfl⟩:=iz m;have:=List.mem_range.mp mk;refine⟨x,mx,List.take_prefix _ _, ?_⟩;rw[List.length_take,Nat.min_eq_left (il this)];exact this
 .rintro ⟨x,mx,a,b⟩
  exact⟨x,mx,List.mem_map.mpr ⟨p.length,List.mem_range.mpr b,(List.prefix_iff_eq_take.mp a).symm⟩⟩
theorem GU (h:cu≠cv){ws:List aB}(W:ue 100 ws):∃g,aV S jk [aj [cu,cv],a6 cu cv ws]=some (qv cu cv g)/\na ws g:=by
 have hb:∀x,Fr ws x->x.length<=2:=fun x ⟨z,mz,_,c⟩=>Nat.le_of_lt_succ (kS c (W.sz z mz).2);have h0:Fr ws []:=by obtain⟨x,mx⟩:=iu W.ne;exact⟨x,mx,List.nil_prefix,(W.sz x mx).1⟩
 obtain⟨F,f1,f2,f3⟩:=zM h (jT (Fk ws));have O:Ic cu cv F ws:=⟨f2,fun x=>(f3 x).trans (mem_setB.trans mem_flR),h0,hb⟩;have l7:(nR (Fk ws)).length<=7:=fy (M:=T7) (jT _) fun x m=>Dv (hb x (mem_flR.mp (mem_setB.mp m)));have lf:(Fk ws).length<=1000:=by
  have:(Fk ws).length<=ws.length*3:=ig fun x m=>by rw[dx,List.length_range];exact(W.sz x m).2
  exact aJ this (aJ (oG 3 W.len) (by decide))
 have s0:ev S [(58,aj [cu,cv]),(52,a6 cu cv ws)] (.ssc (.a (.v 3) .n (.y (.v 75)) .n) (.c [3] (.e (.v 52)) .n (.c [75] (.r (.c (.f .len (.c (.v 3) .n)) .n)) .n .n)))=some (a6 cu cv F):=by
  refine bi (x:=(Fk ws).map fun x=>aj (tw cu cv x)) ?_ ?_
  .refine bi (de (cu:=cu) (cv:=cv) (l:=ws) rfl) ?_;unfold Fk;rw[List.map_flatMap];refine mR fun x mx=>?_;refine bi (x:=[(58,aj [cu,cv]),(52,a6 cu cv ws),(3,aj (tw cu cv x))]) rfl (bi (x:=true) rfl ?_);have hx:=(W.sz x mx).2;have sr:=mJ (S:=S) (ρ:=[(58,aj [cu,cv]),(52,a6 cu cv ws),(3,aj (tw cu cv x))]) (e:=.f .len (.c (.v 3) .n)) (n:=x.length) (jI (cu:=cu) (cv:=cv) (aa rfl)) (aJ hx (by decide));refine bi sr ?_;rw[kR];refine(ft (p:=fun _=>true) fun j _=>?_).trans (by rw[List.filter_eq_self.mpr fun _ _=>rfl]);refine bi (x:=[(58,aj [cu,cv]),(52,a6 cu cv ws),(3,aj (tw cu cv x)),(75,ae j)]) rfl (bi (x:=true) rfl ?_);have e:=iE (S:=S) (ρ:=[(58,aj [cu,cv]),(52,a6 cu cv ws),(3,aj (tw cu cv x)),(75,ae j)]) (a:=.v 3) (aa (d:=aj (tw cu cv x)) rfl) fQ (fU (aa (n:=75) (d:=ae j) rfl)) fQ m8;exact(congrArg (fun o=>(jA o fun a=>some (PyData.str a)).map fun d=>[d]) e).trans rfl
  .rw[zE h];have hc:(decide (((Fk ws).map fun x=>aj (tw cu cv x)).length<=1000)&&(Jk (.c [3] (.e (.v 52)) .n (.c [75] (.r (.c (.f .len (.c (.v 3) .n)) .n)) .n .n))&&decide (((nR (Fk ws)).map (fT cu cv)).length<64)))=true :=
    jX ⟨dg (by rw[dx];exact lf),jX ⟨rfl,dg (by rw[dx];exact lC l7 (by decide))⟩⟩
   refine(if_pos hc).trans ?_;rw[f1,xR]
 have e0:ex S [(58,aj [cu,cv]),(52,a6 cu cv ws)] NU=some (.n [(58,aj [cu,cv]),(52,a6 cu cv ws),(74,a6 cu cv F)]):=aK s0;have e1:ex S [(58,aj [cu,cv]),(52,a6 cu cv ws),(74,a6 cu cv F)] NV=some (.n [(58,aj [cu,cv]),(52,a6 cu cv ws),(74,a6 cu cv F),(70, .list ([([],F)].map (nQ cu cv)))]):=rfl;have e2:ex S [(58,aj [cu,cv]),(52,a6 cu cv ws),(74,a6 cu cv F),(70, .list ([([],F)].map (nQ cu cv)))] NW=some (.n [(58,aj [cu,cv]),(52,a6 cu cv ws),(74,a6 cu cv F),(70, .list ([([],F)].map (nQ cu cv))),(73, .list (([([],F)]:List lZ).map fun r=>a6 cu cv r.2))]):=rfl;have one:∀(j:Nat) (r:lZ),([([],F)]:List lZ)[j]?=some r->r=([],F):=fun j r e=>aS (qw e);have I:GI cu cv F ws 0 [([],F)] 0:={
  h0:=rfl
  ok:=fun r m=>by rw[aS m];exact⟨f2,O.mem,fun e=>by have:=(O.mem []).mpr h0;have e:F=[]:=e;rw[e]at this;exact nomatch this⟩
  nd:=List.nodup_cons.mpr ⟨(fun q=>nomatch q),List.nodup_nil⟩
  len:=fun j r e=>by rw[one j r e];exact gL _
  srt:=fun j j' r r' _ e _=>by rw[one j r e];exact gL _
  top:=fun r m=>by rw[aS m];exact gL _
  don:=fun j r q=>absurd q (Nat.not_lt_zero _) }
 have r:=CR (S:=S) h O (K:=qX) (ρ:=[(58,aj [cu,cv]),(52,a6 cu cv ws),(74,a6 cu cv F),(70, .list ([([],F)].map (nQ cu cv))),(73, .list (([([],F)]:List lZ).map fun r=>a6 cu cv r.2))]) I (fun _ _ _ _=>gL _) (gL _) (aJ (show 130<=100000 by decide) (aJ uY (nr _ _))) ⟨rfl,rfl,rfl,rfl,rfl⟩;generalize ho:ox _ _ _ _ _=o at r;cases r with
 |ret r2=>exact⟨some _,cF rfl (ag e0 (ag e1 (ag e2 (au ho)))),r2⟩
 |next r2=>exact⟨none,cF rfl (ag e0 (ag e1 (ag e2 (ag ho (au (bE ar)))))),r2⟩
end
end Internal
section
namespace Internal
variable {S:cU}{k cu cv:Nat}
open PySem.StrLaws in
theorem BT (h:cu≠cv):At (tx (tw cu cv row)) (tx (tw cu cv w)) (tx (tw cu cv row)).length j↔(decide (j+w.length<=row.length)&&((row.drop j).take w.length==w))=true:=by have e1:(tx (tw cu cv row)).length=row.length:=gI row;have e2:(tx (tw cu cv w)).length=w.length:=gI w;unfold At;rw[e1,e2,subAt_eq,e2];show _/\(((tw cu cv row).drop j).take w.length==tw cu cv w)=true↔_;rw[zS,zT,kP h,eO,decide_eq_true_iff]
open PySem.StrLaws in
theorem oY (h:cu≠cv):∀{cuts:aN}{a f:Nat},ChainG (tx (tw cu cv row)) (tx (tw cu cv w)) (tx (tw cu cv row)).length a cuts f->(∀j,f<=j->¬ At (tx (tw cu cv row)) (tx (tw cu cv w)) (tx (tw cu cv row)).length j)->a<=row.length ->
  ∀m,fb row row.length a (List.replicate m w)=decide (m<=cuts.length)
 |[],a,f,hc,hn,ha,0=>rfl
 |[],a,f,hc,hn,ha,m+1=>by have e:f=a:=hc;have hf:eG row w a row.length=none:=wS fun i hi=>Bool.eq_false_iff.mpr fun q=>hn i (e▸hi) ((BT h).mpr q);show(match eG row w a row.length with|some k=>fb row row.length (k+w.length) (List.replicate m w)|none=>false)=_;rw[hf];rfl
 |d::r,a,f,hc,hn,ha,0=>rfl
 |d::r,a,f,hc,hn,ha,m+1=>by obtain⟨h1,h2,h3,h4⟩:=hc;have g:=(BT h).mp h2;have hle:d+w.length<=row.length:=fV g;have hf:eG row w a row.length=some d:=mQ h1 (aJ (nr _ _) hle) g fun i p q=>Bool.eq_false_iff.mpr fun z=>h3 i p q ((BT h).mpr z);have e2:(tx (tw cu cv w)).length=w.length:=gI w;rw[e2]at h4;show(match eG row w a row.length with|some k=>fb row row.length (k+w.length) (List.replicate m w)|none=>false)=_;rw[hf];show fb row row.length (d+w.length) (List.replicate m w)=_;rw[oY h h4 hn hle m,sW];exact decide_eq_decide.mpr Nat.succ_le_succ_iff.symm
theorem rR (hw:1<=w.length):∀{m a:Nat},fb row row.length a (List.replicate m w)=true->m≠0->a+m<=row.length
 |0,a,_,n=>absurd rfl n
 |m+1,a,h,_=>by
  have h:(match eG row w a row.length with|some k=>fb row row.length (k+w.length) (List.replicate m w)|none=>false)=true:=h;cases hf:eG row w a row.length with
  |none=>rw[hf]at h;exact ff h
  |some d =>
   rw[hf]at h;have h:fb row row.length (d+w.length) (List.replicate m w)=true:=h;obtain⟨p1,p2,_⟩:=ot hf;have:=fV p2;by_cases z:m=0
   .rw[z];exact aJ (qx p1 hw) this
   .refine aJ ?_ (rR hw h z);rw[Nat.add_comm m,<- Nat.add_assoc];exact Nat.add_le_add_right (qx p1 hw) _
open PySem.StrLaws in
theorem Am (h:cu≠cv)(hw:1<=w.length):∃c:Nat,lg .count (aj (tw cu cv row)) [aj (tw cu cv w)]=some (ae c)/\c<=row.length/\∀m,fb row row.length 0 (List.replicate m w)=decide (m<=c):=by
 obtain⟨f,h1,h2⟩:=occ_tight (tx (tw cu cv row)) (tx (tw cu cv w)) (by rw[show(tx (tw cu cv w)).length=w.length from gI w];exact hw);have key:=fun m=>oY h h1 h2 (gL _) m;generalize hL:Builtin.Str.occurrences (tx (tw cu cv row)) (tx (tw cu cv w)) 0 (tx (tw cu cv row)).length ((tx (tw cu cv row)).length+1)=L at key;refine⟨L.length,by rw[<- hL];rfl, ?_,key⟩;by_cases z:L.length=0
 .rw[z];exact gL _
 .exact aJ (Nat.le_add_left _ _) (rR hw ((key L.length).trans (dg (fc _))) z)
end Internal
end
namespace Internal
section
variable {S:cU}{k cu cv:Nat}
theorem Cr:eQ x [] y (x++y)=true:=by unfold eQ;rw[List.isPrefixOf_iff_prefix.mpr (List.prefix_append x y),List.isSuffixOf_iff_suffix.mpr (List.suffix_append x y),dg (by rw[dR];exact fc _)];rfl
theorem qR (h:g.length<x.length+y.length):eQ x ms y g=false:=by unfold eQ;rw[cG (Nat.not_le.mpr h),Bool.and_false,Bool.false_and]
theorem wJ:eQ x [y] y (x++y++y)=true:=by
 unfold eQ;rw[List.isPrefixOf_iff_prefix.mpr (by rw[List.append_assoc];exact List.prefix_append x _),List.isSuffixOf_iff_suffix.mpr (List.suffix_append _ y),dg (by rw[dR,dR];exact nr _ _)];show(match eG (x++y++y) y x.length ((x++y++y).length-y.length)with|some k=>fb (x++y++y) ((x++y++y).length-y.length) (k+y.length) []|none=>false)=true;have e:(x++y++y).length-y.length=x.length+y.length:=by rw[dR,dR,Nat.add_sub_cancel]
 have hf:eG (x++y++y) y x.length (x.length+y.length)=some x.length:=mQ (fc _) (nr _ _) (jX ⟨dg (fc _),by rw[List.append_assoc,List.drop_left,List.take_left];exact beq_self_eq_true y⟩) fun i a b=>absurd a (Nat.not_le.mpr b);rw[e,hf];rfl
theorem wK (hy:1<=y.length):eQ x [y] y (x++y)=false:=by
 unfold eQ;have hw:fb (x++y) ((x++y).length-y.length) x.length [y]=false:=by
  show(match eG (x++y) y x.length ((x++y).length-y.length)with|some k=>fb (x++y) ((x++y).length-y.length) (k+y.length) []|none=>false)=false;have e:(x++y).length-y.length=x.length:=by rw[dR,Nat.add_sub_cancel]
  have hf:eG (x++y) y x.length x.length=none:=wS fun i hi=>Bool.and_eq_false_iff.mpr (.inl (cG fun q=>absurd (aJ (qx hi hy) q) (Nat.not_succ_le_self _)));rw[e,hf]
 rw[hw,Bool.and_false]
theorem Cs (h:∀m,fb row row.length 0 (List.replicate m w)=decide (m<=c))(m:Nat):eQ [] (if m=0 then[[]]else List.replicate m w) [] row=decide (m<=c):=by
 unfold eQ;have h1:([]:aB).isPrefixOf row=true:=rfl;have h2:([]:aB).isSuffixOf row=true:=List.isSuffixOf_iff_suffix.mpr List.nil_suffix;rw[h1,h2,dg (show([]:aB).length+([]:aB).length<=row.length from gL _)];show fb row (row.length-0) 0 _=_;rw[Nat.sub_zero];by_cases z:m=0
 .rw[if_pos z,z];have hf:eG row [] 0 row.length=some 0:=mQ (fc _) (gL _) (jX ⟨dg (gL _),beq_self_eq_true []⟩) fun i a b=>absurd a (Nat.not_le.mpr b);show(match eG row [] 0 row.length with|some k=>fb row row.length (k+0) []|none=>false)=_;rw[hf];rfl
 .rw[if_neg z];exact h m
theorem Cm (w:aN):∀m,D3++be (List.replicate m w)++D3=be ([]::((if m=0 then[[]]else List.replicate m w)++[[]]))
 |0=>rfl
 |m+1=>by
  rw[if_neg (Nat.succ_ne_zero m)];have key:∀m,be (List.replicate (m+1) w)++D3=be (List.replicate (m+1) w++[[]]):=fun m=>by
   induction m with
   |zero=>show w++D3=w++D3++[];rw[List.append_nil]
   |succ m ih =>
    have e:List.replicate (m+1+1) w=w::w::List.replicate m w:=rfl;rw[e];show w++D3++be (List.replicate (m+1) w)++D3=w++D3++be (List.replicate (m+1) w++[[]]);rw[List.append_assoc,ih]
  rw[List.append_assoc,key];rfl
theorem tQ (u v:aN):∀l:List aB,(l.map (wd u v)).flatten=wd u v l.flatten
 |[]=>rfl
 |x::l=>by rw[i8,List.flatten_cons,tQ u v l,List.flatten_cons,bY]
theorem yR (hb:Bd n ws):ws.flatten.length<=ws.length*n:=by
 induction ws with
 |nil=>exact gL _
 |cons x l ih =>
  have h1:=hb x (.head _);have h2:=ih fun y m=>hb y (.tail _ m);rw[List.flatten_cons,dR,sW,Nat.succ_mul,Nat.add_comm];exact qx h2 h1
theorem M8 (a b c:aN):be [a,b,c]=a++D3++b++D3++c:=by simp[be]
abbrev Ir (k cu cv:Nat)(p:Wt):D:=.tuple [aj (ww k cu cv p.1),aj (ww k cu cv p.2)]
theorem fN.l18 (Q:fN k cu cv)(h:x.length<=3):(ww k cu cv x).length<=18:=aJ (Q.len (aJ h (by decide))) (Nat.mul_le_mul_left 6 h)
theorem vJ (d:D)(l:List Wt):(List.replicate l.length [d]).flatten=l.map fun _=>d:=by
 induction l with
 |nil=>rfl
 |cons x l ih=>rw[sW,List.replicate_succ,List.flatten_cons,ih];rfl
theorem zi {l:List Wt}(h:PyData.eqv d d=true)(hd:gc 7 d=true):bH .NotEq (.list (l.map fun _=>d)) (.list (l.map fun _=>d))=some (.bool false):=by
 have hp:gc 8 (.list (l.map fun _=>d))=true:=List.all_eq_true.mpr fun x hx=>by obtain⟨p,_,rfl⟩:=iz hx;exact hd
 show(if gc 8 (.list (l.map fun _=>d))&&gc 8 (.list (l.map fun _=>d))then some (PyData.bool (!PyData.eqvAll (l.map fun _=>d) (l.map fun _=>d)))else none)=_;have:PyData.eqvAll (l.map fun _=>d) (l.map fun _=>d)=true:=by
  induction l with
  |nil=>rfl
  |cons x l ih=>show(PyData.eqv d d&&PyData.eqvAll (l.map fun _=>d) (l.map fun _=>d))=true;rw[h,ih (List.all_eq_true.mpr fun x hx=>by obtain⟨p,_,rfl⟩:=iz hx;exact hd)];rfl
 rw[hp,this];rfl
theorem Hh (h:xs[xs.length-1]?=some d):jf (.list xs) (.int (-1))=some d:=by
 have hp:0<xs.length:=by
  rcases Nat.eq_zero_or_pos xs.length with q|q
  .rw[List.length_eq_zero_iff.mp q]at h;exact nn h
  .exact q
 show(seqIndex? (-1) xs.length).bind (xs[·]?)=_;rw[pz hp];exact h
noncomputable def zA (ws:List aB)(j:Nat):Wt:=(ws.getD j [],if j=0 then ws.getD (ws.length-1) []else ws.getD (j-1) [])
theorem ou {ws:List aB}(h:j<ws.length):ws[j]?=some (ws.getD j []):=by rw[List.getD_eq_getElem?_getD,List.getElem?_eq_getElem h];rfl
theorem vH {ws:List aB}(h:j<ws.length):(zA ws j).1∈ws/\(zA ws j).2∈ws:=by
 refine⟨qw (ou h), ?_⟩;by_cases z:j=0
 .show(if j=0 then _ else _)∈ws;rw[if_pos z];exact qw (ou (Nat.sub_one_lt_of_lt h))
 .show(if j=0 then _ else _)∈ws;rw[if_neg z];exact qw (ou (lC (Nat.sub_le _ _) h))
section
variable (F:Facts S)(Q:fN k cu cv)(y:g5 (wr k cu) (wr k cv)){dr:D}(Dd:Ib k cu cv dr){ws:List aB}(W:ue 20 ws){ρ:aF}
include F Q y Dd W
omit F y in
theorem NJ (g66:ρ.get 66=some dr)(g52:ρ.get 52=some (a6 cu cv ws)):ex S ρ NZ=some (.n (ρ.set 82 (.list (((List.range ws.length).map (zA ws)).map (Ir k cu cv))))):=by
 have wl:=W.len;rw[kR];refine aK (cH (l:=List.range ws.length) (i:=ae) (mJ (sI (aa g52)) (aJ wl (by decide))) fun j mj=>⟨(ρ.del ([75]++[])).set 75 (ae j),rfl, ?_⟩);have hj:=List.mem_range.mp mj;obtain⟨m1,m2⟩:=vH hj;have q66:((ρ.del ([75]++[])).set 75 (ae j)).get 66=some dr:=cm rfl (nj rfl g66);have q52:((ρ.del ([75]++[])).set 75 (ae j)).get 52=some (a6 cu cv ws):=cm rfl (nj rfl g52);have a1:∀{i:Nat},i<ws.length->(ws.map fun x=>aj (tw cu cv x))[i]?=some (aj (tw cu cv (ws.getD i []))):=fun{i} hi=>by rw[List.getElem?_map,ou hi];rfl
 refine dW (bk (aa q66) (bk (aa q52) (aa an) (hH (a1 hj))) (Dd _ (W.sz _ m1).2)) (bk (aa q66) ?_ (Dd _ (W.sz _ m2).2));show ev S _ _=some (aj (tw cu cv (if j=0 then ws.getD (ws.length-1) []else ws.getD (j-1) [])));by_cases z:j=0
 .rw[if_pos z];refine bk (aa q52) (aC (y:=ae 1) (z:=.int (-1)) (aa an) ar (by rw[z];rfl)) (Hh ?_);rw[dx];exact a1 (Nat.sub_one_lt_of_lt hj)
 .rw[if_neg z];exact bk (aa q52) (aC (aa an) (ar (d:=ae 1)) (ge (Nat.pos_of_ne_zero z))) (hH (a1 (lC (Nat.sub_le _ _) hj)))
omit Dd W in
theorem NK {ps:List Wt}(hp:∀p∈ps,(1<=p.1.length/\p.1.length<=3)/\1<=p.2.length/\p.2.length<=3)(g82:ρ.get 82=some (.list (ps.map (Ir k cu cv)))):ex S ρ N0=some (.n (ρ.set 65 (.list (ps.map fun _=>.list [.bool true, .bool false, .bool false])))):=by
 refine aK (cH (l:=ps) (i:=Ir k cu cv) (bi (aa g82) rfl) fun p mp=>⟨((ρ.del ([57,68]++[])).set 57 (aj (ww k cu cv p.1))).set 68 (aj (ww k cu cv p.2)),rfl, ?_⟩);obtain⟨⟨h1,h2⟩,h3,h4⟩:=hp p mp;have q57:(((ρ.del ([57,68]++[])).set 57 (aj (ww k cu cv p.1))).set 68 (aj (ww k cu cv p.2))).get 57=some (aj (ww k cu cv p.1)):=cm rfl an;have q68:(((ρ.del ([57,68]++[])).set 57 (aj (ww k cu cv p.1))).set 68 (aj (ww k cu cv p.2))).get 68=some (aj (ww k cu cv p.2)):=an;generalize ((ρ.del ([57,68]++[])).set 57 (aj (ww k cu cv p.1))).set 68 (aj (ww k cu cv p.2))=ρ' at q57 q68;have e1:∀{ρ:aF},ρ.get 57=some (aj (ww k cu cv p.1))->yg S ρ (.v 57) (ww k cu cv p.1) 18:=fun g=>⟨aa g,Q.l18 h2⟩;have e2:∀{ρ:aF},ρ.get 68=some (aj (ww k cu cv p.2))->yg S ρ (.v 68) (ww k cu cv p.2) 18:=fun g=>⟨aa g,Q.l18 h4⟩;have src:dk S ρ' (.e (.i (.c (.b .Add (.v 57) (.v 68)) (.c (.v 57) (.c (.v 68) .n)))))=some ([p.1++p.2,p.1,p.2].map fun x=>aj (ww k cu cv x)):=by refine bi (x:=.list [aj (ww k cu cv p.1++ww k cu cv p.2),aj (ww k cu cv p.1),aj (ww k cu cv p.2)]) (dB (ah ((e1 q57).add (e2 q68) rfl).1 (ah (aa q57) (ah (aa q68) aw))) (oF rfl)) ?_;rw[<- bY];rfl
 have key:=cH (S:=S) (ρ:=ρ') (elt:=.c 32 (.c (.b .Add (.b .Add (.v 57) (.l (.str "..."))) (.v 68)) (.c (.v 36) .n))) (tg:=[36]) (l:=[p.1++p.2,p.1,p.2]) (i:=fun x=>aj (ww k cu cv x)) (g:=fun x=>.bool (eQ p.1 [] p.2 x)) src fun x _=>⟨(ρ'.del ([36]++[])).set 36 (aj (ww k cu cv x)),rfl,
  aX (ah (((e1 (cm rfl (nj rfl q57))).add .lit rfl).add (e2 (cm rfl (nj rfl q68))) rfl).1 (ah (aa an) aw)) (Q.dots F y (p:=p.1) (ms:=[]) (q:=p.2) (g:=x) (aJ h2 (by decide)) (aJ h4 (by decide)) (fun _ m=>nomatch m) (gL _))⟩
 refine key.trans ?_;show some (PyData.list [.bool (eQ p.1 [] p.2 (p.1++p.2)), .bool (eQ p.1 [] p.2 p.1), .bool (eQ p.1 [] p.2 p.2)])=_;rw[Cr,qR (Nat.lt_add_of_pos_right h3),qR (Nat.lt_add_of_pos_left h1)]
omit Dd W in
theorem NL {ps:List Wt}(hp:∀p∈ps,(1<=p.1.length/\p.1.length<=3)/\1<=p.2.length/\p.2.length<=3)(g82:ρ.get 82=some (.list (ps.map (Ir k cu cv)))):ex S ρ N1=some (.n (ρ.set 81 (.list (ps.map fun _=>.list [.bool true, .bool false])))):=by
 refine aK (cH (l:=ps) (i:=Ir k cu cv) (bi (aa g82) rfl) fun p mp=>⟨((ρ.del ([57,68]++[])).set 57 (aj (ww k cu cv p.1))).set 68 (aj (ww k cu cv p.2)),rfl, ?_⟩);obtain⟨⟨h1,h2⟩,h3,h4⟩:=hp p mp;have q57:(((ρ.del ([57,68]++[])).set 57 (aj (ww k cu cv p.1))).set 68 (aj (ww k cu cv p.2))).get 57=some (aj (ww k cu cv p.1)):=cm rfl an;have q68:(((ρ.del ([57,68]++[])).set 57 (aj (ww k cu cv p.1))).set 68 (aj (ww k cu cv p.2))).get 68=some (aj (ww k cu cv p.2)):=an;generalize ((ρ.del ([57,68]++[])).set 57 (aj (ww k cu cv p.1))).set 68 (aj (ww k cu cv p.2))=ρ' at q57 q68;have e1:∀{ρ:aF},ρ.get 57=some (aj (ww k cu cv p.1))->yg S ρ (.v 57) (ww k cu cv p.1) 18:=fun g=>⟨aa g,Q.l18 h2⟩;have e2:∀{ρ:aF},ρ.get 68=some (aj (ww k cu cv p.2))->yg S ρ (.v 68) (ww k cu cv p.2) 18:=fun g=>⟨aa g,Q.l18 h4⟩;have e12:=(e1 q57).add (e2 q68) rfl;have src:dk S ρ' (.e (.i (.c (.b .Add (.b .Add (.v 57) (.v 68)) (.v 68)) (.c (.b .Add (.v 57) (.v 68)) .n))))=some ([p.1++p.2++p.2,p.1++p.2].map fun x=>aj (ww k cu cv x)):=by refine bi (x:=.list [aj (ww k cu cv p.1++ww k cu cv p.2++ww k cu cv p.2),aj (ww k cu cv p.1++ww k cu cv p.2)]) (dB (ah (e12.add (e2 q68) rfl).1 (ah e12.1 aw)) (oF rfl)) ?_;rw[<- bY,<- bY];rfl
 have key:=cH (S:=S) (ρ:=ρ') (elt:=.c 32 (.c (.b .Add (.b .Add (.b .Add (.b .Add (.v 57) (.l (.str "..."))) (.v 68)) (.l (.str "..."))) (.v 68)) (.c (.v 36) .n))) (tg:=[36]) (l:=[p.1++p.2++p.2,p.1++p.2]) (i:=fun x=>aj (ww k cu cv x)) (g:=fun x=>.bool (eQ p.1 [p.2] p.2 x)) src fun x _=>⟨(ρ'.del ([36]++[])).set 36 (aj (ww k cu cv x)),rfl,by have q:=Q.dots F y (p:=p.1) (ms:=[p.2]) (q:=p.2) (g:=x) (aJ h2 (by decide)) (aJ h4 (by decide)) (fun z m=>by rw[aS m];exact aJ h4 (by decide)) (oF rfl);have e:be (ww k cu cv p.1::(([p.2]:List aB).map (ww k cu cv)++[ww k cu cv p.2]))=ww k cu cv p.1++D3++ww k cu cv p.2++D3++ww k cu cv p.2:=M8 _ _ _;rw[e]at q;have r68:=e2 (cm rfl (nj rfl q68):((ρ'.del ([36]++[])).set 36 (aj (ww k cu cv x))).get 68=_);exact aX (ah (((((e1 (cm rfl (nj rfl q57))).add .lit rfl).add r68 rfl).add .lit rfl).add r68 rfl).1 (ah (aa an) aw)) q⟩;refine key.trans ?_;show some (PyData.list [.bool (eQ p.1 [p.2] p.2 (p.1++p.2++p.2)), .bool (eQ p.1 [p.2] p.2 (p.1++p.2))])=_;rw[wJ,wK h3]
end
noncomputable abbrev H2:E:=.b .Add (.b .Add (.l (.str "...")) (.m .join (.l (.str "...")) (.c (.b .Mult (.i (.c (.s (.v 66) (.v 79)) .n)) (.v 80)) .n))) (.l (.str "..."))
noncomputable abbrev nK (w:aB)(m:Nat):List aB:=if m=0 then[[]]else List.replicate m w
theorem yJ:∀{ps:List aN}{M:Nat},(∀p∈ps,p.length<=M)->(be ps).length<=ps.length*(M+3)
 |[],M,_=>gL _
 |[p],M,h=>by show p.length<=1*(M+3);rw[Nat.one_mul];exact aJ (h p (.head _)) (nr _ _)
 |p::q::r,M,h=>by have h1:=h p (.head _);have h2:=yJ (ps:=q::r) (M:=M) fun z m=>h z (.tail _ m);show(p++[46,46,46]++be (q::r)).length<=((q::r).length+1)*(M+3);rw[dR,dR,Nat.succ_mul,Nat.add_comm];exact qx h2 (Nat.add_le_add_right h1 3)
section
variable (F:Facts S)(Q:fN k cu cv)(y:g5 (wr k cu) (wr k cv)){dr:D}(Dd:Ib k cu cv dr){ws:List aB}(W:ue 20 ws){ρ:aF}{two:aB}
include F Q y Dd W
omit F y W in
theorem Gi (g66:ρ.get 66=some dr)(g79:ρ.get 79=some (aj (tw cu cv two)))(g80:ρ.get 80=some (ae m))(h2:two.length<=3)(hm:m<=100):ev S ρ H2=some (aj (be (ww k cu cv []::((nK two m).map (ww k cu cv)++[ww k cu cv []])))):=by
 have l1:=Q.l18 h2;have hs:∀c∈ww k cu cv two,c<55296:=(Q.okb (x:=two) (aJ h2 (by decide))).2;have e1:ev S ρ (.b .Mult (.i (.c (.s (.v 66) (.v 79)) .n)) (.v 80))=some (.list ((List.replicate m (ww k cu cv two)).map aj)):=by
  have:=oj (S:=S) (ρ:=ρ) (a:=[aj (ww k cu cv two)]) (n:=m) (dB (ah (bk (aa g66) (aa g79) (Dd two h2)) aw) (oF rfl)) (aa g80) (aJ hm (by decide)) (oF rfl);rw[this];refine congrArg (fun l=>some (PyData.list l)) ?_;rw[List.map_replicate];clear this hm g80
  induction m with
  |zero=>rfl
  |succ m ih=>rw[List.replicate_succ,List.flatten_cons,ih];rfl
 have e2:=CC e1 (by rw[List.length_replicate];exact hm) fun p mp=>by rw[List.eq_of_mem_replicate mp];exact⟨aJ l1 (by decide),hs⟩
 have l2:=yJ (ps:=List.replicate m (ww k cu cv two)) (M:=18) fun p mp=>by rw[List.eq_of_mem_replicate mp];exact l1
 rw[List.length_replicate]at l2;have e3:yg S ρ _ _ 2100:=⟨e2,aJ l2 (oG 21 hm)⟩;have:=((yg.lit.add e3 rfl).add .lit rfl).1;rw[Cm]at this;refine this.trans (congrArg (fun l=>some (aj (be l))) ?_);show[]::(_++[[]])=[]::(_++[[]]);refine congrArg (fun l=>[]::(l++[[]])) ?_;unfold nK;by_cases z:m=0
 .rw[if_pos z,if_pos z];rfl
 .rw[if_neg z,if_neg z,List.map_replicate]
theorem Bv (h2:two.length=2)(g47:ρ0.get 47=some (ae k))(g66:ρ0.get 66=some dr)(g52:ρ0.get 52=some (a6 cu cv ws))(g79:ρ0.get 79=some (aj (tw cu cv two))):dP S ρ0 H8=some (.r (.bool true)):=by
 have wl:=W.len;have hb:Bd 3 ws:=fun x m=>(W.sz x m).2;refine ag (NJ Q Dd W g66 g52) ?_;generalize gv:(List.range ws.length).map (zA ws)=ps;have hp:∀p∈ps,(1<=p.1.length/\p.1.length<=3)/\1<=p.2.length/\p.2.length<=3:=fun p m=>by rw[<- gv]at m;obtain⟨j,mj,rfl⟩:=iz m;obtain⟨a,b⟩:=vH (List.mem_range.mp mj);exact⟨W.sz _ a,W.sz _ b⟩
 have lp:ps.length<=20:=by rw[<- gv,dx,List.length_range];exact wl
 refine ag (NK F Q y hp an) ?_;refine ag (NL F Q y hp (cm rfl an)) ?_;generalize hρ1:((ρ0.set 82 (.list (ps.map (Ir k cu cv)))).set 65 (.list (ps.map fun _=>.list [.bool true, .bool false, .bool false]))).set 81 (.list (ps.map fun _=>.list [.bool true, .bool false]))=ρ1;have k1:Kp [82,65,81] ρ0 ρ1:=hρ1▸((Kp.refl.set rfl).set rfl).set rfl;have q82:ρ1.get 82=some (.list (ps.map (Ir k cu cv))):=by rw[<- hρ1];exact cm rfl (cm rfl an)
 have q65:ρ1.get 65=some (.list (ps.map fun _=>.list [.bool true, .bool false, .bool false])):=by rw[<- hρ1];exact cm rfl an
 have q81:ρ1.get 81=some (.list (ps.map fun _=>.list [.bool true, .bool false])):=by rw[<- hρ1];exact an
 have l82:=CE (S:=S) (aa q82);rw[dx]at l82;have t1:ev S ρ1 (.b .Mult (.i (.c (.i (.c (.l (.bool true)) (.c (.l (.bool false)) (.c (.l (.bool false)) .n)))) .n)) (.f .len (.c (.v 82) .n)))=some (.list (ps.map fun _=>.list [.bool true, .bool false, .bool false])):=by have:=oj (S:=S) (ρ:=ρ1) (e1:=.i (.c (.i (.c (.l (.bool true)) (.c (.l (.bool false)) (.c (.l (.bool false)) .n)))) .n)) (a:=[.list [.bool true, .bool false, .bool false]]) rfl l82 (aJ lp (by decide)) (oF rfl);rw[vJ]at this;exact this
 have t2:ev S ρ1 (.b .Mult (.i (.c (.i (.c (.l (.bool true)) (.c (.l (.bool false)) .n))) .n)) (.f .len (.c (.v 82) .n)))=some (.list (ps.map fun _=>.list [.bool true, .bool false])):=by have:=oj (S:=S) (ρ:=ρ1) (e1:=.i (.c (.i (.c (.l (.bool true)) (.c (.l (.bool false)) .n))) .n)) (a:=[.list [.bool true, .bool false]]) rfl l82 (aJ lp (by decide)) (oF rfl);rw[vJ]at this;exact this
 refine ag (ct (Jn (av (aa q65) t1 (zi rfl rfl)) (av (aa q81) t2 (zi rfl rfl))) rfl) ?_;have lr:ws.flatten.length<=60:=aJ (yR hb) (oG 3 wl);have e4:ev S ρ1 (.m .join (.l (.str "")) (.c (.v 52) .n))=some (aj (tw cu cv ws.flatten)):=by
  have g:ev S ρ1 (.v 52)=some (.list ((ws.map (tw cu cv)).map aj)):=by rw[kR];exact aa (k1 52 _ rfl g52)
  have:=uN g (by rw[dx];exact aJ wl (by decide)) fun p mp=>by obtain⟨x,mx,rfl⟩:=iz mp;have:=aJ (hb x mx) (by decide:3<=1000);exact⟨by rw[gI];exact this,(Q.ok (aJ this (by decide))).2⟩
  rw[tQ]at this;exact this
 refine ag (aK e4) ?_;generalize hrow:ws.flatten=row;rw[hrow]at lr;generalize hρ2:ρ1.set 77 (aj (tw cu cv row))=ρ2;have k2:Kp [82,65,81,77] ρ0 ρ2:=hρ2▸(k1.mono rfl).set rfl;have q77:ρ2.get 77=some (aj (tw cu cv row)):=by rw[<- hρ2];exact an
 obtain⟨c,c1,c2,c3⟩:=Am Q.code_ne (row:=row) (w:=two) (by rw[h2];decide);have q79:=k2 79 _ rfl g79;have lc:c<=60:=aJ c2 lr;have l2:two.length<=3:=by rw[h2];decide
 have m100:∀m∈[c,c+1],m<=100:=fun m mm=>by
  rcases bA mm with rfl|mm
  .exact aJ lc (by decide)
  .rw[aS mm];exact aJ (Nat.succ_le_succ lc) (by decide)
 have ec:ev S ρ2 (.m .count (.v 77) (.c (.v 79) .n))=some (ae c):=sJ (aa q77) (ah (aa q79) aw) c1;have src:dk S ρ2 (.e (.i (.c (.m .count (.v 77) (.c (.v 79) .n)) (.c (.b .Add (.m .count (.v 77) (.c (.v 79) .n)) (.l (.int 1))) .n))))=some ([c,c+1].map ae):=bi (x:=.list [ae c,ae (c+1)]) (dB (ah ec (ah (aC ec (ar (d:=ae 1)) (ln c 1)) aw)) (oF rfl)) rfl;have e5:=cH (S:=S) (ρ:=ρ2) (elt:=H2) (tg:=[80]) (l:=[c,c+1]) (i:=ae) (g:=fun m=>aj (be (ww k cu cv []::((nK two m).map (ww k cu cv)++[ww k cu cv []])))) src fun m mm=>⟨(ρ2.del ([80]++[])).set 80 (ae m),rfl,Gi Q Dd (cm rfl (nj rfl (k2 66 _ rfl g66))) (cm rfl (nj rfl q79)) an l2 (m100 m mm)⟩;refine ag (aK e5) (au (bE ?_));generalize hρ3:ρ2.set 78 _=ρ3;have q78:ρ3.get 78=some (.list ([c,c+1].map fun m=>aj (be (ww k cu cv []::((nK two m).map (ww k cu cv)++[ww k cu cv []]))))):=by rw[<- hρ3];exact an
 have k3:Kp [78] ρ2 ρ3:=hρ3▸Kp.refl.set rfl;have r47:=k3 47 _ rfl (k2 47 _ rfl g47);have r77:=k3 77 _ rfl q77;have e6:=cH (S:=S) (ρ:=ρ3) (elt:=.c 32 (.c (.v 38) (.c (.c 46 (.c (.v 47) (.c (.v 77) .n))) .n))) (tg:=[38]) (src:=.e (.v 78)) (l:=[c,c+1]) (i:=fun m=>aj (be (ww k cu cv []::((nK two m).map (ww k cu cv)++[ww k cu cv []])))) (g:=fun m=>.bool (decide (m<=c))) (bi (aa q78) rfl) fun m mm=>⟨_,rfl,by
  have hm:=m100 m mm;have q:=Q.dots F y (p:=[]) (ms:=nK two m) (q:=[]) (g:=row) (gL _) (gL _) (fun x mx=>by
   unfold nK at mx;by_cases z:m=0
   .rw[if_pos z]at mx;rw[aS mx];exact gL _
   .rw[if_neg z]at mx;rw[List.eq_of_mem_replicate mx];exact aJ l2 (by decide)) (by
   unfold nK;by_cases z:m=0
   .rw[if_pos z];exact oF rfl
   .rw[if_neg z,List.length_replicate];exact aJ hm (by decide))
  rw[Cs c3 m]at q;exact aX (ah (aa an) (ah (aX (ah (aa (cm rfl (nj rfl r47))) (ah (aa (cm rfl (nj rfl r77))) aw)) (Q.writ F (aJ lr (by decide)))) aw)) q⟩
 refine jH e6 (y:=.list [.bool true, .bool false]) rfl ?_;show bH .Eq (.list [.bool (decide (c<=c)), .bool (decide (c+1<=c))]) (.list [.bool true, .bool false])=_;rw[dg (fc c),cG (Nat.not_succ_le_self c)];rfl
theorem Eb (h2:two.length=2):aV S eV [ae k,dr,a6 cu cv ws,aj (tw cu cv two)]=some (.bool true):=
 cF rfl (Bv F Q y Dd W (ρ0:=[(47,ae k),(66,dr),(52,a6 cu cv ws),(79,aj (tw cu cv two))]) h2 rfl rfl rfl rfl)
end
theorem GP {k v:Str}{P:Str × Str->Prop}(h:∀p∈kv,P p)(hk:P (k,v)):∀p∈lK kv k v,P p:=fun p m=>by
 unfold lK at m;by_cases c:kv.any (fun p=>decide (p.1=k))=true
 .rw[if_pos c]at m;obtain⟨q,mq,rfl⟩:=iz m;by_cases e:q.1=k
  .rw[if_pos e,e];exact hk
  .rw[if_neg e];exact h q mq
 .rw[if_neg c]at m;rcases cy m with m|m
  .exact h p m
  .rw[aS m];exact hk
theorem zB {k v x:Str}(h:x=k\/∃p∈kv,p.1=x):∃p∈lK kv k v,p.1=x:=by
 unfold lK;by_cases c:kv.any (fun p=>decide (p.1=k))=true
 .rw[if_pos c];have:∃p∈kv,p.1=x:=by
   rcases h with rfl|h
   .obtain⟨p,m,e⟩:=List.any_eq_true.mp c;exact⟨p,m,bJ e⟩
   .exact h
  obtain⟨p,m,e⟩:=this;refine⟨_,List.mem_map.mpr ⟨p,m,rfl⟩, ?_⟩;by_cases q:p.1=k
  .rw[if_pos q];exact e
  .rw[if_neg q];exact e
 .rw[if_neg c];rcases h with rfl|⟨p,m,e⟩
  .exact⟨(x,v),hJ _ (.head _),rfl⟩
  .exact⟨p,ij _ m,e⟩
noncomputable abbrev KC {α:Type}(K V:α->Str)(a:α):D:=.tuple [.str (K a), .str (V a)]
theorem uS {K V:α->Str}{P:Str × Str->Prop}:∀{l:List α}{acc:List (Str × Str)},(∀a∈l,P (K a,V a))->(∀p∈acc,P p)->∀p∈(l.map (KC K V)).foldl lQ acc,P p
 |[],_,_,h=>h
 |a::l,acc,h,h'=>uS (l:=l) (acc:=lK acc (K a) (V a)) (fun b m=>h b (.tail _ m)) (GP h' (h a (.head _)))
theorem uT {K V:α->Str}{x:Str}:∀{l:List α}{acc:List (Str × Str)},((∃a∈l,K a=x)\/∃p∈acc,p.1=x)->∃p∈(l.map (KC K V)).foldl lQ acc,p.1=x
 |[],_,h=>h.elim (fun⟨_,m,_⟩=>nomatch m) id
 |a::l,acc,h=>uT (l:=l) (acc:=lK acc (K a) (V a)) (by
  rcases h with⟨b,m,e⟩|h
  .rcases bA m with rfl|m
   .exact .inr (zB (.inl e.symm))
   .exact .inl ⟨b,m,e⟩
  .exact .inr (zB (.inr h)))
theorem vk {k v:Str}:∀{kv:List (Str × Str)},(∀p∈kv,p.1=k->p.2=v)->(∃p∈kv,p.1=k)->PySem.Spec.lookup (.str k) (kv.map fun p=>(PyData.str p.1,PyData.str p.2))=some (.str v)
 |[],_,⟨_,m,_⟩=>nomatch m
 |(y,z)::r,h,h'=>by
  have e:PySem.Spec.lookup (.str k) (((y,z)::r).map fun p=>(PyData.str p.1,PyData.str p.2))=if PySem.Spec.same (.str y) (.str k)then some (.str z)else PySem.Spec.lookup (.str k) (r.map fun p=>(PyData.str p.1,PyData.str p.2)):=rfl;rw[e];by_cases q:y=k
  .rw[if_pos (by rw[q];show(_:Str)==_;simp)];exact congrArg (fun x=>some (PyData.str x)) (h _ (.head _) q)
  .rw[if_neg (fun w:PySem.Spec.same (.str y) (.str k)=true=>q (eM (show((y:Str)==k)=true from w)))];refine vk (fun p m=>h p (.tail _ m)) ?_;obtain⟨p,m,e⟩:=h';rcases bA m with rfl|m
   .exact absurd e q
   .exact⟨p,m,e⟩
theorem HS:∀kv:List (Str × Str),dF (.dict (kv.map fun p=>(.str p.1, .str p.2)))=true
 |[]=>rfl
 |p::kv=>HS kv
theorem Gf {n:Nat}{src:By}{l:List α}{i:α->D}{K V:α->Str}(hs:dk S ρ src=some (l.map i))(hl:l.length<=1000)
  (h:∀a∈l,ev S ((ρ.del ([n]++[])).set n (i a)) ke=some (.str (K a))/\ev S ((ρ.del ([n]++[])).set n (i a)) ve=some (.str (V a))/\sok (.str (K a))=true/\sok (.str (V a))=true) (hz:dC src=false:=by rfl) :
  ev S ρ (.dcomp ke ve (.c [n] src .n .n))=some (.dict ((k9 (l.map (KC K V))).map fun p=>(.str p.1, .str p.2))):=by
 refine bi (x:=l.map (KC K V)) (bi hs ?_) (if_pos ?_)
 .have key:=ft (f:=fun it=>(bx (ρ.del ([n]++[])) [n] it).bind fun ρ'=>(ie S ρ' .And .n).bind fun b=>bif b then le S ρ' ρ' (fun ρ'=>jA (ev S ρ' ke) fun a=>jA (ev S ρ' ve) fun b=>if sok (.str a)&&sok (.str b)then some (.tuple [.str a, .str b])else none) .n else some []) (l:=l) (i:=i) (g:=KC K V) (p:=fun _=>true) fun a m=>by obtain⟨h1,h2,h3,h4⟩:=h a m;refine bi (x:=(ρ.del ([n]++[])).set n (i a)) rfl (bi (x:=true) rfl ?_);show((jA (ev S ((ρ.del ([n]++[])).set n (i a)) ke) fun u=>jA (ev S ((ρ.del ([n]++[])).set n (i a)) ve) fun v=>if sok (.str u)&&sok (.str v)then some (PyData.tuple [.str u, .str v])else none).map fun d=>[d])=_;rw[si h1 (si h2 (if_pos (jX ⟨h3,h4⟩)))];rfl
  rw[List.filter_eq_self.mpr fun _ _=>rfl]at key;exact key
 .refine jX ⟨dg (by rw[dx];exact hl), ?_⟩;show(!dC src)=true;rw[hz];rfl
abbrev Ne (k cu cv:Nat)(l:List aB):List (Str × Str):=k9 (l.map (KC (fun x=>tx (tw cu cv x)) fun x=>tx (ww k cu cv x)))
abbrev NM (k cu cv:Nat)(l:List aB):D:=.dict ((Ne k cu cv l).map fun p=>(.str p.1, .str p.2))
theorem zo (Q:fN k cu cv)(h:x.length<=150):sok (.str (tx (ww k cu cv x)))=true:=jz (aJ (Q.okw h).1 (by decide)) (Q.okw h).2
theorem GJ (Q:fN k cu cv)(h:x.length<=150):sok (.str (tx (tw cu cv x)))=true:=jz (aJ (Q.ok (aJ h (by decide))).1 (by decide)) (Q.ok (aJ h (by decide))).2
theorem M9 (Q:fN k cu cv){l:List aB}(hb:Bd 100 l):Dr k cu cv l (NM k cu cv l):=⟨fun x m=>by have h1:∀p∈Ne k cu cv l,∃z,p=(tx (tw cu cv z),tx (ww k cu cv z)):=uS (fun a _=>⟨a,rfl⟩) fun _ m=>nomatch m;have h2:∃p∈Ne k cu cv l,p.1=tx (tw cu cv x):=uT (.inl ⟨x,m,rfl⟩);refine bi (vk (v:=tx (ww k cu cv x)) (fun p mp e=>?_) h2) (if_pos (zo Q (aJ (hb x m) (by decide))));obtain⟨z,rfl⟩:=h1 p mp;have q:(tx (tw cu cv z)==tx (tw cu cv x))=true:=beq_iff_eq.mpr e;rw[xX,kP Q.code_ne,beq_iff_eq]at q;show tx (ww k cu cv z)=_;rw[q],HS _⟩
noncomputable def KY (u v:aN):Bool:=u.tail.all fun c=>u.head? != some c&&v.head? != some c
theorem Jb:((List.range 5).all fun k=>fv.all fun a=>fv.all fun b=>KY (wr k a) (wr k b))=true:=by decide +kernel
theorem zI (hi:i<8):(qD x).getD i 0=x\/(qD x).getD i 0∈fv:=by
 have:=Nf i hi;rcases this with rfl|rfl|rfl|rfl|rfl|rfl|rfl|rfl
 .exact .inr (show 38∈fv by decide)
 .exact .inr (show 60∈fv by decide)
 .exact .inr (show 62∈fv by decide)
 .exact .inr (show 34∈fv by decide)
 .exact .inr (show 13∈fv by decide)
 .exact .inr (show 10∈fv by decide)
 .exact .inr (show 9∈fv by decide)
 .exact .inl rfl
theorem Ef (hk:k<5)(hx:192<=x)(hi:i<8)(hj:j<8):KY (wr k ((qD x).getD i 0)) (wr k ((qD x).getD j 0))=true:=by
 have low:∀{a b:Nat},a∈fv->b∈fv->KY (wr k a) (wr k b)=true:=fun ha hb=>br (br (br Jb k (List.mem_range.mpr hk)) _ ha) _ hb;rcases zI (x:=x) hi with e|m
 .rw[e,lW hk hx];rfl
 .rcases zI (x:=x) hj with e'|m'
  .rw[e',lW hk hx];refine List.all_eq_true.mpr fun c mc=>?_;have h1:=br (low m m) c mc;have h2:=(tT hk m).2 c (List.mem_of_mem_tail mc);refine jX ⟨(cE h1).1, ?_⟩;rw[bne_iff_ne];intro q;have:x=c:=aG q
   lia
  .exact low m m'
theorem Hk (c:Code u v)(h1:KY u v=true)(h2:KY v u=true):g5 u v:={ c with
 hd:=fun z m=>by
  rcases cy m with m|m
  .have:=cE (br h1 z m);exact⟨bne_iff_ne.mp this.1,bne_iff_ne.mp this.2⟩
  .have:=cE (br h2 z m);exact⟨bne_iff_ne.mp this.2,bne_iff_ne.mp this.1⟩ }
end
section
noncomputable def tb (m k:Nat):Bool:=Nat.beq (Nat.land (Nat.shiftRight m k) 1) 1
def cS (A B:Nat):Nat:=
 Nat.lor (Nat.lor (Nat.lor (bif tb A 2 then Nat.lor (Nat.land (Nat.shiftRight B 2) 12) (Nat.land (Nat.shiftRight B 4) 240)else 0) (bif tb A 3 then Nat.lor (Nat.land (Nat.shiftRight B 4) 12) (Nat.land (Nat.shiftRight B 8) 240)else 0))
  (Nat.lor (bif tb A 4 then Nat.land (Nat.shiftRight B 6) 12 else 0) (bif tb A 5 then Nat.land (Nat.shiftRight B 8) 12 else 0))) (Nat.lor (bif tb A 6 then Nat.land (Nat.shiftRight B 10) 12 else 0) (bif tb A 7 then Nat.land (Nat.shiftRight B 12) 12 else 0))
noncomputable def qf (C:Nat):Nat->Nat->Nat->Nat
 |0,_,_=>2
 |k+1,T,N=>bif Nat.beq (Nat.land N C) 0 then(bif Nat.beq (Nat.lor T N) T then 1 else qf C k (Nat.lor T N) (Nat.lor (cS (Nat.lor T N) C) (cS C (Nat.lor T N))))else 0
noncomputable def kJ (C:Nat):Nat:=Nat.lor (Nat.lor (Nat.land C 42396) (Nat.lor (Nat.shiftLeft (Nat.land C 32) 1) (Nat.shiftRight (Nat.land C 64) 1))) (Nat.lor (Nat.lor (Nat.shiftLeft (Nat.land C 2560) 3) 0) (Nat.shiftRight (Nat.land C 20480) 3))
noncomputable def b1 (C k:Nat):Nat:=Nat.land (Nat.shiftRight C k) 1
def tX (C:Nat):Nat:=b1 C 2+(b1 C 4+(b1 C 8))
def tY (C:Nat):Nat:=b1 C 2*2+(b1 C 3+(b1 C 4+(b1 C 5+(b1 C 6+(b1 C 9+(b1 C 10+(b1 C 12)))))))
def tZ (C:Nat):Nat:=b1 C 2+(b1 C 3*2+(b1 C 5+(b1 C 6+(b1 C 7+(b1 C 11+(b1 C 13+(b1 C 14)))))))
def t7 (C:Nat):Nat:=b1 C 3+(b1 C 7+(b1 C 15))
noncomputable def qo (C:Nat):Nat:=Nat.lor (Nat.lor 2 (Nat.lor (bif Nat.beq (Nat.land C 3888) 0 then 0 else 4) (bif Nat.beq (Nat.land C 61632) 0 then 0 else 8))) (Nat.lor (Nat.lor (bif Nat.beq (Nat.land C 768) 0 then 0 else 16) (bif Nat.beq (Nat.land C 3072) 0 then 0 else 32)) (Nat.lor (bif Nat.beq (Nat.land C 12288) 0 then 0 else 64) (bif Nat.beq (Nat.land C 49152) 0 then 0 else 128)))
noncomputable def Et (P:Nat):Nat:=Nat.lor (Nat.lor (Nat.lor (Nat.shiftLeft (Nat.land P 2) 1) (Nat.shiftLeft (Nat.land P 4) 2)) (Nat.lor (Nat.shiftLeft (Nat.land P 8) 3) (Nat.shiftLeft (Nat.land P 16) 4))) (Nat.lor (Nat.lor (Nat.shiftLeft (Nat.land P 32) 5) (Nat.shiftLeft (Nat.land P 64) 6)) (Nat.shiftLeft (Nat.land P 128) 7))
noncomputable def N5 (F C Q:Nat):Nat:=Nat.lor (Nat.land Q F) (bif Nat.beq (Nat.land Q C) 0 then 0 else 2)
def je (F C P:Nat)(s:Bool):Nat:=N5 F C (bif s then Nat.shiftLeft (Et P) 1 else Et P)
noncomputable def xC (F C:Nat):Nat->Nat->Nat->Nat
 |0,_,P=>P
 |k+1,U,P=>bif Nat.beq P 0 then 0 else xC F C k (Nat.shiftRight U 1) (je F C P (tb U 0))
noncomputable def Fj (F C:Nat):Nat->aN->aN->Bool
 |0,_,_=>false
 |_,[],_=>true
 |k+1,P::r,seen=>bif Nat.beq P 0 then false else bif seen.any (Nat.beq P)then Fj F C k r seen else Fj F C k (je F C P false::je F C P true::r) (P::seen)
noncomputable def uM:Nat:=47994164178941071012688
def Ag (C:Nat):Bool:=
 bif Nat.beq (qf C 7 0 (cS C C)) (qf (kJ C) 7 0 (cS (kJ C) (kJ C)))then
  bif Nat.beq (qf C 7 0 (cS C C)) 1 then
   bif Nat.beq (tX C) 1&&Nat.beq (tY C) 3&&Nat.beq (tZ C) 3&&Nat.beq (t7 C) 1 then Fj (qo C) C 99 [qo C] []
   else Nat.ble (tX C) 1&&Nat.ble (tY C) 3&&Nat.ble (tZ C) 3&&Nat.ble (t7 C) 1&&Nat.beq (xC (qo C) C 76 uM (qo C)) 0
  else bif Nat.ble 1 (tX C)&&Nat.ble 3 (tY C)&&Nat.ble 3 (tZ C)&&Nat.ble 1 (t7 C)&&Nat.ble 9 (tX C+tY C+tZ C+t7 C)then true else Nat.beq (xC (qo C) C 76 uM (qo C)) 0
 else false
noncomputable def Lc:aN:=[12]
noncomputable def Ld:aN:=[12,56,88,164,196]
noncomputable def Le:aN:=[12,56,88,164,176,196,208,240,808,840,3096,3204,4392,4424,8728,8836,12312,12420,17432,17540,34852,34884,49188,49220]
noncomputable def Lf:aN:=[12,56,88,164,176,196,208,240,808,840,928,960,992,1320,1352,2584,2692,3096,3204,3216,3248,3280,3848,4392,4424,4512,4544,4576,6168,6276,7432,8728,8836,8848,8880,8912,8968,9240,9348,12312,12420,12432,12464,12496,12552,13064,17432,17540,17552,17584,17616,18184,20504,20612,21768,34852,34864,34884,34896,34928,35844,40996,41028,43524,47108,49188,49200,49220,49232,49264,50180,52228,57860,61444]
noncomputable def Lg:aN:=[12,56,88,164,176,196,208,240,808,840,928,960,992,1320,1352,1440,1472,1504,2584,2692,2704,2736,2768,2824,3096,3204,3216,3248,3280,3336,3848,3968,4000,4032,4392,4424,4512,4544,4576,6168,6276,6288,6320,6352,6408,6920,7432,7552,7584,7616,8728,8836,8848,8880,8912,8968,9088,9120,9152,9240,9348,9360,9392,9424,9480,9992,11920,12312,12420,12432,12464,12496,12552,12672,12704,12736,12944,13064,13184,13216,13248,13576,15504,16920,17028,17432,17540,17552,17584,17616,17672,18184,18304,18336,18368,19600,20504,20612,20624,20656,20688,20744,21256,21768,21888,21920,21952,26256,29840,34852,34864,34884,34896,34928,35332,35616,35648,35680,35844,35856,35888,35920,38916,39200,39232,39264,40996,41008,41028,41040,41072,41476,41988,43524,43536,43568,43600,44036,45060,47108,47120,47152,47184,49188,49200,49220,49232,49264,49952,49984,50016,50180,50192,50224,50256,51716,52228,52240,52272,52304,53252,53536,53568,53600,55300,57860,57872,57904,57936,58372,61444,61456,61488,61520]
noncomputable def Dt:aN:=[12,56,88,164,176,196,208,240,808,840,928,960,992,1320,1352,1440,1472,1504,2584,2692,2704,2736,2768,2824,2944,2976,3008,3096,3204,3216,3248,3280,3336,3456,3488,3520,3728,3848,3968,4000,4032,4392,4424,4512,4544,4576,6168,6276,6288,6320,6352,6408,6528,6560,6592,6800,6920,7040,7072,7104,7312,7432,7552,7584,7616,8728,8836,8848,8880,8912,8968,9088,9120,9152,9240,9348,9360,9392,9424,9480,9600,9632,9664,9872,9992,10112,10144,10176,10896,11408,11920,12160,12312,12420,12432,12464,12496,12552,12672,12704,12736,12944,13064,13184,13216,13248,13456,13576,13696,13728,13760,14480,14992,15504,15744,16256,16920,17028,17040,17072,17104,17160,17432,17540,17552,17584,17616,17672,17792,17824,17856,18184,18304,18336,18368,19600,20112,20352,20504,20612,20624,20656,20688,20744,20864,20896,20928,21256,21376,21408,21440,21648,21768,21888,21920,21952,22672,23696,23936,25744,26256,26496,28816,29328,29840,30080,30592,34852,34864,34884,34896,34928,35332,35344,35376,35408,35616,35648,35680,35844,35856,35888,35920,36128,36160,36192,36608,36640,36672,38916,38928,38960,38992,39200,39232,39264,40192,40224,40256,40996,41008,41028,41040,41072,41476,41488,41520,41552,41760,41792,41824,41988,42000,42032,42064,43524,43536,43568,43600,43776,43808,43840,44036,44048,44080,44112,44560,45060,45072,45104,45136,45344,45376,45408,47108,47120,47152,47184,47360,47392,47424,47632,47872,47904,47936,48144,49188,49200,49220,49232,49264,49668,49952,49984,50016,50180,50192,50224,50256,50464,50496,50528,50944,50976,51008,51716,51728,51760,51792,52228,52240,52272,52304,52992,53024,53056,53252,53264,53296,53328,53536,53568,53600,54528,54560,54592,55300,55312,55344,55376,56576,56608,56640,57860,57872,57904,57936,58112,58144,58176,58372,58384,58416,58448,58896,60944,61444,61456,61488,61520,61696,61728,61760,61968,62208,62240,62272,62480,64528]
noncomputable def EM (C:Nat):aN:=C::[2,3,4,5,6,7,8,9,10,11,12,13,14,15].map fun k=>Nat.xor C (Nat.shiftLeft 1 k)
theorem Fu:(Dt.all fun C=>(EM C).all Ag)=true:=by decide +kernel
noncomputable def fI (k:Nat):Nat:=Nat.shiftLeft 1 k
def Jo (C k:Nat):Nat:=bif tb C k then Nat.xor C (fI k)else C
def H0 (k:Nat):Nat:=bif Nat.ble 8 k then Nat.lor 8 (Nat.lor (Nat.land (Nat.shiftLeft k 1) 6) (b1 k 2))else bif Nat.ble 4 k then Nat.lor 4 (Nat.lor (Nat.land (Nat.shiftLeft k 1) 2) (b1 k 1))else k
noncomputable def HL (k:Nat):List aN:=bif Nat.ble 8 k then[]else bif Nat.ble 4 k then[[2*k,2*k+1],[k+4,k+8]]else[[2*k,2*k+1],[k+2,k+4]]
def xt (C:Nat)(l:aN):Nat:=l.foldl (fun C k=>Nat.lor C (fI k)) C
def kN (C:Nat):aN:=[2,3,4,5,6,7,8,9,10,11,12,13,14,15].flatMap fun k=>bif tb C k then([H0 k]::HL k).map fun l=>xt (Jo C k) l else[]
def HH (l:aN):Nat:=l.foldl (fun b C=>Nat.lor b (fI C)) 0
def HN (B C:Nat):Bool:=tb B C
theorem Ng:(Lc.all fun C=>(kN C).all (HN (HH Ld)))=true:=by decide +kernel
theorem Nh:(Ld.all fun C=>(kN C).all (HN (HH Le)))=true:=by decide +kernel
theorem Ni:(Le.all fun C=>(kN C).all (HN (HH Lf)))=true:=by decide +kernel
theorem Nj:(Lf.all fun C=>(kN C).all (HN (HH Lg)))=true:=by decide +kernel
theorem Nl:(Lg.all fun C=>(kN C).all (HN (HH Dt)))=true:=by decide +kernel
noncomputable def cd (x:aB):Nat:=x.foldl (fun n b=>2*n+(bif b then 1 else 0)) 1
theorem fj (m k:Nat):tb m k=m.testBit k:=by unfold tb;rw[Nat.testBit_eq_decide_div_mod_eq,Bool.eq_iff_iff,decide_eq_true_iff];show(Nat.beq (m >>> k &&& 1) 1=true)↔_;rw[Nat.beq_eq,Nat.and_one_is_mod,Nat.shiftRight_eq_div_pow]
theorem tN (h:∀j,tb a j=tb b j):a=b:=Nat.eq_of_testBit_eq fun j=>by rw[<- fj,<- fj];exact h j
theorem iO (k j:Nat):tb (fI k) j=decide (k=j):=by rw[fj];show(1 <<< k).testBit j=_;rw[Nat.one_shiftLeft,Nat.testBit_two_pow]
theorem eZ (a b j:Nat):tb (Nat.lor a b) j=(tb a j || tb b j):=by rw[fj,fj,fj];exact Nat.testBit_or a b j
theorem fG (a b j:Nat):tb (Nat.land a b) j=(tb a j&&tb b j):=by rw[fj,fj,fj];exact Nat.testBit_and a b j
theorem EE (a b j:Nat):tb (Nat.xor a b) j=(tb a j ^^ tb b j):=by rw[fj,fj,fj];exact Nat.testBit_xor a b j
theorem kO:∀{l:aN}{C:Nat},tb (xt C l) j=(tb C j || l.contains j)
 |[],C=>by show tb C j=(tb C j || false);rw[Bool.or_false]
 |k::l,C=>by show tb (xt (Nat.lor C (fI k)) l) j=_;rw[kO,eZ,iO,List.contains_cons,Bool.or_assoc,show(j==k)=decide (k=j) by rw[Bool.eq_iff_iff,beq_iff_eq,decide_eq_true_iff];exact eq_comm]
theorem bN (j:Nat):tb 0 j=false:=by rw[fj];exact Nat.zero_testBit j
def bc (ws:List aB):Nat:=xt 0 (ws.map cd)
theorem tb_mk:tb (bc ws) j=true↔∃x∈ws,cd x=j:=by unfold bc;rw[kO,bN,Bool.false_or,List.contains_iff_mem,List.mem_map]
theorem B4:(Ii.all fun x=>Ii.all fun y=>!(cd x==cd y) || x==y)=true:=by decide +kernel
theorem jc (hx:x.length<=3)(hy:y.length<=3)(h:cd x=cd y):x=y:=by have:=br (br B4 x (nq hx)) y (nq hy);rw[h,beq_self_eq_true]at this;exact eM this
theorem c8 (hb:∀x∈ws,x.length<=3)(hx:x.length<=3):tb (bc ws) (cd x)=true↔x∈ws:=by rw[tb_mk];exact⟨fun⟨y,my,e⟩=>jc (hb y my) hx e▸my,fun m=>⟨x,m,rfl⟩⟩
theorem Af:(Ii.all fun x=>x==[] || [2,3,4,5,6,7,8,9,10,11,12,13,14,15].contains (cd x))=true:=by decide +kernel
theorem yA (h:1<=x.length/\x.length<=3):cd x∈[2,3,4,5,6,7,8,9,10,11,12,13,14,15]:=by
 have:=br Af x (nq h.2);rcases Bool.or_eq_true_iff.mp this with q|q
 .rw[eM q]at h;exact absurd h.1 (by decide)
 .exact List.contains_iff_mem.mp q
theorem J3:(Ii.all fun x=>x==[] || H0 (cd x)==cd (xA x))=true:=by decide +kernel
theorem IR:(Ii.all fun x=>x==[] || !(Nat.blt x.length 3) || HL (cd x)==[[cd (x++[false]),cd (x++[true])],[cd (false::x),cd (true::x)]])=true:=by decide +kernel
theorem GB (ho:o∈ws)(hb:∀x∈ws,x.length<=3):bc ((ws.filter fun x=>!(x==o)&&!decide (x∈fs))++fs)=xt (Jo (bc ws) (cd o)) (fs.map cd):=by
 refine tN fun j=>?_;have h1:tb (bc ws) (cd o)=true:=tb_mk.mpr ⟨o,ho,rfl⟩;unfold Jo;rw[h1,cond_true,kO,EE,iO,Bool.eq_iff_iff,tb_mk,Bool.or_eq_true,List.contains_iff_mem,List.mem_map];constructor
 .rintro ⟨x,m,rfl⟩
  rcases cy m with m|m
  .obtain⟨mx,q⟩:=List.mem_filter.mp m;obtain⟨q1,_⟩:=cE q;refine .inl ?_;rw[tb_mk.mpr ⟨x,mx,rfl⟩,cG fun e=>?_]
   .rfl
   .rw[jc (hb o ho) (hb x mx) e,beq_self_eq_true]at q1;exact g6 q1
  .exact .inr ⟨x,m,rfl⟩
 .rintro (q|⟨x,m,rfl⟩)
  .by_cases e:cd o=j
   .rw[dg e,<- e,h1]at q;exact absurd q g6
   .rw[cG e,Bool.xor_false]at q;obtain⟨x,mx,rfl⟩:=tb_mk.mp q;by_cases c:x∈fs
    .exact⟨x,hJ _ c,rfl⟩
    .refine⟨x,ij _ (List.mem_filter.mpr ⟨mx, ?_⟩),rfl⟩;rw[cG c,beq_eq_false_iff_ne.mpr fun z=>e (congrArg cd z).symm];rfl
  .exact⟨x,hJ _ m,rfl⟩
theorem Bq (W:ue N ws)(n:Nat):bc (fg ws n)∈kN (bc ws):=by
 have ho:=pU W.ne n;have hz:=W.sz _ ho;generalize hx:kE ws n=x at ho hz;unfold fg;rw[hx,GB ho fun z m=>(W.sz z m).2];refine List.mem_flatMap.mpr ⟨cd x,yA hz, ?_⟩;rw[tb_mk.mpr ⟨x,ho,rfl⟩,cond_true];have hxe:(x==[])=false:=beq_eq_false_iff_ne.mpr fun e=>by rw[e]at hz;exact absurd hz.1 (by decide)
 refine List.mem_map.mpr ⟨(eT ws n x).map cd, ?_,rfl⟩;unfold eT;by_cases c:n % 3<2/\x.length<3/\ws.length<6
 .rw[if_pos c];have g:=br IR x (nq hz.2);rw[hxe,show Nat.blt x.length 3=true from Nat.ble_eq.mpr c.2.1]at g;have g:=eM g;rw[g];by_cases d:n % 3=0
  .rw[if_pos d];exact .tail _ (.head _)
  .rw[if_neg d];exact .tail _ (.tail _ (.head _))
 .rw[if_neg c];have g:=br J3 x (nq hz.2);rw[hxe]at g;have g:=eM g;rw[g];exact .head _
theorem LZ:∀{l:aN}{b:Nat},tb (l.foldl (fun b C=>Nat.lor b (fI C)) b) j=(tb b j || l.contains j):=fun{l b}=>kO (l:=l) (C:=b)
theorem K7 (h:HN (HH l) C=true):C∈l:=by unfold HN HH at h;rw[LZ,bN,Bool.false_or]at h;exact List.contains_iff_mem.mp h
theorem ly {a b:aN}(W:ue N ws)(n:Nat)(h:(a.all fun C=>(kN C).all (HN (HH b)))=true)(m:bc ws∈a):bc (fg ws n)∈b:=
 K7 (br (br h _ m) _ (Bq W n))
theorem ET:ue 2 [[false],[true]]:=⟨List.cons_ne_nil _ _,fc _,fun x m=>by
 rcases bA m with rfl|m
 .exact⟨fc _,by decide⟩
 .rw[aS m];exact⟨fc _,by decide⟩⟩
theorem sX {a b c d e:Nat}:bc ([a,b,c,d,e].foldl fg [[false],[true]])∈Dt/\ue 12 ([a,b,c,d,e].foldl fg [[false],[true]]):=by
 have W1:=jU ET a;have W2:=jU W1 b;have W3:=jU W2 c;have W4:=jU W3 d;have m0:bc [[false],[true]]∈Lc:=by
  have:bc [[false],[true]]=12:=by decide +kernel
  rw[this];exact .head _
 exact⟨ly W4 e Nl (ly W3 d Nj (ly W2 c Ni (ly W1 b Nh (ly ET a Ng m0)))),jU W4 e⟩
theorem pM (hb:∀x∈ws,x.length<=3)(hs:s.length<=3):bc (kM ws s)∈EM (bc ws):=by
 unfold kM;by_cases c:s=[]
 .rw[if_pos c];exact .head _
 rw[if_neg c];have h1:1<=s.length:=List.length_pos_iff.mpr c;have key:∀l,(∀j,tb (bc l) j=(tb (bc ws) j ^^ decide (cd s=j)))->bc l∈EM (bc ws):=fun l h=>by refine .tail _ (List.mem_map.mpr ⟨cd s,yA ⟨h1,hs⟩, ?_⟩);refine tN fun j=>?_;show tb (Nat.xor (bc ws) (fI (cd s))) j=_;rw[EE,iO,h j]
 by_cases d:s∈ws
 .rw[if_pos d];refine key _ fun j=>?_;rw[Bool.eq_iff_iff,tb_mk];constructor
  .rintro ⟨x,m,rfl⟩
   obtain⟨mx,q⟩:=List.mem_filter.mp m;rw[tb_mk.mpr ⟨x,mx,rfl⟩,cG fun e=>?_]
   .rfl
   .rw[jc hs (hb x mx) e,beq_self_eq_true]at q;exact g6 q
  .intro q;by_cases e:cd s=j
   .rw[dg e,<- e,tb_mk.mpr ⟨s,d,rfl⟩]at q;exact absurd q g6
   .rw[cG e,Bool.xor_false]at q;obtain⟨x,mx,rfl⟩:=tb_mk.mp q;exact⟨x,List.mem_filter.mpr ⟨mx,by rw[beq_eq_false_iff_ne.mpr fun z=>e (congrArg cd z).symm];rfl⟩,rfl⟩
 .rw[if_neg d];refine key _ fun j=>?_;have hf:tb (bc ws) (cd s)=false:=Bool.eq_false_iff.mpr fun q=>d ((c8 hb hs).mp q);rw[Bool.eq_iff_iff,tb_mk];constructor
  .rintro ⟨x,m,rfl⟩
   rcases cy m with m|m
   .rw[tb_mk.mpr ⟨x,m,rfl⟩,cG fun e=>d (jc hs (hb x m) e▸m)];rfl
   .rw[aS m,hf,dg rfl];rfl
  .intro q;by_cases e:cd s=j
   .exact⟨s,hJ _ (.head _),e⟩
   .rw[cG e,Bool.xor_false]at q;obtain⟨x,mx,rfl⟩:=tb_mk.mp q;exact⟨x,ij _ mx,rfl⟩
theorem rT (hs:s.length<=3):Ag (bc (eu [a,b,c,d,e] s))=true:=by obtain⟨m,W⟩:=sX (a:=a) (b:=b) (c:=c) (d:=d) (e:=e);exact br (br Fu _ m) _ (pM (fun x mx=>(W.sz x mx).2) hs)
theorem Hn:(Dt.all fun C=>(EM C).all fun C=>Nat.ble (qf C 7 0 (cS C C)) 1)=true:=by decide +kernel
theorem jB (a i j:Nat):tb (Nat.shiftRight a i) j=tb a (i+j):=by rw[fj,fj];exact Nat.testBit_shiftRight a
theorem tM (c:Bool)(a j:Nat):tb (bif c then a else 0) j=(c&&tb a j):=by
 cases c
 .exact bN j
 .rfl
theorem qi (a i j:Nat):tb (Nat.shiftLeft a i) j=(decide (i<=j)&&tb a (j-i)):=by rw[fj,fj];have:=Nat.testBit_shiftLeft (i:=i) (j:=j) a;exact this
theorem oM (k:Nat):tb (fI k) k=true:=by rw[iO];exact dg rfl
noncomputable def j9:List aB:=[[false],[true],[false,false],[false,true],[true,false],[true,true],[false,false,false],[false,false,true],[false,true,false],[false,true,true],[true,false,false],[true,false,true],[true,true,false],[true,true,true]]
theorem vq (h:1<=x.length/\x.length<=3):x∈j9:=by
 have m:=nq h.2;rcases bA (show x∈[]::j9 from m)with rfl|m
 .exact absurd h.1 (by decide)
 .exact m
def Fs (a b:Nat):Prop:=∀j,tb a j=true->tb b j=true
theorem Fs.bit (h:tb C k=true):Fs (fI k) C:=fun j q=>by rw[iO,decide_eq_true_iff]at q;exact q▸h
structure Li (f:Nat->Nat):Prop where
 mono:∀{a b:Nat},Fs a b->Fs (f a) (f b)
 lin:∀{C j:Nat},tb (f C) j=true->∃k,k<16/\tb C k=true/\tb (f (fI k)) j=true
theorem Li.zero:Li fun _=>0:=⟨fun _ _ q=>q,fun q=>absurd q (by rw[bN];exact g6)⟩
theorem Li.lor (hf:Li f)(hg:Li g):Li fun C=>Nat.lor (f C) (g C) where
 mono:=fun{a b} s j q=>by have q:tb (Nat.lor (f a) (g a)) j=true:=q;show tb (Nat.lor (f b) (g b)) j=true;rw[eZ,Bool.or_eq_true]at q ⊢;exact q.imp (hf.mono s j) (hg.mono s j)
 lin:=fun{C j} q=>by
  have q:tb (Nat.lor (f C) (g C)) j=true:=q;rw[eZ,Bool.or_eq_true]at q;rcases q with q|q
  .obtain⟨k,l,a,b⟩:=hf.lin q;exact⟨k,l,a,(eZ _ _ _).trans (Bool.or_eq_true_iff.mpr (.inl b))⟩
  .obtain⟨k,l,a,b⟩:=hg.lin q;exact⟨k,l,a,(eZ _ _ _).trans (Bool.or_eq_true_iff.mpr (.inr b))⟩
theorem Li.cond (c:Bool)(hf:Li f):Li fun C=>bif c then f C else 0:=by
 cases c
 .exact Li.zero
 .exact hf
theorem Li.look (i X:Nat)(h:Nat.ble 16 i=false):Li fun A=>bif tb A i then X else 0 where
 mono:=fun{a b} s j q=>by have q:tb (bif tb a i then X else 0) j=true:=q;rw[tM,eO]at q;exact(tM _ _ _).trans (jX ⟨s i q.1,q.2⟩)
 lin:=fun{C j} q=>by have q:tb (bif tb C i then X else 0) j=true:=q;rw[tM,eO]at q;exact⟨i,Nat.lt_of_not_le fun l=>Bool.noConfusion (h.symm.trans (Nat.ble_eq.mpr l)),q.1,(tM _ _ _).trans (jX ⟨oM i,q.2⟩)⟩
theorem Li.bits (n m:Nat)(h:Nat.ble 65536 (Nat.shiftLeft m n)=false):Li fun C=>Nat.land (Nat.shiftRight C n) m where
 mono:=fun{a b} s j q=>by have q:tb (Nat.land (Nat.shiftRight a n) m) j=true:=q;rw[fG,jB,eO]at q;exact(fG _ _ _).trans (jX ⟨(jB _ _ _).trans (s _ q.1),q.2⟩)
 lin:=fun{C j} q=>by
  have q:tb (Nat.land (Nat.shiftRight C n) m) j=true:=q;rw[fG,jB,eO]at q;refine⟨n+j,Nat.lt_of_not_le fun l=>?_,q.1,(fG _ _ _).trans (jX ⟨(jB _ _ _).trans (oM _),q.2⟩)⟩;have t:tb (Nat.shiftLeft m n) (n+j)=true:=by rw[qi,Nat.add_sub_cancel_left,q.2,dg (nr n j)];rfl
  rw[fj]at t;exact Bool.noConfusion (h.symm.trans (Nat.ble_eq.mpr (aJ (Nat.pow_le_pow_right (n:=2) (by decide) l) (Nat.ge_two_pow_of_testBit t))))
theorem Li.shl (n:Nat)(hf:Li f):Li fun C=>Nat.shiftLeft (f C) n where
 mono:=fun{a b} s j q=>by have q:tb (Nat.shiftLeft (f a) n) j=true:=q;rw[qi,eO]at q;exact(qi _ _ _).trans (jX ⟨q.1,hf.mono s _ q.2⟩)
 lin:=fun{C j} q=>by have q:tb (Nat.shiftLeft (f C) n) j=true:=q;rw[qi,eO]at q;obtain⟨k,l,a,b⟩:=hf.lin q.2;exact⟨k,l,a,(qi _ _ _).trans (jX ⟨q.1,b⟩)⟩
theorem Li.shr (n:Nat)(hf:Li f):Li fun C=>Nat.shiftRight (f C) n where
 mono:=fun{a b} s j q=>(jB _ _ _).trans (hf.mono s _ ((jB _ _ _).symm.trans q))
 lin:=fun{C j} q=>by obtain⟨k,l,a,b⟩:=hf.lin ((jB _ _ _).symm.trans q);exact⟨k,l,a,(jB _ _ _).trans b⟩
theorem ze (B:Nat):Li fun A=>cS A B:=(((Li.look 2 _ rfl).lor (Li.look 3 _ rfl)).lor ((Li.look 4 _ rfl).lor (Li.look 5 _ rfl))).lor ((Li.look 6 _ rfl).lor (Li.look 7 _ rfl))
theorem zf (A:Nat):Li fun B=>cS A B:=(((Li.cond _ ((Li.bits 2 12 rfl).lor (Li.bits 4 240 rfl))).lor (Li.cond _ ((Li.bits 4 12 rfl).lor (Li.bits 8 240 rfl)))).lor ((Li.cond _ (Li.bits 6 12 rfl)).lor (Li.cond _ (Li.bits 8 12 rfl)))).lor ((Li.cond _ (Li.bits 10 12 rfl)).lor (Li.cond _ (Li.bits 12 12 rfl)))
theorem Hl:(j9.all fun s=>j9.all fun t=>Nat.ble 4 (s++t).length || tb (cS (fI (cd s)) (fI (cd (s++t)))) (cd t))=true:=by decide +kernel
theorem EL:((List.range 16).all fun a=>(List.range 16).all fun b=>Nat.beq (cS (fI a) (fI b)) 0 || j9.any fun s=>j9.any fun t=>Nat.ble (s++t).length 3&&(Nat.beq (cd s) a&&(Nat.beq (cd (s++t)) b&&Nat.beq (cS (fI a) (fI b)) (fI (cd t)))))=true:=by decide +kernel
theorem Ln (h:x∈j9):x≠[]:=fun e=>absurd (e▸h) (by decide +kernel)
theorem LV:(j9.all fun x=>Nat.ble x.length 3)=true:=by decide +kernel
theorem LU (h:x∈j9):x.length<=3:=Nat.le_of_ble_eq_true (br LV x h)
theorem zb {s t:aB}(h:(s++t).length<=n):s.length<=n:=aJ (dR▸nr _ _) h
theorem pG {s t:aB}(h:(s++t).length<=n):t.length<=n:=aJ (dR▸Nat.le_add_left _ _) h
theorem xU {s t:aB}(hs:s≠[])(ht:t≠[])(hl:(s++t).length<=3)(h1:tb A (cd s)=true)(h2:tb B (cd (s++t))=true):tb (cS A B) (cd t)=true:=by have c:=br (br Hl s (vq ⟨List.length_pos_iff.mpr hs,zb hl⟩)) t (vq ⟨List.length_pos_iff.mpr ht,pG hl⟩);refine(zf A).mono (.bit h2) _ ((ze _).mono (.bit h1) _ ((Bool.or_eq_true_iff.mp c).elim (fun q=>?_) id));exact absurd (aJ (Nat.le_of_ble_eq_true q) hl) (by decide)
theorem lU (h:tb (cS A B) j=true):∃s t,s≠[]/\t≠[]/\(s++t).length<=3/\cd t=j/\tb A (cd s)=true/\tb B (cd (s++t))=true:=by
 obtain⟨a,la,ha,h⟩:=(ze B).lin h;obtain⟨b,lb,hb,h⟩:=(zf _).lin h;rcases Bool.or_eq_true_iff.mp (br (br EL a (List.mem_range.mpr la)) b (List.mem_range.mpr lb))with z|z
 .rw[tV z,bN]at h;exact absurd h g6
 .obtain⟨s,ms,z⟩:=List.any_eq_true.mp z;obtain⟨t,mt,z⟩:=List.any_eq_true.mp z;obtain⟨z1,z⟩:=cE z;obtain⟨z2,z⟩:=cE z;obtain⟨z3,z⟩:=cE z;obtain rfl:=tV z2;obtain rfl:=tV z3;rw[tV z,iO]at h;exact⟨s,t,Ln ms,Ln mt,Nat.le_of_ble_eq_true z1,bJ h,ha,hb⟩
theorem tU (h:∀j,tb a j=false):a=0:=tN fun j=>by rw[h j,bN]
def Sb (m:Nat)(X:aB->Prop):Prop:=∀j,tb m j=true->∃t,cd t=j/\t.length<=3/\X t
theorem Sb.lor (h:Sb a X)(k:Sb b X):Sb (Nat.lor a b) X:=fun j q=>by rw[eZ,Bool.or_eq_true]at q;exact q.elim (h j) (k j)
theorem Sb.at (h:Sb m X)(ht:t.length<=3)(q:tb m (cd t)=true):X t:=by obtain⟨u,e,l,x⟩:=h _ q;rw[<- jc l ht e];exact x
section
variable {ws:List aB}(hb:∀x∈ws,x.length<=3)
include hb
theorem Eo (K:Hx false ws L):∀{k T N:Nat},Sb T (· ∈ L)->Sb N (· ∈ L)->qf (bc ws) k T N≠0
 |0,_,_,_,_=>by show 2≠0;decide
 |k+1,T,N,hT,hN=>by
  have z:Nat.land N (bc ws)=0:=tU fun j=>Bool.eq_false_iff.mpr fun q=>by rw[fG,eO]at q;obtain⟨t,e,l,m⟩:=hN j q.1;rw[<- e]at q;exact K.out t m ((c8 hb l).mp q.2)
  have hTN:=hT.lor hN;show(bif Nat.beq (Nat.land N (bc ws)) 0 then(bif Nat.beq (Nat.lor T N) T then 1 else qf (bc ws) k (Nat.lor T N) (Nat.lor (cS (Nat.lor T N) (bc ws)) (cS (bc ws) (Nat.lor T N))))else 0)≠0;rw[z];show(bif Nat.beq (Nat.lor T N) T then 1 else qf (bc ws) k (Nat.lor T N) (Nat.lor (cS (Nat.lor T N) (bc ws)) (cS (bc ws) (Nat.lor T N))))≠0;cases Nat.beq (Nat.lor T N) T with
  |true=>show 1≠0;decide
  |false =>
   refine Eo K hTN (Sb.lor (fun j q=>?_) fun j q=>?_)
   .obtain⟨s,t,_,_,l,e,a,b⟩:=lU q;have ls:=zb l;have lt:=pG l;exact⟨t,e,lt,K.left s (s++t) t (hTN.at ls a) ((c8 hb l).mp b) rfl⟩
   .obtain⟨s,t,_,_,l,e,a,b⟩:=lU q;have ls:=zb l;have lt:=pG l;exact⟨t,e,lt,K.right (s++t) s t (hTN.at l b) ((c8 hb ls).mp a) rfl⟩
theorem G7 (K:Hx false ws L):qf (bc ws) 7 0 (cS (bc ws) (bc ws))≠0:=by refine Eo hb K (fun j q=>absurd (bN j) (by rw[q];exact fun e=>Bool.noConfusion e)) fun j q=>?_;obtain⟨s,t,_,ht,l,e,a,b⟩:=lU q;have ls:=zb l;have lt:=pG l;exact⟨t,e,lt,K.base s (s++t) t ((c8 hb ls).mp a) ((c8 hb l).mp b) (fun z=>ht (List.self_eq_append_right.mp z)) rfl⟩
end
structure H9 (C T:Nat):Prop where
 out:∀j,tb T j=true->tb C j=false
 base:∀j,tb (cS C C) j=true->tb T j=true
 left:∀j,tb (cS T C) j=true->tb T j=true
 right:∀j,tb (cS C T) j=true->tb T j=true
theorem Ep:∀{k T N:Nat},(∀j,tb T j=true->tb C j=false)->(∀j,tb (cS C C) j=true->tb (Nat.lor T N) j=true)->(∀j,tb (cS T C) j=true->tb (Nat.lor T N) j=true)->(∀j,tb (cS C T) j=true->tb (Nat.lor T N) j=true)->qf C k T N=1->∃T,H9 C T
 |0,_,_,_,_,_,_,h=>by have h:2=1:=h;exact absurd h (by decide)
 |k+1,T,N,h1,h2,h3,h4,h=>by
  have h:(bif Nat.beq (Nat.land N C) 0 then(bif Nat.beq (Nat.lor T N) T then 1 else qf C k (Nat.lor T N) (Nat.lor (cS (Nat.lor T N) C) (cS C (Nat.lor T N))))else 0)=1:=h;cases z:Nat.beq (Nat.land N C) 0 with
  |false=>rw[z]at h;have h:0=1:=h;exact absurd h (by decide)
  |true =>
   rw[z]at h;have h:(bif Nat.beq (Nat.lor T N) T then 1 else qf C k (Nat.lor T N) (Nat.lor (cS (Nat.lor T N) C) (cS C (Nat.lor T N))))=1:=h;have n1:∀j,tb (Nat.lor T N) j=true->tb C j=false:=fun j q=>by
    rw[eZ,Bool.or_eq_true]at q;rcases q with q|q
    .exact h1 j q
    .have e:Nat.land N C=0:=tV z;have:=fG N C j;rw[e,bN,q,Bool.true_and]at this;exact this.symm
   cases z2:Nat.beq (Nat.lor T N) T with
   |true =>
    have e:Nat.lor T N=T:=tV z2;rw[e]at h2 h3 h4;exact⟨T,h1,h2,h3,h4⟩
   |false =>
    rw[z2]at h;exact Ep (T:=Nat.lor T N) n1 (fun j q=>by rw[eZ,h2 j q];rfl) (fun j q=>by rw[eZ,eZ (cS _ _),q,Bool.true_or,Bool.or_true]) (fun j q=>by rw[eZ,eZ (cS _ _),q,Bool.or_true,Bool.or_true]) h
theorem Er (h:qf C 7 0 (cS C C)=1):∃T,H9 C T:=
 Ep (fun j q=>absurd (bN j) (by rw[q];exact fun e=>Bool.noConfusion e)) (fun j q=>by rw[eZ,q,Bool.or_true])
  (fun j q=>by obtain⟨s,t,_,_,_,_,a,_⟩:=lU q;rw[bN]at a;exact Bool.noConfusion a)
  (fun j q=>by obtain⟨s,t,_,_,_,_,_,a⟩:=lU q;rw[bN]at a;exact Bool.noConfusion a) h
theorem IE (hb:∀x∈ws,1<=x.length/\x.length<=3)(K:H9 (bc ws) T)(d:yf false ws t):t≠[]/\t.length<=3/\tb T (cd t)=true:=by
 have hb3:∀x∈ws,x.length<=3:=fun x m=>(hb x m).2;have hne:∀x∈ws,x≠[]:=fun x m e=>by have:=(hb x m).1;rw[e]at this;exact absurd this (by decide)
 induction d with
 |@base s w t hs hw hn h =>
  have h:s++t=w:=h;have ht:t≠[]:=fun e=>hn (by rw[<- h,e,List.append_nil]);subst h;have l:=hb3 _ hw;refine⟨ht,pG l,K.base _ (xU (hne s hs) ht l ((c8 hb3 (hb3 s hs)).mpr hs) ((c8 hb3 l).mpr hw))⟩
 |@left u w t hu hw h ih =>
  obtain⟨i1,i2,i3⟩:=ih;have h:u++t=w:=h;subst h;have l:=hb3 _ hw;have ht:t≠[]:=fun e=>by rw[e,List.append_nil]at hw;have:=K.out _ i3;rw[(c8 hb3 i2).mpr hw]at this;exact Bool.noConfusion this
  exact⟨ht,pG l,K.left _ (xU i1 ht l i3 ((c8 hb3 l).mpr hw))⟩
 |@right u w t hu hw h ih =>
  obtain⟨i1,i2,i3⟩:=ih;have h:w++t=u:=h;subst h;have ht:t≠[]:=fun e=>by rw[e,List.append_nil]at i2 i3;have:=K.out _ i3;rw[(c8 hb3 i2).mpr hw]at this;exact Bool.noConfusion this
  exact⟨ht,pG i2,K.right _ (xU (hne w hw) ht i2 ((c8 hb3 (hb3 w hw)).mpr hw) i3)⟩
theorem xn (hb:∀x∈ws,1<=x.length/\x.length<=3)(h:gn false ws b)(h2:qf (bc ws) 7 0 (cS (bc ws) (bc ws))<=1):qf (bc ws) 7 0 (cS (bc ws) (bc ws))=if b then 1 else 0:=by
 have hb3:∀x∈ws,x.length<=3:=fun x m=>(hb x m).2;cases b with
 |true =>
  obtain⟨L,K⟩:=(h:∃L,Hx false ws L);have:=G7 hb3 K;exact Nat.le_antisymm h2 (Nat.pos_of_ne_zero this)
 |false =>
  obtain⟨t,d,m⟩:=(h:∃t,yf false ws t/\t∈ws);rw[if_neg g6];by_cases q:qf (bc ws) 7 0 (cS (bc ws) (bc ws))=1
  .obtain⟨T,K⟩:=Er q;obtain⟨i1,i2,i3⟩:=IE hb K d;have:=K.out _ i3;rw[(c8 hb3 i2).mpr m]at this;exact Bool.noConfusion this
  .exact Nat.eq_zero_of_not_pos fun l=>q (Nat.le_antisymm h2 l)
end
section
noncomputable def GW (ws:List aB):List aB:=ws.map List.reverse
theorem mem_rvS:x.reverse∈GW ws↔x∈ws:=by unfold GW;rw[List.mem_map];exact⟨fun⟨y,m,e⟩=>List.reverse_inj.mp e▸m,fun m=>⟨x,m,rfl⟩⟩
theorem mem_rvS':x∈GW ws↔x.reverse∈ws:=by
 have:=mem_rvS (ws:=ws) (x:=x.reverse)
 rwa [List.reverse_reverse]at this
theorem tl_rv:Tl true s w t↔Tl false s.reverse w.reverse t.reverse:=by show t++s=w↔s.reverse++t.reverse=w.reverse;rw[<- List.reverse_append];exact⟨fun h=>by rw[h],fun h=>List.reverse_inj.mp h⟩
theorem IA (K:Hx true ws L):Hx false (GW ws) (GW L) where
 out:=fun t m q=>K.out _ (mem_rvS'.mp m) (mem_rvS'.mp q)
 base:=fun s w t a b n h=>mem_rvS'.mpr (K.base s.reverse w.reverse t.reverse (mem_rvS'.mp a) (mem_rvS'.mp b) (fun e=>n (List.reverse_inj.mp e)) (tl_rv.mpr (by rw[List.reverse_reverse,List.reverse_reverse,List.reverse_reverse];exact h)))
 left:=fun u w t a b h=>mem_rvS'.mpr (K.left u.reverse w.reverse t.reverse (mem_rvS'.mp a) (mem_rvS'.mp b) (tl_rv.mpr (by rw[List.reverse_reverse,List.reverse_reverse,List.reverse_reverse];exact h)))
 right:=fun u w t a b h=>mem_rvS'.mpr (K.right u.reverse w.reverse t.reverse (mem_rvS'.mp a) (mem_rvS'.mp b) (tl_rv.mpr (by rw[List.reverse_reverse,List.reverse_reverse,List.reverse_reverse];exact h)))
theorem IF (d:yf true ws t):yf false (GW ws) t.reverse:=by
 induction d with
 |base hs hw hn h=>exact .base (mem_rvS.mpr hs) (mem_rvS.mpr hw) (fun e=>hn (List.reverse_inj.mp e)) (tl_rv.mp h)
 |left hu hw h ih=>exact .left ih (mem_rvS.mpr hw) (tl_rv.mp h)
 |right hu hw h ih=>exact .right ih (mem_rvS.mpr hw) (tl_rv.mp h)
theorem Jm (h:gn true ws b):gn false (GW ws) b:=by
 cases b with
 |true =>
  obtain⟨L,K⟩:=(h:∃L,Hx true ws L);exact⟨_,IA K⟩
 |false =>
  obtain⟨t,d,m⟩:=(h:∃t,yf true ws t/\t∈ws);exact⟨_,IF d,mem_rvS.mpr m⟩
theorem li_rev:Li kJ:=((Li.bits 0 42396 rfl).lor ((Li.shl 1 (Li.bits 0 32 rfl)).lor (Li.shr 1 (Li.bits 0 64 rfl)))).lor (((Li.shl 3 (Li.bits 0 2560 rfl)).lor Li.zero).lor (Li.shr 3 (Li.bits 0 20480 rfl)))
theorem zC:(j9.all fun x=>Nat.beq (kJ (fI (cd x))) (fI (cd x.reverse)))=true:=by decide +kernel
theorem D4:((List.range 16).all fun k=>Nat.beq (kJ (fI k)) 0 || j9.any fun x=>Nat.beq (cd x) k)=true:=by decide +kernel
theorem Jt (h:1<=x.length/\x.length<=3)(q:tb C (cd x)=true):tb (kJ C) (cd x.reverse)=true:=
 li_rev.mono (.bit q) _ (by rw[tV (br zC x (vq h))];exact oM _)
theorem GR (h:tb (kJ C) j=true):∃x:aB,cd x.reverse=j/\x.length<=3/\tb C (cd x)=true:=by
 obtain⟨k,l,a,h⟩:=li_rev.lin h;rcases Bool.or_eq_true_iff.mp (br D4 k (List.mem_range.mpr l))with z|z
 .rw[tV z,bN]at h;exact absurd h g6
 .obtain⟨x,m,z⟩:=List.any_eq_true.mp z;obtain rfl:=tV z;rw[tV (br zC x m),iO]at h;exact⟨x,bJ h,LU m,a⟩
theorem Jf (hb:∀x∈ws,1<=x.length/\x.length<=3):bc (GW ws)=kJ (bc ws):=tN fun j=>by
 rw[Bool.eq_iff_iff,tb_mk];constructor
 .rintro ⟨x,m,rfl⟩
  have m':=mem_rvS'.mp m;have:=Jt (hb _ m') (tb_mk.mpr ⟨_,m',rfl⟩:tb (bc ws) (cd x.reverse)=true)
  rwa [List.reverse_reverse]at this
 .intro q;obtain⟨x,e,l,a⟩:=GR q;exact⟨x.reverse,mem_rvS.mpr ((c8 (fun z m=>(hb z m).2) l).mp a),e⟩
theorem Ad (hb:∀x∈ws,1<=x.length/\x.length<=3)(h:gn false ws b)(h':gn true ws c)(hk:Ag (bc ws)=true)(h2:qf (bc ws) 7 0 (cS (bc ws) (bc ws))<=1):b=c:=by
 have e1:=xn hb h h2;unfold Ag at hk;cases z:Nat.beq (qf (bc ws) 7 0 (cS (bc ws) (bc ws))) (qf (kJ (bc ws)) 7 0 (cS (kJ (bc ws)) (kJ (bc ws))))with
 |false=>rw[z]at hk;exact Bool.noConfusion hk
 |true =>
  have z:=tV z;rw[<- Jf hb]at z;have hb':∀x∈GW ws,1<=x.length/\x.length<=3:=fun x m=>by
   have:=hb _ (mem_rvS'.mp m)
   rwa [List.length_reverse]at this
  have e2:=xn hb' (Jm h') (by rw[<- z];exact h2);rw[<- z,e1]at e2;cases b <;> cases c <;> first|rfl|exact absurd e2 (by decide)
theorem CP (ws:List aB)(n:Nat)(x:aB):(eT ws n x).Nodup:=by
 unfold eT;have two:∀a b:aB,a≠b->[a,b].Nodup:=fun a b h=>List.nodup_cons.mpr ⟨fun m=>h (aS m),List.nodup_cons.mpr ⟨(fun q=>nomatch q),List.nodup_nil⟩⟩;by_cases c:n % 3<2/\x.length<3/\ws.length<6
 .rw[if_pos c];by_cases d:n % 3=0
  .rw[if_pos d];exact two _ _ fun e=>by have:=List.append_cancel_left e;exact absurd this (by decide)
  .rw[if_neg d];exact two _ _ fun e=>by have:=(List.cons.inj e).1;exact Bool.noConfusion this
 .rw[if_neg c];exact List.nodup_cons.mpr ⟨(fun q=>nomatch q),List.nodup_nil⟩
theorem mN {l:List aB}(h:l.Nodup)(p:aB->Bool):(l.filter p).Nodup:=List.Pairwise.filter p h
theorem Hf {ws:List aB}(h:ws.Nodup)(n:Nat):(fg ws n).Nodup:=by unfold fg;refine List.nodup_append.mpr ⟨mN h _,CP _ _ _,fun a ma b mb e=>?_⟩;have q:=(cE (List.mem_filter.mp ma).2).2;rw[e,dg mb]at q;exact Bool.noConfusion q
theorem lu:∀{ns:aN}{ws:List aB},ws.Nodup->(ns.foldl fg ws).Nodup
 |[],_,h=>h
 |n::ns,_,h=>lu (ns:=ns) (Hf h n)
theorem EU (ns:aN)(s:aB):(eu ns s).Nodup:=by
 have h0:([[false],[true]]:List aB).Nodup:=List.nodup_cons.mpr ⟨(fun m=>absurd (aS m) (by decide)),List.nodup_cons.mpr ⟨(fun q=>nomatch q),List.nodup_nil⟩⟩;have h:=lu (ns:=ns) h0;unfold eu kM;by_cases c:s=[]
 .rw[if_pos c];exact h
 rw[if_neg c];by_cases d:s∈ns.foldl fg [[false],[true]]
 .rw[if_pos d];exact mN h _
 .rw[if_neg d];refine List.nodup_append.mpr ⟨h,List.nodup_cons.mpr ⟨(fun q=>nomatch q),List.nodup_nil⟩,fun a ma b mb e=>d ?_⟩;rw[aS mb]at e;rw[<- e];exact ma
theorem Nm:j9.Nodup:=by
 have e:(nR j9)=j9:=by decide +kernel
 rw[<- e];exact jT _
theorem zQ (g:aB->Nat)(p:aB->Bool):∀l:List aB,((l.filter p).map g).sum=(l.map fun x=>(if p x then 1 else 0)*g x).sum
 |[]=>rfl
 |x::l=>by
  rw[i8,List.sum_cons,<- zQ g p l];cases h:p x with
  |true=>rw[List.filter_cons_of_pos h,i8,List.sum_cons,if_pos rfl,Nat.one_mul]
  |false=>rw[List.filter_cons_of_neg (by rw[h];exact g6),if_neg g6,Nat.zero_mul,Nat.zero_add]
theorem EA {l m:aN}(h:l.Perm m):l.sum=m.sum:=by
 induction h with
 |nil=>rfl
 |cons x _ ih=>rw[List.sum_cons,List.sum_cons,ih]
 |swap x y l=>simp only[List.sum_cons];lia
 |trans _ _ a b=>exact a.trans b
theorem KL (C k:Nat):b1 C k=if tb C k then 1 else 0:=by unfold b1 tb;have h:Nat.land (Nat.shiftRight C k) 1=(C >>> k) % 2:=Nat.and_one_is_mod _;rw[h];rcases Nat.mod_two_eq_zero_or_one (C >>> k)with e|e <;> rw[e] <;> rfl
theorem LT {ws:List aB}(hb:∀x∈ws,1<=x.length/\x.length<=3)(hn:ws.Nodup)(g:aB->Nat):(ws.map g).sum=(j9.map fun x=>b1 (bc ws) (cd x)*g x).sum:=by
 have hp:ws.Perm (j9.filter fun x=>decide (x∈ws)):=(List.perm_ext_iff_of_nodup hn (mN Nm _)).mpr fun x=>by rw[List.mem_filter,decide_eq_true_iff];exact⟨fun m=>⟨vq (hb x m),m⟩,fun m=>m.2⟩
 rw[EA (hp.map g),zQ];refine congrArg List.sum (List.map_congr_left fun x m=>?_);have hx:x.length<=3:=by
  have:(j9.all fun x=>decide (x.length<=3))=true:=by decide +kernel
  exact bJ (br this x m)
 rw[KL]
 congr 1
 by_cases c:x∈ws
 .rw[dg c,(c8 (fun z m=>(hb z m).2) hx).mpr c]
 .rw[cG c,Bool.eq_false_iff.mpr fun q=>c ((c8 (fun z m=>(hb z m).2) hx).mp q)]
end
end Internal
section
set_option linter.unusedSimpArgs false
namespace Internal
noncomputable def EX (p q:Nat)(x:aB):Nat:=p^x.count false*q^x.count true*(p+q)^(3-x.length)
def WE (p q a b c d i j k:Nat):Prop:=p^i*q^j*(p+q)^k=a*(p*p*p)+b*(p*p*q)+c*(p*q*q)+d*(q*q*q)
theorem L1 (p q:Nat):WE p q 1 2 1 0 1 0 2/\WE p q 0 1 2 1 0 1 2/\WE p q 1 1 0 0 2 0 1/\WE p q 0 1 1 0 1 1 1/\WE p q 0 0 1 1 0 2 1/\WE p q 1 0 0 0 3 0 0/\WE p q 0 1 0 0 2 1 0/\WE p q 0 0 1 0 1 2 0/\WE p q 0 0 0 1 0 3 0:=by refine⟨?_, ?_, ?_, ?_, ?_, ?_, ?_, ?_, ?_⟩ <;> (delta WE;simp only[Nat.pow_succ,Nat.pow_zero,Nat.one_mul,Nat.mul_one,Nat.mul_add,Nat.add_mul,Nat.zero_mul,Nat.add_zero,Nat.zero_add,Nat.two_mul];try ac_rfl)
theorem IC (p q:Nat):(p+q)^3=1*(p*p*p)+3*(p*p*q)+3*(p*q*q)+1*(q*q*q):=by have t:∀x:Nat,3*x=x+x+x:=fun x=>(Nat.succ_mul 2 x).trans (congrArg (· + x) (Nat.two_mul x));rw[t,t];simp only[Nat.pow_succ,Nat.pow_zero,Nat.one_mul,Nat.mul_one,Nat.mul_add,Nat.add_mul];ac_rfl
theorem Dn (b a c d e s t u v A B D E:Nat):b*(a*A+c*B+d*D+e*E)+(s*A+t*B+u*D+v*E)=(b*a+s)*A+(b*c+t)*B+(b*d+u)*D+(b*e+v)*E:=by simp only[Nat.add_mul,Nat.mul_add,Nat.mul_assoc];ac_rfl
noncomputable def VL:List (Nat × Nat × Nat × Nat × Nat):=[(2,1,2,1,0),(3,0,1,2,1),(4,1,1,0,0),(5,0,1,1,0),(6,0,1,1,0),(7,0,0,1,1),(8,1,0,0,0),(9,0,1,0,0),(10,0,1,0,0),(11,0,0,1,0),(12,0,1,0,0),(13,0,0,1,0),(14,0,0,1,0),(15,0,0,0,1)]
theorem N7 (C:Nat):(VL.map fun v=>b1 C v.1*v.2.1).sum=tX C:=by simp only[VL,tX,i8,List.map_nil,List.sum_cons,List.sum_nil,Nat.mul_one,Nat.mul_zero,Nat.zero_add,Nat.add_zero]
theorem N8 (C:Nat):(VL.map fun v=>b1 C v.1*v.2.2.1).sum=tY C:=by simp only[VL,tY,i8,List.map_nil,List.sum_cons,List.sum_nil,Nat.mul_one,Nat.mul_zero,Nat.zero_add,Nat.add_zero]
theorem N9 (C:Nat):(VL.map fun v=>b1 C v.1*v.2.2.2.1).sum=tZ C:=by simp only[VL,tZ,i8,List.map_nil,List.sum_cons,List.sum_nil,Nat.mul_one,Nat.mul_zero,Nat.zero_add,Nat.add_zero]
theorem Oa (C:Nat):(VL.map fun v=>b1 C v.1*v.2.2.2.2).sum=t7 C:=by simp only[VL,t7,i8,List.map_nil,List.sum_cons,List.sum_nil,Nat.mul_one,Nat.mul_zero,Nat.zero_add,Nat.add_zero]
theorem Hj (C A B D E:Nat):∀L:List (Nat × Nat × Nat × Nat × Nat),(L.map fun v=>b1 C v.1*(v.2.1*A+v.2.2.1*B+v.2.2.2.1*D+v.2.2.2.2*E)).sum=(L.map fun v=>b1 C v.1*v.2.1).sum*A+(L.map fun v=>b1 C v.1*v.2.2.1).sum*B+(L.map fun v=>b1 C v.1*v.2.2.2.1).sum*D+(L.map fun v=>b1 C v.1*v.2.2.2.2).sum*E:=fun L=>by
 induction L with
 |nil=>simp only[List.map_nil,List.sum_nil,Nat.zero_mul,Nat.add_zero]
 |cons v L ih =>
  rw[i8,List.sum_cons,ih];exact Dn _ _ _ _ _ _ _ _ _ _ _ _ _
theorem L0 (hb:∀x∈ws,1<=x.length/\x.length<=3)(hn:ws.Nodup)(p q:Nat):(ws.map (EX p q)).sum=tX (bc ws)*(p*p*p)+tY (bc ws)*(p*p*q)+tZ (bc ws)*(p*q*q)+t7 (bc ws)*(q*q*q):=by
 rw[LT hb hn,<- N7,<- N8,<- N9,<- Oa];refine Eq.trans (congrArg List.sum (?_:_=VL.map _)) (Hj (bc ws) _ _ _ _ VL);generalize bc ws=C;have e:∀{a b c:Nat}{l m:aN},b=c->l=m->a*b::l=a*c::m:=fun h k=>by rw[h,k]
 obtain⟨pp,qq,p2,pq,q2,p3,ppq,pqq,q3⟩:=L1 p q;exact e pp (e qq (e p2 (e pq (e pq (e q2 (e p3 (e ppq (e ppq (e pqq (e ppq (e pqq (e pqq (e q3 rfl)))))))))))))
theorem L4 (h0:tX C=1)(h1:tY C=3)(h2:tZ C=3)(h3:t7 C=1):tX C*(p*p*p)+tY C*(p*p*q)+tZ C*(p*q*q)+t7 C*(q*q*q)=(p+q)^3:=by rw[h0,h1,h2,h3,IC]
theorem Lb {a b c d a' b' c' d':Nat}(h1:a<=a')(h2:b<=b')(h3:c<=c')(h4:d<=d')(hn:¬ (a=a'/\b=b'/\c=c'/\d=d')):a+b+c+d<a'+b'+c'+d':=by
 rcases Nat.lt_or_eq_of_le h1 with l|rfl
 .exact Nat.add_lt_add_of_lt_of_le (Nat.add_lt_add_of_lt_of_le (Nat.add_lt_add_of_lt_of_le l h2) h3) h4
 rcases Nat.lt_or_eq_of_le h2 with l|rfl
 .exact Nat.add_lt_add_of_lt_of_le (Nat.add_lt_add_of_lt_of_le (Nat.add_lt_add_left l _) h3) h4
 rcases Nat.lt_or_eq_of_le h3 with l|rfl
 .exact Nat.add_lt_add_of_lt_of_le (Nat.add_lt_add_left l _) h4
 rcases Nat.lt_or_eq_of_le h4 with l|rfl
 .exact Nat.add_lt_add_left l _
 .exact absurd ⟨rfl,rfl,rfl,rfl⟩ hn
theorem uU (hp:1<=p)(hq:1<=q):0<p*p*p/\0<p*p*q/\0<p*q*q/\0<q*q*q:=⟨Nat.mul_pos (Nat.mul_pos hp hp) hp,Nat.mul_pos (Nat.mul_pos hp hp) hq,Nat.mul_pos (Nat.mul_pos hp hq) hq,Nat.mul_pos (Nat.mul_pos hq hq) hq⟩
theorem L6 {C p q:Nat}(hp:1<=p)(hq:1<=q)(h0:tX C<=1)(h1:tY C<=3)(h2:tZ C<=3)(h3:t7 C<=1)(hn:¬ (tX C=1/\tY C=3/\tZ C=3/\t7 C=1)):tX C*(p*p*p)+tY C*(p*p*q)+tZ C*(p*q*q)+t7 C*(q*q*q)<(p+q)^3:=by obtain⟨a,b,d,e⟩:=uU hp hq;rw[IC];exact Lb (oG _ h0) (oG _ h1) (oG _ h2) (oG _ h3) fun⟨x,y,z,w⟩=>hn ⟨Nat.eq_of_mul_eq_mul_right a x,Nat.eq_of_mul_eq_mul_right b y,Nat.eq_of_mul_eq_mul_right d z,Nat.eq_of_mul_eq_mul_right e w⟩
theorem L5 {C p q:Nat}(hp:1<=p)(hq:1<=q)(h0:1<=tX C)(h1:3<=tY C)(h2:3<=tZ C)(h3:1<=t7 C)(hs:9<=tX C+tY C+tZ C+t7 C):(p+q)^3<tX C*(p*p*p)+tY C*(p*p*q)+tZ C*(p*q*q)+t7 C*(q*q*q):=by obtain⟨a,b,d,e⟩:=uU hp hq;rw[IC];refine Lb (oG _ h0) (oG _ h1) (oG _ h2) (oG _ h3) fun⟨x,y,z,w⟩=>?_;rw[<- Nat.eq_of_mul_eq_mul_right a x,<- Nat.eq_of_mul_eq_mul_right b y,<- Nat.eq_of_mul_eq_mul_right d z,<- Nat.eq_of_mul_eq_mul_right e w]at hs;exact absurd hs (by decide)
end Internal
end
section
set_option linter.unusedSimpArgs false
namespace Internal
theorem JX (i j:Nat)(m:Nat)(h:m=fI i):tb m j=[i].contains j:=by rw[h,iO,Bool.eq_iff_iff,decide_eq_true_iff,List.contains_iff_mem,List.mem_singleton];exact eq_comm
theorem li_spr:Li Et:=(((Li.shl 1 (Li.bits 0 2 rfl)).lor (Li.shl 2 (Li.bits 0 4 rfl))).lor ((Li.shl 3 (Li.bits 0 8 rfl)).lor (Li.shl 4 (Li.bits 0 16 rfl)))).lor (((Li.shl 5 (Li.bits 0 32 rfl)).lor (Li.shl 6 (Li.bits 0 64 rfl))).lor (Li.shl 7 (Li.bits 0 128 rfl)))
def gz (P:Nat)(s:Bool):Nat:=bif s then Nat.shiftLeft (Et P) 1 else Et P
theorem zc (s:Bool):Li fun P=>gz P s:=by
 cases s
 .exact li_spr
 .exact li_spr.shl 1
theorem DD:([false,true].all fun s=>T7.all fun o=>Nat.beq (gz (fI (cd o)) s) (fI (cd (o++[s]))))=true:=by decide +kernel
theorem AV:([false,true].all fun s=>(List.range 16).all fun k=>Nat.beq (gz (fI k) s) 0 || T7.any fun o=>Nat.beq (cd o) k)=true:=by decide +kernel
theorem Lh (s:Bool):s∈[false,true]:=by
 cases s
 .exact .head _
 .exact .tail _ (.head _)
theorem LW:(T7.all fun x=>Nat.ble x.length 2)=true:=by decide +kernel
theorem zk (s:Bool)(m:o∈T7):gz (fI (cd o)) s=fI (cd (o++[s])):=tV (br (br DD s (Lh s)) o m)
theorem zl (s:Bool)(h:o.length<=2)(q:tb P (cd o)=true):tb (gz P s) (cd (o++[s]))=true:=
 (zc s).mono (.bit q) _ (by rw[zk s (Dv h)];exact oM _)
theorem vz (h:tb (gz P s) j=true):∃o:aB,o.length<=2/\j=cd (o++[s])/\tb P (cd o)=true:=by
 obtain⟨k,l,a,h⟩:=(zc s).lin h;rcases Bool.or_eq_true_iff.mp (br (br AV s (Lh s)) k (List.mem_range.mpr l))with z|z
 .rw[tV z,bN]at h;exact absurd h g6
 .obtain⟨o,m,z⟩:=List.any_eq_true.mp z;obtain rfl:=tV z;rw[zk s m,iO]at h;exact⟨o,Nat.le_of_ble_eq_true (br LW o m),(bJ h).symm,a⟩
structure Rp (P:Nat)(X:aB->Prop):Prop where
 iff:∀x:aB,x.length<=3->(tb P (cd x)=true↔X x)
 sz:∀x,X x->x.length<=2
 out:∀j,tb P j=true->∃x:aB,x.length<=2/\cd x=j
theorem sQ (Q C:Nat):Nat.beq (Nat.land Q C) 0=false↔∃j,tb Q j=true/\tb C j=true:=by
 constructor
 .intro h;by_cases q:∃j,tb Q j=true/\tb C j=true
  .exact q
  .have:Nat.land Q C=0:=tU fun j=>Bool.eq_false_iff.mpr fun z=>by rw[fG,eO]at z;exact q ⟨j,z⟩
   rw[this]at h;exact Bool.noConfusion h
 .rintro ⟨j,a,b⟩
  refine Bool.eq_false_iff.mpr fun z=>?_;have e:Nat.land Q C=0:=tV z;have:=fG Q C j;rw[e,bN,a,b]at this;exact Bool.noConfusion this
theorem Cl (hb:∀x∈ws,x.length<=3)(hF:Rp F (Fr ws))(hP:Rp P X)(s:Bool):Rp (je F (bc ws) P s) (eY ws X s):=by
 have h0:∀j,tb (je F (bc ws) P s) j=((tb (gz P s) j&&tb F j) || tb (bif Nat.beq (Nat.land (gz P s) (bc ws)) 0 then 0 else 2) j):=fun j=>by show tb (Nat.lor (Nat.land (gz P s) F) (bif Nat.beq (Nat.land (gz P s) (bc ws)) 0 then 0 else 2)) j=_;rw[eZ,fG]
 have hit:tb (bif Nat.beq (Nat.land (gz P s) (bc ws)) 0 then 0 else 2) 1=true↔∃o,X o/\o++[s]∈ws:=by
  cases z:Nat.beq (Nat.land (gz P s) (bc ws)) 0 with
  |true =>
   refine⟨fun q=>by exact absurd q (by rw[show(bif true then 0 else 2)=0 from rfl,bN];exact g6),fun⟨o,x,m⟩=>?_⟩;have l:=hP.sz o x;have:Nat.beq (Nat.land (gz P s) (bc ws)) 0=false:=(sQ _ _).mpr ⟨cd (o++[s]),zl s l ((hP.iff o (Nat.le_succ_of_le l)).mpr x),(c8 hb (hb _ m)).mpr m⟩;rw[z]at this;exact Bool.noConfusion this
  |false =>
   refine⟨fun _=>?_,fun _=>by show tb 2 1=true;decide +kernel⟩;obtain⟨j,a,b⟩:=(sQ _ _).mp z;obtain⟨o,l,rfl,c⟩:=vz a;have l3:(o++[s]).length<=3:=by rw[dR];exact Nat.succ_le_succ l
   exact⟨o,(hP.iff o (Nat.le_succ_of_le l)).mp c,(c8 hb l3).mp b⟩
 have two:∀j,tb (bif Nat.beq (Nat.land (gz P s) (bc ws)) 0 then 0 else 2) j=true->j=1:=fun j q=>by
  cases z:Nat.beq (Nat.land (gz P s) (bc ws)) 0 with
  |true=>rw[z,show(bif true then 0 else 2)=0 from rfl,bN]at q;exact Bool.noConfusion q
  |false =>
   rw[z]at q;have q:tb 2 j=true:=q;rw[JX 1 j 2 rfl,List.contains_iff_mem]at q;exact aS q
 have sz:∀x,eY ws X s x->x.length<=2:=fun x q=>by
  rcases q with⟨o,_,f,rfl⟩|⟨rfl,_⟩
  .exact hF.sz _ f
  .exact gL _
 refine⟨fun x l=>?_,sz,fun j q=>?_⟩
 .rw[h0,Bool.or_eq_true,eO];constructor
  .rintro (⟨a,b⟩|q)
   .obtain⟨o,lo,e,c⟩:=vz a;have l3:(o++[s]).length<=3:=by rw[dR];exact Nat.succ_le_succ lo
    have ex:=jc l l3 e;rw[ex]at b ⊢;exact .inl ⟨o,(hP.iff o (Nat.le_succ_of_le lo)).mp c,(hF.iff _ l3).mp b,rfl⟩
   .have e:cd x=cd []:=two _ q;have ex:=jc l (by decide) e;rw[ex]at q ⊢;exact .inr ⟨rfl,hit.mp q⟩
  .rintro (⟨o,x1,f,rfl⟩|⟨rfl,w⟩)
   .have lo:=hP.sz o x1;exact .inl ⟨zl s lo ((hP.iff o (Nat.le_succ_of_le lo)).mpr x1),(hF.iff _ l).mpr f⟩
   .exact .inr (hit.mpr w)
 .rw[h0,Bool.or_eq_true,eO]at q;rcases q with⟨_,b⟩|q
  .exact hF.out j b
  .exact⟨[],by decide,(two j q).symm⟩
end Internal
end
section
set_option linter.unusedSimpArgs false
namespace Internal
theorem xQ (h:∀x,¬ X x):∀x,¬ eY ws X s x:=fun x q=>by
 rcases q with⟨o,a,_⟩|⟨_,o,a,_⟩
 .exact h o a
 .exact h o a
theorem qW:∀{u:aB}{X:aB->Prop},(∀x,¬ X x)->∀x,¬ u.foldl (eY ws) X x
 |[],_,h=>h
 |s::u,_,h=>qW (u:=u) (xQ h)
theorem Rp.zero (h:Rp P X)(z:P=0):∀x,¬ X x:=fun x q=>by have:=(h.iff x (Nat.le_succ_of_le (h.sz x q))).mpr q;rw[z,bN]at this;exact Bool.noConfusion this
theorem Rp.pos (h:Rp P X)(z:P≠0):∃x,X x:=by
 by_cases q:∃x,X x
 .exact q
 .refine absurd (tU fun j=>Bool.eq_false_iff.mpr fun t=>?_) z;obtain⟨x,l,e⟩:=h.out j t;rw[<- e]at t;exact q ⟨x,(h.iff x (Nat.le_succ_of_le l)).mp t⟩
noncomputable def BX:Nat->Nat->aB
 |0,_=>[]
 |k+1,U=>tb U 0::BX k (Nat.shiftRight U 1)
section
variable {ws:List aB}(hb:∀x∈ws,x.length<=3){F:Nat}(hF:Rp F (Fr ws))
include hb hF
theorem Ea:∀{k U P:Nat}{X:aB->Prop},Rp P X->xC F (bc ws) k U P=0->∀x,¬ (BX k U).foldl (eY ws) X x
 |0,U,P,X,hP,h=>hP.zero h
 |k+1,U,P,X,hP,h=>by
  have h:(bif Nat.beq P 0 then 0 else xC F (bc ws) k (Nat.shiftRight U 1) (je F (bc ws) P (tb U 0)))=0:=h;cases z:Nat.beq P 0 with
  |true=>exact qW (hP.zero (tV z))
  |false =>
   rw[z]at h;have h:xC F (bc ws) k (Nat.shiftRight U 1) (je F (bc ws) P (tb U 0))=0:=h;exact Ea (k:=k) (Cl hb hF hP (tb U 0)) h
omit hb hF in
theorem B7:∀{k:Nat}{todo seen:aN},Fj F (bc ws) k todo seen=true->(∀P∈seen,P≠0/\∀s,je F (bc ws) P s∈seen++todo)->∃A:aN,(∀P∈seen++todo,P∈A)/\∀P∈A,P≠0/\∀s,je F (bc ws) P s∈A
 |0,todo,seen,h,_=>by
  have h:false=true:=by cases todo <;> exact h
  exact Bool.noConfusion h
 |k+1,[],seen,_,i=>⟨seen++[],fun _ m=>m,fun P m=>i P (by rw[List.append_nil]at m;exact m)⟩
 |k+1,P::r,seen,h,i=>by
  have h:(bif Nat.beq P 0 then false else bif seen.any (Nat.beq P)then Fj F (bc ws) k r seen else Fj F (bc ws) k (je F (bc ws) P false::je F (bc ws) P true::r) (P::seen))=true:=h;cases z:Nat.beq P 0 with
  |true=>rw[z]at h;exact Bool.noConfusion h
  |false =>
   rw[z]at h;have h:(bif seen.any (Nat.beq P)then Fj F (bc ws) k r seen else Fj F (bc ws) k (je F (bc ws) P false::je F (bc ws) P true::r) (P::seen))=true:=h;have p0:P≠0:=fun e=>by rw[e]at z;exact Bool.noConfusion z
   cases y:seen.any (Nat.beq P)with
   |true =>
    rw[y]at h;have ps:P∈seen:=by obtain⟨q,m,e⟩:=List.any_eq_true.mp y;rw[tV e];exact m
    have mv:∀q,q∈seen++P::r->q∈seen++r:=fun q m=>by
     rcases cy m with m|m
     .exact ij _ m
     .rcases bA m with rfl|m
      .exact ij _ ps
      .exact hJ _ m
    obtain⟨A,a1,a2⟩:=B7 (todo:=r) (seen:=seen) h fun q m=>⟨(i q m).1,fun s=>mv _ ((i q m).2 s)⟩;exact⟨A,fun q m=>a1 q (mv q m),a2⟩
   |false =>
    rw[y]at h;have mv:∀q,q∈seen++P::r->q∈(P::seen)++(je F (bc ws) P false::je F (bc ws) P true::r):=fun q m=>by
     rcases cy m with m|m
     .exact ij _ (.tail _ m)
     .rcases bA m with rfl|m
      .exact ij _ (.head _)
      .exact hJ _ (.tail _ (.tail _ m))
    obtain⟨A,a1,a2⟩:=B7 (todo:=je F (bc ws) P false::je F (bc ws) P true::r) (seen:=P::seen) h fun q m=>by
     rcases bA m with rfl|m
     .exact⟨p0,fun s=>hJ _ (by cases s;exact .head _;exact .tail _ (.head _))⟩
     .exact⟨(i q m).1,fun s=>mv _ ((i q m).2 s)⟩
    exact⟨A,fun q m=>a1 q (mv q m),a2⟩
theorem Iz (h:Fj F (bc ws) k [F] []=true)(u:aB):∃x,Rc ws u x:=by
 obtain⟨A,a1,a2⟩:=B7 h fun _ m=>nomatch m;have key:∀{u:aB}{P:Nat}{X:aB->Prop},P∈A->Rp P X->∃x,u.foldl (eY ws) X x:=fun{u}=>by
  induction u with
  |nil=>exact fun{P X} m r=>r.pos (a2 P m).1
  |cons s u ih=>exact fun{P X} m r=>ih ((a2 P m).2 s) (Cl hb hF r s)
 exact key (a1 F (.head _)) hF
end
end Internal
end
section
set_option linter.unusedSimpArgs false
namespace Internal
def N4 (x:aB):aN:=(j9.filter fun z=>x.isPrefixOf z&&decide (x.length<z.length)).map cd
theorem mL (hb:∀x∈ws,1<=x.length/\x.length<=3)(hm:m=xt 0 (N4 x)):(!Nat.beq (Nat.land (bc ws) m) 0)=true↔Fr ws x:=by
 have hb3:∀x∈ws,x.length<=3:=fun x m=>(hb x m).2;rw[Bool.not_eq_true',sQ];constructor
 .rintro ⟨j,a,b⟩
  rw[hm,kO,bN,Bool.false_or,List.contains_iff_mem]at b;obtain⟨z,mz,rfl⟩:=iz b;obtain⟨m1,m2⟩:=List.mem_filter.mp mz;obtain⟨p1,p2⟩:=cE m2;have l:=LU m1;exact⟨z,(c8 hb3 l).mp a,List.isPrefixOf_iff_prefix.mp p1,bJ p2⟩
 .rintro ⟨z,mz,p1,p2⟩
  refine⟨cd z,tb_mk.mpr ⟨z,mz,rfl⟩, ?_⟩;rw[hm,kO,bN,Bool.false_or,List.contains_iff_mem];exact List.mem_map.mpr ⟨z,List.mem_filter.mpr ⟨vq (hb z mz),jX ⟨List.isPrefixOf_iff_prefix.mpr p1,dg p2⟩⟩,rfl⟩
noncomputable def Gn (a b c d e f:Bool):Nat:=Nat.lor (Nat.lor 2 (Nat.lor (bif a then 0 else 4) (bif b then 0 else 8))) (Nat.lor (Nat.lor (bif c then 0 else 16) (bif d then 0 else 32)) (Nat.lor (bif e then 0 else 64) (bif f then 0 else 128)))
theorem Go:∀a b c d e f:Bool,tb (Gn a b c d e f) 1=true/\tb (Gn a b c d e f) 2=!a/\tb (Gn a b c d e f) 3=!b/\tb (Gn a b c d e f) 4=!c/\tb (Gn a b c d e f) 5=!d/\tb (Gn a b c d e f) 6=!e/\tb (Gn a b c d e f) 7=!f/\Nat.land (Gn a b c d e f) (xt 0 (T7.map cd))=Gn a b c d e f:=by decide +kernel
theorem KT (hn:ws≠[])(hb:∀x∈ws,1<=x.length/\x.length<=3):Rp (qo (bc ws)) (Fr ws):=by
 have sz:∀x,Fr ws x->x.length<=2:=fun x ⟨z,mz,_,c⟩=>Nat.le_of_lt_succ (kS c (hb z mz).2);have h0:Fr ws []:=by obtain⟨x,mx⟩:=iu hn;exact⟨x,mx,List.nil_prefix,(hb x mx).1⟩
 have e1:=mL hb (x:=[false]) (m:=3888) (by decide +kernel);have e2:=mL hb (x:=[true]) (m:=61632) (by decide +kernel);have e3:=mL hb (x:=[false,false]) (m:=768) (by decide +kernel);have e4:=mL hb (x:=[false,true]) (m:=3072) (by decide +kernel);have e5:=mL hb (x:=[true,false]) (m:=12288) (by decide +kernel);have e6:=mL hb (x:=[true,true]) (m:=49152) (by decide +kernel);obtain⟨k1,k2,k3,k4,k5,k6,k7,k8⟩:tb (qo (bc ws)) 1=true/\tb (qo (bc ws)) 2=_/\tb (qo (bc ws)) 3=_/\tb (qo (bc ws)) 4=_/\tb (qo (bc ws)) 5=_/\tb (qo (bc ws)) 6=_/\tb (qo (bc ws)) 7=_/\Nat.land (qo (bc ws)) _=qo (bc ws):=Go _ _ _ _ _ _;have le7:∀j,tb (qo (bc ws)) j=true->∃x:aB,x.length<=2/\cd x=j:=fun j q=>by rw[<- k8,fG,eO,kO,bN,Bool.false_or,List.contains_iff_mem]at q;obtain⟨x,m,e⟩:=iz q.2;exact⟨x,Nat.le_of_ble_eq_true (br LW x m),e⟩
 refine⟨fun x l=>?_,sz,le7⟩;by_cases l2:x.length<=2
 .have key:∀x∈T7,(tb (qo (bc ws)) (cd x)=true↔Fr ws x):=List.forall_mem_cons.mpr ⟨⟨fun _=>h0,fun _=>k1⟩,List.forall_mem_cons.mpr ⟨(Bool.eq_iff_iff.mp k2).trans e1,List.forall_mem_cons.mpr ⟨(Bool.eq_iff_iff.mp k3).trans e2,List.forall_mem_cons.mpr ⟨(Bool.eq_iff_iff.mp k4).trans e3,List.forall_mem_cons.mpr ⟨(Bool.eq_iff_iff.mp k5).trans e4,List.forall_mem_cons.mpr ⟨(Bool.eq_iff_iff.mp k6).trans e5,List.forall_mem_cons.mpr ⟨(Bool.eq_iff_iff.mp k7).trans e6,fun _ m=>nomatch m⟩⟩⟩⟩⟩⟩⟩;exact key x (Dv l2)
 .refine⟨fun q=>?_,fun q=>absurd (sz x q) l2⟩;obtain⟨z,lz,e⟩:=le7 _ q;rw[jc (Nat.le_succ_of_le lz) l e]at lz;exact absurd lz l2
end Internal
end
namespace Internal
section
theorem rM (hs:s.length<=3):qf (bc (eu [a,b,c,d,e] s)) 7 0 (cS (bc (eu [a,b,c,d,e] s)) (bc (eu [a,b,c,d,e] s)))<=1:=by obtain⟨m,W⟩:=sX (a:=a) (b:=b) (c:=c) (d:=d) (e:=e);exact Nat.ble_eq.mp (br (br Hn _ m) _ (pM (fun x mx=>(W.sz x mx).2) hs))
theorem Gy (hn:ws≠[])(hb:∀x∈ws,1<=x.length/\x.length<=3)(hnd:ws.Nodup)(hk:Ag (bc ws)=true)(h2:qf (bc ws) 7 0 (cS (bc ws) (bc ws))<=1)(h:gn false ws only)(hg:na ws g)(hp:1<=p)(hq:1<=q) :
  (only=true/\g=none/\(ws.map (EX p q)).sum=(p+q)^3)\/(only=true/\g≠none/\(ws.map (EX p q)).sum<(p+q)^3)\/(only=false/\(g≠none\/(ws.map (EX p q)).sum≠(p+q)^3)):=by
 have e1:=xn hb h h2;have hF:=KT hn hb;have hb3:∀x∈ws,x.length<=3:=fun x m=>(hb x m).2;rw[L0 hb hnd p q];have full:Fj (qo (bc ws)) (bc ws) 99 [qo (bc ws)] []=true->g=none:=fun c=>by
  cases g with
  |none=>rfl
  |some u =>
   obtain⟨x,hx⟩:=Iz hb3 hF c u;exact absurd hx (hg.1 x)
 have gap:Nat.beq (xC (qo (bc ws)) (bc ws) 76 uM (qo (bc ws))) 0=true->g≠none:=fun c e=>by subst e;obtain⟨x,hx⟩:=(hg:∀v,∃x,Rc ws v x) (BX 76 uM);exact Ea hb3 hF hF (tV c) x hx
 unfold Ag at hk;cases z:Nat.beq (qf (bc ws) 7 0 (cS (bc ws) (bc ws))) (qf (kJ (bc ws)) 7 0 (cS (kJ (bc ws)) (kJ (bc ws))))with
 |false=>rw[z]at hk;exact Bool.noConfusion hk
 |true =>
  rw[z,cond_true,e1]at hk;cases only with
  |true =>
   have b:Nat.beq (if(true:Bool)=true then 1 else 0) 1=true:=rfl;rw[b,cond_true]at hk;cases y:(Nat.beq (tX (bc ws)) 1&&Nat.beq (tY (bc ws)) 3&&Nat.beq (tZ (bc ws)) 3&&Nat.beq (t7 (bc ws)) 1)with
   |true =>
    rw[y,cond_true]at hk;simp only[eO,Nat.beq_eq]at y;exact .inl ⟨rfl,full hk,L4 y.1.1.1 y.1.1.2 y.1.2 y.2⟩
   |false =>
    rw[y,cond_false]at hk;simp only[eO,Nat.ble_eq]at hk;obtain⟨⟨⟨⟨k0,k1⟩,k2⟩,k3⟩,k4⟩:=hk;refine .inr (.inl ⟨rfl,gap k4,L6 hp hq k0 k1 k2 k3 fun⟨a,b,c,d⟩=>?_⟩);rw[a,b,c,d]at y;exact Bool.noConfusion y
  |false =>
   have b:Nat.beq (if(false:Bool)=true then 1 else 0) 1=false:=rfl;rw[b,cond_false]at hk;refine .inr (.inr ⟨rfl, ?_⟩);cases y:(Nat.ble 1 (tX (bc ws))&&Nat.ble 3 (tY (bc ws))&&Nat.ble 3 (tZ (bc ws))&&Nat.ble 1 (t7 (bc ws))&&Nat.ble 9 (tX (bc ws)+tY (bc ws)+tZ (bc ws)+t7 (bc ws)))with
   |true =>
    simp only[eO,Nat.ble_eq]at y;obtain⟨⟨⟨⟨k0,k1⟩,k2⟩,k3⟩,k4⟩:=y;exact .inr (Nat.ne_of_gt (L5 hp hq k0 k1 k2 k3 k4))
   |false =>
    rw[y,cond_false]at hk;exact .inl (gap hk)
def KA (ws:List aB)(p r:aB):Prop:=Fr ws p/\(r=[]\/∃x rows,x∈ws/\p <+: x/\p.length<x.length/\(∀y∈rows,y∈ws)/\p++r=x++List.flatten rows)
section
variable {ws:List aB}(hn:Fr ws [])(hb:∀x∈ws,1<=x.length)
include hn hb
theorem vX {rows:List aB}(h:∀y∈rows,y∈ws):KA ws [] rows.flatten:=by
 refine⟨hn, ?_⟩;cases rows with
 |nil=>exact .inl rfl
 |cons y rows=>exact .inr ⟨y,rows,h y (.head _),List.nil_prefix,hb y (h y (.head _)),fun z m=>h z (.tail _ m),rfl⟩
theorem vZ (h:KA ws p (s::r)):∃p',KA ws p' r/\((p'=p++[s]/\Fr ws (p++[s]))\/(p'=[]/\p++[s]∈ws)):=by
 obtain⟨hf,h⟩:=h;rcases h with h|⟨x,rows,mx,⟨x',rfl⟩,lt,hr,e⟩
 .exact nomatch h
 .rw[List.append_assoc]at e;have e:=List.append_cancel_left e;cases x' with
  |nil=>rw[List.append_nil]at lt;exact absurd lt (Nat.lt_irrefl _)
  |cons a x'' =>
   obtain⟨e0,e1⟩:=List.cons.inj (show s::r=a::(x''++rows.flatten)from e);subst e0;clear e;cases x'' with
   |nil =>
    have e1:r=rows.flatten:=e1;rw[e1];exact⟨[],vX hn hb hr, .inr ⟨rfl,mx⟩⟩
   |cons c z =>
    have ea:p++s::c::z=(p++[s])++c::z:=by rw[List.append_assoc];rfl
    have hl:(p++[s]).length<(p++s::c::z).length:=by rw[ea,dR (as:=p++[s]),sW];lia
    have hp:p++[s] <+: p++s::c::z:=⟨c::z,ea.symm⟩;refine⟨p++[s],⟨⟨_,mx,hp,hl⟩, .inr ⟨_,rows,mx,hp,hl,hr, ?_⟩⟩, .inl ⟨rfl,_,mx,hp,hl⟩⟩;rw[e1,ea,List.append_assoc (p++[s])]
theorem vY:∀{t r p:aB},KA ws p (t++r)->∃p',KA ws p' r
 |[],r,p,h=>⟨p,h⟩
 |s::t,r,p,h=>by obtain⟨p',h',_⟩:=vZ hn hb h;exact vY h'
theorem zP:∀{g r p:aB}{X:aB->Prop},KA ws p (g++r)->X p->∃x,g.foldl (eY ws) X x
 |[],r,p,X,_,hx=>⟨p,hx⟩
 |s::g,r,p,X,h,hx=>by
  obtain⟨p',h',c⟩:=vZ hn hb h;refine zP (X:=eY ws X s) h' ?_;rcases c with⟨rfl,f⟩|⟨rfl,m⟩
  .exact .inl ⟨p,hx,f,rfl⟩
  .exact .inr ⟨rfl,p,hx,m⟩
theorem Bc {rows:List aB}(h:∀y∈rows,y∈ws)(e:rows.flatten=a++(g++b)):∃x,Rc ws g x:=by have h0:=vX hn hb h;rw[e]at h0;obtain⟨p,hp⟩:=vY hn hb h0;exact zP hn hb hp hp.1
end
end
section
theorem xW (h:∃x,Rc ws [s,t] x):∃x∈ws,∃y∈ws,∃a b,x++y=a++([s,t]++b):=by
 obtain⟨x,h⟩:=h;have h:eY ws (eY ws (Fr ws) s) t x:=h;have key:∃o,eY ws (Fr ws) s o/\∃z∈ws,o++[t] <+: z:=by
  rcases h with⟨o,a,⟨z,mz,p,_⟩,_⟩|⟨_,o,a,m⟩
  .exact⟨o,a,z,mz,p⟩
  .exact⟨o,a,_,m,List.prefix_refl _⟩
 obtain⟨o,ho,z,mz,⟨b,hb⟩⟩:=key;rcases ho with⟨q,_,_,rfl⟩|⟨rfl,q,_,m⟩
 .refine⟨z,mz,z,mz,q,b++z, ?_⟩;rw[<- hb];simp
 .refine⟨q++[s],m,z,mz,q,b, ?_⟩;rw[<- hb];simp
theorem ell_in1:eQ [] [g] [] m=true↔∃a b,m=a++(g++b):=by
 unfold eQ;have h1:([]:aB).isPrefixOf m=true:=rfl;have h2:([]:aB).isSuffixOf m=true:=List.isSuffixOf_iff_suffix.mpr List.nil_suffix;rw[h1,h2,dg (show([]:aB).length+([]:aB).length<=m.length from gL _)];show(match eG m g 0 (m.length-0)with|some k=>true|none=>false)=true↔_;rw[Nat.sub_zero];cases hf:eG m g 0 m.length with
 |some k =>
  refine⟨fun _=>?_,fun _=>rfl⟩;obtain⟨_,p,_⟩:=ot hf;have q:=(cE p).2;obtain⟨b,hb⟩:=take_pre.mp q;exact⟨m.take k,b,by rw[hb,List.take_append_drop]⟩
 |none =>
  refine⟨fun q=>Bool.noConfusion q, ?_⟩
  rintro ⟨a,b,rfl⟩
  have:=uX hf (gL a.length) (by rw[dR];exact nr _ _);rw[dg (by simp only[dR];lia),Bool.true_and,List.drop_left,List.take_left,beq_self_eq_true]at this;exact Bool.noConfusion this
variable {S:cU}{k cu cv:Nat}
structure i9 (S:cU):Prop extends Facts S where
 rz:S.rz=true
 c51:∀cu cv ns s,cu≠cv->ns.length<=5->S.cal 51 [aj [cu,cv], .list (ns.map ae),aj (tw cu cv s)]=some (a6 cu cv (eu ns s))
 c59:∀k cu cv dr ws mir,fN k cu cv->g5 (wr k cu) (wr k cv)->Ib k cu cv dr->Bd 3 ws->ws.length<=100->∃b,S.cal 59 [dr,a6 cu cv ws, .bool mir]=some (.bool b)/\gn mir ws b
 c69:∀cu cv ws,cu≠cv->ue 100 ws->∃g,S.cal 69 [aj [cu,cv],a6 cu cv ws]=some (qv cu cv g)/\na ws g
 c76:∀k cu cv dr ws two,fN k cu cv->g5 (wr k cu) (wr k cv)->Ib k cu cv dr->ue 20 ws->two.length=2->S.cal 76 [ae k,dr,a6 cu cv ws,aj (tw cu cv two)]=some (.bool true)
noncomputable def T4:List aB:=[[false,false],[false,true],[true,false],[true,true]]
theorem Mj (g58:ρ.get 58=some (aj [cu,cv])):ex S ρ Mi=some (.n (ρ.set 84 (a6 cu cv T4))):=by
 have key:=sK (S:=S) (ρ:=ρ) (elt:=.b .Add (.v 57) (.v 68)) (tg:=[57]) (tg2:=[68]) (src:=.e (.v 58)) (src2:=.e (.v 58)) (l:=[false,true]) (i:=fun s=>aj (tw cu cv [s])) (l2:=fun _=>[false,true]) (i2:=fun _ s=>aj (tw cu cv [s])) (g:=fun a b=>aj (tw cu cv ([a]++[b]))) (iq g58)
  (fun a _=>by have q58:((ρ.del ([57]++([68]++[]))).set 57 (aj (tw cu cv [a]))).get 58=some (aj [cu,cv]):=cm rfl (by rw[aF.get_del,if_neg (by decide)];exact g58);exact⟨(ρ.del ([57]++([68]++[]))).set 57 (aj (tw cu cv [a])),rfl,iq q58,fun b _=>⟨((ρ.del ([57]++([68]++[]))).set 57 (aj (tw cu cv [a]))).set 68 (aj (tw cu cv [b])),rfl,jC (aa (cm rfl an)) (aa an) (by show 1<=5000;decide) (by show 1<=5000;decide)⟩⟩) (by show 4<=_;decide)
 exact aK key
theorem Ml (g58:ρ.get 58=some (aj [cu,cv]))(g84:ρ.get 84=some (a6 cu cv T4)):ex S ρ Mk=some (.n (ρ.set 96 (a6 cu cv j9))):=by
 have key:=sK (S:=S) (ρ:=ρ) (elt:=.b .Add (.v 57) (.v 68)) (tg:=[57]) (tg2:=[68]) (src:=.e (.v 84)) (src2:=.e (.v 58)) (l:=T4) (i:=fun x=>aj (tw cu cv x)) (l2:=fun _=>[false,true]) (i2:=fun _ s=>aj (tw cu cv [s])) (g:=fun a b=>aj (tw cu cv (a++[b]))) (de g84)
  (fun a ma=>by
   have q58:((ρ.del ([57]++([68]++[]))).set 57 (aj (tw cu cv a))).get 58=some (aj [cu,cv]):=cm rfl (by rw[aF.get_del,if_neg (by decide)];exact g58);have la:a.length<=5000:=by
    have:(T4.all fun x=>decide (x.length<=2))=true:=by decide +kernel
    exact aJ (bJ (br this a ma)) (by decide)
   exact⟨(ρ.del ([57]++([68]++[]))).set 57 (aj (tw cu cv a)),rfl,iq q58,fun b _=>⟨((ρ.del ([57]++([68]++[]))).set 57 (aj (tw cu cv a))).set 68 (aj (tw cu cv [b])),rfl,jC (aa (cm rfl an)) (aa an) la (by show 1<=5000;decide)⟩⟩) (by show 8<=_;decide)
 have two:ev S ρ (.i (.c (.s (.v 58) (.l (.int 0))) (.c (.s (.v 58) (.l (.int 1))) .n)))=some (a6 cu cv [[false],[true]]) :=
  dB (ah (bk (aa g58) (ar (d:=ae 0)) rfl) (ah (bk (aa g58) (ar (d:=ae 1)) rfl) aw)) (oF rfl)
 exact aK (jW (l:=[[false],[true]]++T4) (m:=[[false,false,false],[false,false,true],[false,true,false],[false,true,true],[true,false,false],[true,false,true],[true,true,false],[true,true,true]]) (jW two (aa g84) (by decide)) key (by decide))
end
section
variable {S:cU}{k cu cv:Nat}
abbrev z8:List aB:=j9++[[]]
abbrev wj (k cu cv:Nat):D:=NM k cu cv z8
theorem Iq:Bd 3 z8:=fun x m=>by
 have:(z8.all fun x=>decide (x.length<=3))=true:=by decide +kernel
 exact bJ (br this x m)
theorem Je (h:x.length<=3):x∈z8:=by
 rcases bA (show x∈[]::j9 from nq h)with rfl|m
 .exact hJ _ (.head _)
 .exact ij _ m
theorem mF (Q:fN k cu cv):Ib k cu cv (wj k cu cv):=fun x h=>(M9 Q (l:=z8) fun x m=>aJ (Iq x m) (by decide)).at_ x (Je h)
theorem Mn (F:Facts S)(Q:fN k cu cv)(g47:ρ.get 47=some (ae k))(g96:ρ.get 96=some (a6 cu cv j9)):ex S ρ Mm=some (.n (ρ.set 66 (wj k cu cv))):=by have hs:dk S ρ (.e (.b .Add (.v 96) (.i (.c (.l (.str "")) .n))))=some (z8.map fun x=>aj (tw cu cv x)):=bi (jW (m:=[[]]) (aa g96) rfl (by decide)) rfl;refine aK (Gf hs (by decide) fun x m=>?_);have hx:=Iq x m;have h150:x.length<=150:=aJ hx (by decide);exact⟨aa an,aX (ah (aa (cm rfl (nj rfl g47))) (ah (aa an) aw)) (Q.written F h150),GJ Q h150,zo Q h150⟩
theorem Mp (F:Facts S)(Q:fN k cu cv)(g47:ρ.get 47=some (ae k))(g96:ρ.get 96=some (a6 cu cv j9))(g66:ρ.get 66=some (wj k cu cv)):ex S ρ Mo=some (.n ρ):=by have key:=lk (S:=S) (ρ:=ρ) (elt:=.v 3) (c:=.q .NotEq (.s (.v 66) (.v 3)) (.c 48 (.c (.v 47) (.c (.v 3) .n)))) (tg:=[3]) (src:=.e (.v 96)) (l:=j9) (i:=fun x=>aj (tw cu cv x)) (g:=fun x=>aj (tw cu cv x)) (p:=fun _=>false) (de g96) fun x m=>⟨(ρ.del ([3]++[])).set 3 (aj (tw cu cv x)),rfl,by have hx:=Iq x (ij _ m);exact av (bk (aa (cm rfl (nj rfl g66))) (aa an) (mF Q x hx)) (aX (ah (aa (cm rfl (nj rfl g47))) (ah (aa an) aw)) (Q.spelled F (aJ hx (by decide)))) (Ca _),fun h=>nomatch h⟩;rw[List.filter_eq_nil_iff.mpr fun _ _=>g6]at key;exact ct (av key rfl rfl) rfl
def Hz:List aB:=j9++List.replicate 14 []
noncomputable def DX (c1:Nat):aN:=[0,1,2,3,4].map fun j=>c1 / 18^j % 18
def aZ (c1 c2:Nat):List aB:=eu (DX c1) (Hz.getD (c2 % 28) [])
theorem yK (c2:Nat):Hz[c2 % 28]?=some (Hz.getD (c2 % 28) []):=by
 have hl:Hz.length=28:=by decide +kernel
 have:=Nat.mod_lt c2 (show 0<28 by decide);rw[List.getD_eq_getElem?_getD,List.getElem?_eq_getElem (by rw[hl];exact this)];rfl
theorem pg (c2:Nat):(Hz.getD (c2 % 28) []).length<=3:=by
 have:(Hz.all fun x=>decide (x.length<=3))=true:=by decide +kernel
 exact bJ (br this _ (qw (yK c2)))
theorem Mr (F:i9 S)(Q:fN k cu cv)(g87:ρ.get 87=some (.list ([c0,c1,c2].map ae)))(g58:ρ.get 58=some (aj [cu,cv]))(g96:ρ.get 96=some (a6 cu cv j9)):ex S ρ Mq=some (.n (ρ.set 52 (a6 cu cv (aZ c1 c2)))):=by
 have e1:=cH (S:=S) (ρ:=ρ) (elt:=.b .Mod (.b .FloorDiv (.s (.v 87) (.l (.int 1))) (.b .Pow (.l (.int 18)) (.v 75))) (.l (.int 18))) (tg:=[75]) (src:=.r (.c (.l (.int 5)) .n)) (l:=List.range 5) (i:=ae) (g:=fun j=>ae (c1 / 18^j % 18)) (mJ (ar (d:=ae 5)) (by decide)) fun j mj=>⟨(ρ.del ([75]++[])).set 75 (ae j),rfl,by have hj:j<=5:=il (List.mem_range.mp mj);have q87:((ρ.del ([75]++[])).set 75 (ae j)).get 87=some (.list ([c0,c1,c2].map ae)):=cm rfl (nj rfl g87);have h18:(18:Nat)^j<2^60:=lC (Nat.pow_le_pow_right (by decide) hj) (by decide);have i18:ib ((18:Nat):Int)<=5:=qZ (by decide);have:=Nat.mul_le_mul i18 hj;exact aC (aC (dJ (i:=1) q87 rfl) (aC (ar (d:=ae 18)) (aa an) (zz (aJ this (by decide)))) (ia (Nat.pow_pos (by decide)) h18)) (ar (d:=ae 18)) (dT (by decide))⟩;have e2:ev S ρ (.b .Add (.v 96) (.b .Mult (.i (.c (.l (.str "")) .n)) (.l (.int 14))))=some (a6 cu cv Hz) :=
  jW (l:=j9) (m:=List.replicate 14 []) (aa g96) (oj (a:=[aj (tw cu cv [])]) (n:=14) rfl (ar (d:=ae 14)) (by decide) (oF rfl)) (by decide)
 have e3:=bk e2 (aC (dJ (i:=2) g87 rfl) (ar (d:=ae 28)) (dT (by decide))) (hH (d:=aj (tw cu cv (Hz.getD (c2 % 28) []))) (by rw[List.getElem?_map,yK];rfl));exact aK (aX (ah (aa g58) (ah e1 (ah e3 aw))) (F.c51 cu cv (DX c1) _ Q.code_ne (fc 5)))
theorem Ji:(Dt.all fun C=>(EM C).all fun C=>!Nat.beq C 0)=true:=by decide +kernel
theorem EV (hs:s.length<=3):ue 13 (eu [a,b,c,d,e] s):=by
 obtain⟨m,W⟩:=sX (a:=a) (b:=b) (c:=c) (d:=d) (e:=e);have z:=br (br Ji _ m) _ (pM (fun x mx=>(W.sz x mx).2) hs);refine⟨fun q=>?_, ?_, ?_⟩
 .have:eu [a,b,c,d,e] s=[]:=q;unfold eu at this;rw[this]at z;exact Bool.noConfusion z
 .unfold eu kM;by_cases c0:s=[]
  .rw[if_pos c0];exact Nat.le_succ_of_le W.len
  rw[if_neg c0];by_cases c1:s∈[a,b,c,d,e].foldl fg [[false],[true]]
  .rw[if_pos c1];exact Nat.le_succ_of_le (aJ (List.length_filter_le _ _) W.len)
  .rw[if_neg c1,dR];exact Nat.succ_le_succ W.len
 .unfold eu kM;by_cases c0:s=[]
  .rw[if_pos c0];exact W.sz
  rw[if_neg c0];by_cases c1:s∈[a,b,c,d,e].foldl fg [[false],[true]]
  .rw[if_pos c1];exact fun x mx=>W.sz x (List.mem_filter.mp mx).1
  .rw[if_neg c1];intro x mx;rcases cy mx with mx|mx
   .exact W.sz x mx
   .rw[aS mx];exact⟨List.length_pos_iff.mpr c0,hs⟩
theorem wh (c1 c2:Nat):ue 13 (aZ c1 c2):=EV (pg c2)
theorem gj (c1 c2:Nat):∀x∈aZ c1 c2,1<=x.length/\x.length<=3:=(wh c1 c2).sz
theorem DQ (h:gn false (aZ c1 c2) b)(h':gn true (aZ c1 c2) c):b=c:=Ad (gj c1 c2) h h' (rT (pg c2)) (rM (pg c2))
theorem Nb (h:gn false (aZ c1 c2) only)(hg:na (aZ c1 c2) g)(hp:1<=p)(hq:1<=q) :
  (only=true/\g=none/\((aZ c1 c2).map (EX p q)).sum=(p+q)^3)\/(only=true/\g≠none/\((aZ c1 c2).map (EX p q)).sum<(p+q)^3)\/(only=false/\(g≠none\/((aZ c1 c2).map (EX p q)).sum≠(p+q)^3)) :=
 Gy (wh c1 c2).ne (gj c1 c2) (EU _ _) (rT (pg c2)) (rM (pg c2)) h hg hp hq
theorem Kf (F:i9 S)(Q:fN k cu cv)(y:g5 (wr k cu) (wr k cv))(g66:ρ.get 66=some (wj k cu cv))(g52:ρ.get 52=some (a6 cu cv (aZ c1 c2))) :
  ∃only,ex S ρ H5=some (.n (ρ.set 89 (.bool only)))/\gn false (aZ c1 c2) only/\ex S (ρ.set 89 (.bool only)) H6=some (.n (ρ.set 89 (.bool only))):=by
 have W:=wh c1 c2;have hb:Bd 3 (aZ c1 c2):=fun x m=>(gj c1 c2 x m).2;have wl:=W.len;obtain⟨b,b1,b2⟩:=F.c59 k cu cv (wj k cu cv) (aZ c1 c2) false Q y (mF Q) hb (aJ wl (by decide));obtain⟨c,d1,d2⟩:=F.c59 k cu cv (wj k cu cv) (aZ c1 c2) true Q y (mF Q) hb (aJ wl (by decide));have e:=DQ b2 d2;subst e;refine⟨b,aK (aX (ah (aa g66) (ah (aa g52) (ah ar aw))) b1),b2, ?_⟩;generalize hρ:ρ.set 89 (.bool b)=ρ';have q89:ρ'.get 89=some (.bool b):=by rw[<- hρ];exact an
 have q66:ρ'.get 66=some (wj k cu cv):=by rw[<- hρ];exact cm rfl g66
 have q52:ρ'.get 52=some (a6 cu cv (aZ c1 c2)):=by rw[<- hρ];exact cm rfl g52
 refine ct (Jn (av (aa q89) ar (by cases b <;> rfl)) (av (aX (ah (aa q66) (ah (aa q52) (ah ar aw))) d1) (aa q89) ?_)) rfl;rw[y7];cases b <;> rfl
theorem Kg (Q:fN k cu cv)(g66:ρ.get 66=some (wj k cu cv))(g58:ρ.get 58=some (aj [cu,cv])):ex S ρ E0=some (.n (ρ.set 95 (.list ((KD k cu cv).map ae)))):=by refine aK ?_;have key:=cH (S:=S) (ρ:=ρ) (elt:=.f .len (.c (.s (.v 66) (.v 50)) .n)) (tg:=[50]) (src:=.e (.v 58)) (l:=[false,true]) (i:=fun s=>aj (tw cu cv [s])) (g:=fun s=>ae (ww k cu cv [s]).length) (iq g58) fun s _=>⟨(ρ.del ([50]++[])).set 50 (aj (tw cu cv [s])),rfl,yN (bk (aa (cm rfl (nj rfl g66))) (aa an) (mF Q [s] (by show 1<=3;decide)))⟩;rw[key];show some (PyData.list [ae (ww k cu cv [false]).length,ae (ww k cu cv [true]).length])=_;rw[yd,yd];rfl
theorem kI (ha:a<=12)(he:e<=3):a^e<=1728:=aJ (Nat.pow_le_pow_left ha e) (aJ (Nat.pow_le_pow_right (by decide) he) (by decide))
theorem tz (ha:a<=12)(he:e<=3):eE .Pow (ae a) (ae e)=some (ae (a^e)):=Jq ha (aJ he (by decide))
abbrev nS (k cu cv c1 c2:Nat):Nat:=((aZ c1 c2).map (EX (wr k cu).length (wr k cv).length)).sum
noncomputable abbrev LX:E:=.f .sum (.c (.v 95) .n)
theorem yO (g95:ρ.get 95=some (.list ((KD k cu cv).map ae))):ev S ρ LX=some (ae ((wr k cu).length+(wr k cv).length)):=sG (ah (aa g95) aw) (yP _)
theorem Kh (Q:fN k cu cv)(g52:ρ.get 52=some (a6 cu cv (aZ c1 c2)))(g58:ρ.get 58=some (aj [cu,cv]))(g95:ρ.get 95=some (.list ((KD k cu cv).map ae))):ex S ρ E2=some (.n (ρ.set 94 (ae (nS k cu cv c1 c2)))):=by
 obtain⟨⟨u1,u2⟩,v1,v2⟩:=Q.size;have key:=cH (S:=S) (ρ:=ρ) (elt:=.b .Mult (.b .Mult (.b .Pow (.s (.v 95) (.l (.int 0))) (.m .count (.v 3) (.c (.s (.v 58) (.l (.int 0))) .n))) (.b .Pow (.s (.v 95) (.l (.int 1))) (.m .count (.v 3) (.c (.s (.v 58) (.l (.int 1))) .n)))) (.b .Pow (.f .sum (.c (.v 95) .n)) (.b .Sub (.l (.int 3)) (.f .len (.c (.v 3) .n))))) (tg:=[3]) (src:=.e (.v 52)) (l:=aZ c1 c2) (i:=fun x=>aj (tw cu cv x)) (g:=fun x=>ae (EX (wr k cu).length (wr k cv).length x)) (de g52) fun x m=>⟨(ρ.del ([3]++[])).set 3 (aj (tw cu cv x)),rfl,by
  obtain⟨x1,x3⟩:=gj c1 c2 x m;generalize hρ':(ρ.del ([3]++[])).set 3 (aj (tw cu cv x))=ρ';have q3:ρ'.get 3=some (aj (tw cu cv x)):=by rw[<- hρ'];exact an
  have q58:ρ'.get 58=some (aj [cu,cv]):=by rw[<- hρ'];exact cm rfl (nj rfl g58)
  have q95:ρ'.get 95=some (.list ((KD k cu cv).map ae)):=by rw[<- hρ'];exact cm rfl (nj rfl g95)
  have k1:x.count false<=3:=aJ List.count_le_length x3;have k2:x.count true<=3:=aJ List.count_le_length x3;have n0:ev S ρ' (.m .count (.v 3) (.c (.s (.v 58) (.l (.int 0))) .n))=some (ae (x.count false)):=by refine sJ (aa q3) (ah (bk (d:=aj [cu]) (aa q58) ar rfl) aw) ?_;rw[vu,(wb Q.code_ne _).1]
  have n1:ev S ρ' (.m .count (.v 3) (.c (.s (.v 58) (.l (.int 1))) .n))=some (ae (x.count true)):=by refine sJ (aa q3) (ah (bk (d:=aj [cv]) (aa q58) ar rfl) aw) ?_;rw[vu,(wb Q.code_ne _).2]
  have u12:(wr k cu).length<=12:=aJ u2 (by decide);have v12:(wr k cv).length<=12:=aJ v2 (by decide);have uv:(wr k cu).length+(wr k cv).length<=12:=qx u2 v2;have m:∀{a b m:Nat},a<=m->b<=m->m*m<2^64->a<2^64/\b<2^64:=fun{a b m} p q r=>by have t:m<=m*m:=Nat.le_mul_self m;exact⟨lC (aJ p t) r,lC (aJ q t) r⟩
  have b0:=kI (e:=x.count false) u12 k1;have b1:=kI (e:=x.count true) v12 k2;have b2:=kI (e:=3-x.length) uv (Nat.sub_le _ _);have b01':=Nat.mul_le_mul b0 b1;have c1:=m b0 b1 (by decide);have c2:=m b01' (aJ b2 (by decide)) (by decide);exact aC (aC (aC (dJ (i:=0) q95 rfl) n0 (tz u12 k1)) (aC (dJ (i:=1) q95 rfl) n1 (tz v12 k2)) (jG c1.1 c1.2))
   (aC (yO q95) (aC (ar (d:=ae 3)) (jI (aa q3)) (ge x3)) (tz uv (Nat.sub_le _ _))) (jG c2.1 c2.2)⟩
 have e:((aZ c1 c2).map fun x=>ae (EX (wr k cu).length (wr k cv).length x))=((aZ c1 c2).map (EX (wr k cu).length (wr k cv).length)).map ae:=by rw[kR];rfl
 rw[e]at key;exact aK (sG (ah key aw) (yP _))
abbrev kH (k cu cv:Nat):Nat:=((wr k cu).length+(wr k cv).length)^3
theorem Ki (Q:fN k cu cv)(g94:ρ.get 94=some (ae T))(g95:ρ.get 95=some (.list ((KD k cu cv).map ae))):ex S ρ E3=some (.n (ρ.set 60 (.list ((HW T (kH k cu cv)).map MQ)))):=by obtain⟨⟨u1,u2⟩,v1,v2⟩:=Q.size;have hp:ev S ρ (.b .Pow LX (.l (.int 3)))=some (ae (kH k cu cv)):=aC (yO g95) (ar (d:=ae 3)) (tz (qx u2 v2) (fc 3));have ht:=aa (S:=S) g94;exact aK (dB (ah (dW ht hp) (ah (dW (oo ht) hp) (ah (dW ht (oo hp)) (ah (dW (oo ht) (oo hp)) aw)))) (oF rfl))
theorem Ez:∀{l:aN},(∀x∈l,x<=n)->l.sum<=l.length*n
 |[],_=>gL _
 |a::l,h=>by have h1:=h a (.head _);have h2:=Ez (l:=l) fun x m=>h x (.tail _ m);rw[List.sum_cons,sW,Nat.succ_mul,Nat.add_comm];exact qx h2 h1
theorem Hm (Q:fN k cu cv)(c1 c2:Nat):nS k cu cv c1 c2<=13*(1728*1728*1728):=by
 obtain⟨⟨u1,u2⟩,v1,v2⟩:=Q.size;refine aJ (Ez (n:=1728*1728*1728) fun n m=>?_) (oG _ ?_)
 .obtain⟨x,mx,rfl⟩:=iz m;obtain⟨x1,x3⟩:=gj c1 c2 x mx;exact Nat.mul_le_mul (Nat.mul_le_mul (kI (aJ u2 (by decide)) (aJ List.count_le_length x3)) (kI (aJ v2 (by decide)) (aJ List.count_le_length x3))) (kI (qx u2 v2) (Nat.sub_le _ _))
 .rw[dx];exact(wh c1 c2).len
theorem Jr (Q:fN k cu cv)(hT:T<=13*(1728*1728*1728)):0<kH k cu cv/\∀p∈HW T (kH k cu cv),p.2≠0/\Sm 64 p.1/\Sm 64 p.2:=by
 obtain⟨⟨u1,u2⟩,v1,v2⟩:=Q.size;have h0:0<kH k cu cv:=Nat.pow_pos (Nat.add_pos_left u1 _);have hP:kH k cu cv<=1728:=kI (qx u2 v2) (fc 3);refine⟨h0,fun p m=>?_⟩;generalize kH k cu cv=P at h0 m hP;have sm:∀{n:Nat},n<=13*(1728*1728*1728)->Sm 64 (n:Int)/\Sm 64 (-(n:Int)):=fun{n} h=>by unfold Sm;rw[Int.natAbs_neg,Int.natAbs_natCast];exact⟨lC h (by decide),lC h (by decide)⟩
 obtain⟨t1,t2⟩:=sm hT;obtain⟨p1,p2⟩:=sm (aJ hP (by decide));have n1:(P:Int)≠0:=Int.ofNat_ne_zero.mpr (Nat.ne_of_gt h0);have n2 : -(P:Int)≠0:=Int.neg_ne_zero.mpr n1;unfold HW at m;rcases bA m with rfl|m
 .exact⟨n1,t1,p1⟩
 rcases bA m with rfl|m
 .exact⟨n1,t2,p1⟩
 rcases bA m with rfl|m
 .exact⟨n2,t1,p2⟩
 obtain rfl:=aS m;exact⟨n2,t2,p2⟩
theorem Kj (F:Facts S){qs:List (Int × Int)}(g60:ρ.get 60=some (.list (qs.map MQ)))(h:∀p∈qs,p.2≠0/\Sm 64 p.1/\Sm 64 p.2):ex S ρ E4=some (.n (ρ.set 65 (.list (qs.map wY)))):=
 aK (cH (bi (aa g60) rfl) fun p m=>⟨((ρ.del ([91,92]++[])).set 91 (.int p.1)).set 92 (.int p.2),rfl,aX (ah (aa (cm rfl an)) (ah (aa an) aw)) (by rw[F.c31];exact CY (h p m).1 ((h p m).2.1.mono (by decide)) ((h p m).2.2.mono (by decide)))⟩)
theorem Kk (F:i9 S)(g94:ρ.get 94=some (ae T)):ex S ρ E5=some (.n (ρ.set 93 (.bool true))):=bi (ah (aa g94) (ah ar aw)) (if_pos (by rw[F.rz];rfl))
noncomputable abbrev HU:Gs:=.c [90] (.e (.v 65)) .n (.c [57] (.e (.v 90)) (.c (.o .Or (.c (.isb (.v 57)) (.c (.z (.isi (.v 57))) .n))) .n) .n)
theorem Gg {qs:List (Int × Int)}(g65:ρ.get 65=some (.list (qs.map wY))):ev S ρ (.p (.v 57) HU)=some (.list []):=by
 refine bi (x:=[]) (bi (x:=qs.map wY) (bi (aa g65) rfl) (ko fun a m=>?_)) (if_pos (by rfl));obtain⟨p,_,rfl⟩:=iz m;refine bi (x:=(ρ.del (j1 HU)).set 90 (wY p)) rfl (bi (x:=true) rfl ?_);refine bi (x:=[.int (p.1.fdiv p.2), .int (p.1.fmod p.2)]) (bi (aa an) rfl) (ko fun b mb=>?_);obtain⟨i,rfl⟩:∃i,b=PyData.int i:=by
  rcases bA mb with rfl|mb
  .exact⟨_,rfl⟩
  .exact⟨_,aS mb⟩
 refine bi (x:=aF.set _ 57 (.int i)) rfl (bi (x:=false) ?_ rfl);have v:∀{ρ:aF},ev S (ρ.set 57 (.int i)) (.v 57)=some (.int i):=aa an;have e1:∀{ρ:aF},evT S (ρ.set 57 (.int i)) (.isb (.v 57))=some false:=bi (x:=.bool false) (bi v rfl) rfl;have e0:∀{ρ:aF},evT S (ρ.set 57 (.int i)) (.isi (.v 57))=some true:=bi (x:=.bool true) (bi v rfl) rfl;exact bi (Jn e1 (CF e0)) rfl
theorem Kl {qs:List (Int × Int)}(g93:ρ.get 93=some (.bool true))(g60:ρ.get 60=some (.list (qs.map MQ)))(g65:ρ.get 65=some (.list (qs.map wY)))(h:∀p∈qs,p.2≠0/\Sm 64 p.1/\Sm 64 p.2):ex S ρ E6=some (.n ρ):=by
 have hc:ev S ρ (.p (.t (.c (.b .FloorDiv (.v 91) (.v 92)) (.c (.b .Mod (.v 91) (.v 92)) .n))) (.c [91,92] (.e (.v 60)) .n .n))=some (.list (qs.map wY)) :=
  cH (bi (aa g60) rfl) fun p m=>⟨((ρ.del ([91,92]++[])).set 91 (.int p.1)).set 92 (.int p.2),rfl,by
   obtain⟨h0,_,h2⟩:=h p m;have a:=aa (S:=S) (db (n:=91) (k:=92) (e:=.int p.2) (by decide) (an (ρ:=ρ.del ([91,92]++[])) (n:=91) (d:=.int p.1)));have b:=aa (S:=S) (an (ρ:=(ρ.del ([91,92]++[])).set 91 (.int p.1)) (n:=92) (d:=.int p.2));refine dW (aC a b ?_) (aC a b ?_)
   .have hl:p.2.natAbs.log2<9000:=by have h2':p.2.natAbs<2^64:=h2;rw[Nat.log2_lt (Int.natAbs_ne_zero.mpr h0)];exact kS h2' (Nat.pow_le_pow_right (by decide) (by decide))
    show(if p.2 != 0&&decide (p.2.natAbs.log2<9000)then some (PyData.int (p.1.fdiv p.2))else none)=_;rw[if_pos (by rw[bne_iff_ne.mpr h0,dg hl];rfl)]
   .show(if p.2 != 0 then some (PyData.int (p.1.fmod p.2))else none)=_;rw[if_pos (bne_iff_ne.mpr h0)]⟩
 exact ct (Nn (CF (b:=true) (bi g93 rfl)) (av (aa g65) hc (uq (FV qs) (yL qs))) (av (Gg g65) rfl rfl)) rfl
theorem Km {ρ:aF}(g65:ρ.get 65=some (.list ((HW T P).map wY))):ex S ρ E7=some (.n (ρ.set 88 (iW (T:Int) (P:Int)))):=aK (bk (aa g65) (ar (d:=ae 0)) (hH rfl))
theorem Kn (F:i9 S)(Q:fN k cu cv)(g58:ρ.get 58=some (aj [cu,cv]))(g52:ρ.get 52=some (a6 cu cv (aZ c1 c2))):∃g,ex S ρ E8=some (.n (ρ.set 86 (qv cu cv g)))/\na (aZ c1 c2) g:=by have W:=wh c1 c2;obtain⟨g,h1,h2⟩:=F.c69 cu cv (aZ c1 c2) Q.code_ne ⟨W.ne,aJ W.len (by decide),W.sz⟩;exact⟨g,aK (aX (ah (aa g58) (ah (aa g52) aw)) h1),h2⟩
def M5 (only:Bool)(g:Option aB)(T P:Nat):Prop:=(only=true/\g=none/\T=P)\/(only=true/\g≠none/\T<P)\/(only=false/\(g≠none\/T≠P))
theorem CZ {T P:Nat}(hP:0<P):bH .Eq (iW (T:Int) (P:Int)) (.tuple [.int 1, .int 0])=some (.bool (decide (T=P))):=by
 have e:bH .Eq (iW (T:Int) (P:Int)) (.tuple [.int 1, .int 0])=some (.bool (((T:Int).fdiv P==1)&&(((T:Int).fmod P==0)&&true))):=by show(if gc 8 (iW (T:Int) (P:Int))&&gc 8 (.tuple [.int 1, .int 0])then some (PyData.bool (PyData.eqv (iW (T:Int) (P:Int)) (.tuple [.int 1, .int 0])))else none)=_;rw[if_pos (by rfl)];simp only[iW,PyData.eqv,PyData.eqvAll]
 rw[e]
 congr 2
 have hd:=Int.mul_fdiv_add_fmod (T:Int) (P:Int);rw[Bool.and_true,Bool.eq_iff_iff,eO,beq_iff_eq,beq_iff_eq,jE];constructor
 .rintro ⟨a,b⟩
  rw[a,b,Int.mul_one,Int.add_zero]at hd;exact(Int.ofNat.inj hd).symm
 .rintro rfl
  have h0:(T:Int)≠0:=Int.ofNat_ne_zero.mpr (Nat.ne_of_gt hP);exact⟨Int.fdiv_self h0,Int.fmod_self⟩
theorem IW {T P:Nat}(hP:0<P):bH .NotEq (iW (T:Int) (P:Int)) (.tuple [.int 1, .int 0])=some (.bool (!decide (T=P))):=by
 have e:=CZ (T:=T) hP;have e1:bH .Eq (iW (T:Int) (P:Int)) (.tuple [.int 1, .int 0])=some (.bool (PyData.eqv (iW (T:Int) (P:Int)) (.tuple [.int 1, .int 0]))):=by show(if gc 8 (iW (T:Int) (P:Int))&&gc 8 (.tuple [.int 1, .int 0])then some (PyData.bool (PyData.eqv (iW (T:Int) (P:Int)) (.tuple [.int 1, .int 0])))else none)=_;rw[if_pos (by rfl)]
 have e2:bH .NotEq (iW (T:Int) (P:Int)) (.tuple [.int 1, .int 0])=some (.bool (!PyData.eqv (iW (T:Int) (P:Int)) (.tuple [.int 1, .int 0]))):=by show(if gc 8 (iW (T:Int) (P:Int))&&gc 8 (.tuple [.int 1, .int 0])then some (PyData.bool (!PyData.eqv (iW (T:Int) (P:Int)) (.tuple [.int 1, .int 0])))else none)=_;rw[if_pos (by rfl)]
 rw[e1]at e;rw[e2,PyData.bool.inj (aG e)]
theorem GG (h:(a=true/\b=true/\c=true)\/(a=true/\b=false/\c=false)\/(a=false/\(b=false\/c=false))):bH .Eq (ae ([a,b,c].countP (· == true))) (ae 2)=some (.bool false):=by
 rcases h with⟨rfl,rfl,rfl⟩|⟨rfl,rfl,rfl⟩|⟨rfl,rfl|rfl⟩
 .rfl
 .rfl
 .cases c <;> rfl
 .cases b <;> rfl
theorem Ko {ρ:aF}{g:Option aB}{T P:Nat}(hP:0<P)(g89:ρ.get 89=some (.bool only))(g86:ρ.get 86=some (qv cu cv g))(g88:ρ.get 88=some (iW (T:Int) (P:Int)))(h:M5 only g T P):ex S ρ E9=some (.n ρ):=by
 have h1:ev S ρ (.q .Is (.v 86) (.l .none))=some (.bool g.isNone):=jH (aa g86) ar (by cases g <;> rfl);have h2:ev S ρ (.q .Eq (.v 88) (.t (.c (.l (.int 1)) (.c (.l (.int 0)) .n))))=some (.bool (decide (T=P))):=jH (y:=.tuple [.int 1, .int 0]) (aa g88) rfl (CZ hP);have h3:=dB (S:=S) (ah (aa g89) (ah h1 (ah h2 aw))) (oF rfl);refine ct (av (sJ h3 (ah ar aw) (AP [only,g.isNone,decide (T=P)])) (ar (d:=ae 2)) (GG ?_)) rfl;rcases h with⟨a,rfl,rfl⟩|⟨a,b,c⟩|⟨a,b⟩
 .exact .inl ⟨a,rfl,dg rfl⟩
 .exact .inr (.inl ⟨a,by cases g with|none=>exact absurd rfl b|some _=>rfl,cG (Nat.ne_of_lt c)⟩)
 .exact .inr (.inr ⟨a,b.elim (fun b=>.inl (by cases g with|none=>exact absurd rfl b|some _=>rfl)) fun c=>.inr (cG c)⟩)
theorem Kq {ρ:aF}{g:Option aB}{T P:Nat}(hP:0<P)(g89:ρ.get 89=some (.bool only))(g88:ρ.get 88=some (iW (T:Int) (P:Int)))(h:M5 only g T P):ex S ρ Fa=some (.n ρ):=by
 refine ct ?_ rfl;have h1:evT S ρ (.v 89)=some only:=bi g89 rfl;have h2:evT S ρ (.q .GtE (.s (.v 88) (.l (.int 0))) (.l (.int 1)))=some (decide ((1:Int)<=(T:Int).fdiv P)):=av (bk (d:=.int ((T:Int).fdiv P)) (aa g88) (ar (d:=ae 0)) rfl) ar (yC _ _);have h3:evT S ρ (.q .NotEq (.v 88) (.t (.c (.l (.int 1)) (.c (.l (.int 0)) .n))))=some (!decide (T=P)):=av (y:=.tuple [.int 1, .int 0]) (aa g88) rfl (IW hP);rcases h with⟨rfl,_,rfl⟩|⟨rfl,_,c⟩|⟨rfl,_⟩
 .rw[dg rfl]at h3;refine bi h1 (bi h2 ?_);cases decide ((1:Int)<=(T:Int).fdiv T)
  .rfl
  .exact bi h3 rfl
 .have e:(T:Int).fdiv P=0:=by rw[Int.fdiv_eq_ediv_of_nonneg _ (Int.natCast_nonneg _)];exact Int.ediv_eq_zero_of_lt (Int.natCast_nonneg _) (Int.ofNat_lt.mpr c)
  rw[e]at h2;exact bi h1 (bi h2 rfl)
 .exact bi h1 rfl
theorem JW (n:Nat):∃t,T4[n % 4]?=some t/\t.length=2:=
 jJ (P:=fun m=>m<4->∃t,T4[m]?=some t/\t.length=2) (fun _=>⟨_,rfl,rfl⟩) (fun _=>⟨_,rfl,rfl⟩) (fun _=>⟨_,rfl,rfl⟩) (fun _=>⟨_,rfl,rfl⟩) (fun h=>absurd h (by decide)) _ (Nat.lt_succ_of_lt (Nat.mod_lt n (by decide))) (Nat.mod_lt n (by decide))
theorem Kr (F:i9 S)(Q:fN k cu cv)(y:g5 (wr k cu) (wr k cv))(g47:ρ.get 47=some (ae k))(g66:ρ.get 66=some (wj k cu cv))(g52:ρ.get 52=some (a6 cu cv (aZ c1 c2)))(g84:ρ.get 84=some (a6 cu cv T4))(g87:ρ.get 87=some (.list ([c0,c1,c2].map ae))):ex S ρ Fb=some (.n ρ):=by
 have W:=wh c1 c2;obtain⟨t,ht,l2⟩:=JW (c2 / 28);have e1:ev S ρ (.s (.v 84) (.b .Mod (.b .FloorDiv (.s (.v 87) (.l (.int 2))) (.l (.int 28))) (.l (.int 4))))=some (aj (tw cu cv t)) :=
  bk (aa g84) (aC (aC (dJ (i:=2) g87 rfl) (ar (d:=ae 28)) (ia (by decide) (by decide))) (ar (d:=ae 4)) (dT (by decide))) (hH (d:=aj (tw cu cv t)) (by rw[List.getElem?_map,ht];rfl))
 have e2:=F.c76 k cu cv (wj k cu cv) (aZ c1 c2) t Q y (mF Q) ⟨W.ne,aJ W.len (by decide),W.sz⟩ l2;exact ct (CF (b:=true) (bi (aX (ah (aa g47) (ah (aa g66) (ah (aa g52) (ah e1 aw)))) e2) rfl)) rfl
noncomputable def kG (ws:List aB):List aB:=ws.flatMap fun x=>ws.map fun y=>x++y
def sY (ws:List aB):aB:=(kG ws).flatten
theorem Ks (F:Facts S)(Q:fN k cu cv)(g47:ρ.get 47=some (ae k))(g52:ρ.get 52=some (a6 cu cv (aZ c1 c2))):ex S ρ Fc=some (.n (ρ.set 85 (aj (ww k cu cv (sY (aZ c1 c2)))))):=by
 have W:=wh c1 c2;have h3:=gj c1 c2;generalize aZ c1 c2=ws at g52 W h3;have l169:(kG ws).length<=169:=aJ (ig (n:=13) fun x _=>by rw[dx];exact W.len) (oG 13 W.len);have key:=sK (S:=S) (ρ:=ρ) (elt:=.b .Add (.v 57) (.v 68)) (tg:=[57]) (tg2:=[68]) (src:=.e (.v 52)) (src2:=.e (.v 52)) (l:=ws) (i:=fun x=>aj (tw cu cv x)) (l2:=fun _=>ws) (i2:=fun _ x=>aj (tw cu cv x)) (g:=fun a b=>aj (tw cu cv (a++b))) (de g52)
  (fun a ma=>by have q52:((ρ.del ([57]++([68]++[]))).set 57 (aj (tw cu cv a))).get 52=some (a6 cu cv ws):=cm rfl (by rw[aF.get_del,if_neg (by decide)];exact g52);exact⟨(ρ.del ([57]++([68]++[]))).set 57 (aj (tw cu cv a)),rfl,de q52,fun b mb=>⟨((ρ.del ([57]++([68]++[]))).set 57 (aj (tw cu cv a))).set 68 (aj (tw cu cv b)),rfl,jC (aa (cm rfl an)) (aa an) (aJ (h3 a ma).2 (by decide)) (aJ (h3 b mb).2 (by decide))⟩⟩)
  (aJ (ig (n:=13) fun x _=>by rw[dx];exact W.len) (aJ (oG 13 W.len) (by decide)))
 have e:(ws.flatMap fun a=>ws.map fun b=>aj (tw cu cv (a++b)))=((kG ws).map (tw cu cv)).map aj:=by unfold kG;rw[List.map_flatMap,List.map_flatMap];refine congrArg (fun f=>ws.flatMap f) (funext fun a=>?_);rw[kR,kR];rfl
 rw[e]at key;have h6:Bd 6 (kG ws):=fun x mx=>by obtain⟨a,ma,mb⟩:=List.mem_flatMap.mp mx;obtain⟨b,mc,rfl⟩:=iz mb;rw[dR];exact qx (h3 a ma).2 (h3 b mc).2
 have hj:=uN key (by rw[dx];exact aJ l169 (by decide)) fun p m=>by obtain⟨x,mx,rfl⟩:=iz m;exact⟨by rw[gI];exact aJ (h6 x mx) (by decide),(Q.ok (x:=x) (aJ (h6 x mx) (by decide))).2⟩
 rw[tQ]at hj;exact aK (aX (ah (aa g47) (ah hj aw)) (Q.writ F (aJ (yR h6) (aJ (oG 6 l169) (by decide)))))
theorem CD (h:ev S ρ e=some (aj x))(hl:x.length<=60000):ev S ρ (.b .Add (.b .Add (.l (.str "...")) e) (.l (.str "...")))=some (aj (be [[],x,[]])):=by rw[KQ];exact((yg.lit.add (⟨h,hl⟩:yg S ρ e x 60000) rfl).add .lit rfl).1
theorem IO (hne:ws≠[])(hb:∀x∈ws,1<=x.length/\x.length<=3):Fr ws []:=by obtain⟨x,mx⟩:=iu hne;exact⟨x,mx,List.nil_prefix,(hb x mx).1⟩
theorem xB:∃rows:List aB,(∀y∈rows,y∈ws)/\rows.flatten=sY ws:=by
 have h1:∀(x:aB)(m:List aB),(m.flatMap fun y=>[x,y]).flatten=(m.map fun y=>x++y).flatten:=fun x m=>by
  induction m with
  |nil=>rfl
  |cons y m ih=>rw[List.flatMap_cons,List.flatten_append,ih,i8,List.flatten_cons];simp
 have h2:∀l:List aB,(l.flatMap fun x=>ws.flatMap fun y=>[x,y]).flatten=(l.flatMap fun x=>ws.map fun y=>x++y).flatten:=fun l=>by
  induction l with
  |nil=>rfl
  |cons x l ih=>rw[List.flatMap_cons,List.flatten_append,ih,h1,List.flatMap_cons,List.flatten_append]
 refine⟨ws.flatMap fun x=>ws.flatMap fun y=>[x,y],fun z m=>?_,h2 ws⟩;obtain⟨x,mx,m⟩:=List.mem_flatMap.mp m;obtain⟨y,my,m⟩:=List.mem_flatMap.mp m;rcases bA m with rfl|m
 .exact mx
 .rw[aS m];exact my
theorem Gp (hne:ws≠[])(hb:∀x∈ws,1<=x.length/\x.length<=3)(h:∀x,¬ Rc ws g x):eQ [] [g] [] (sY ws)=false:=by rw[Bool.eq_false_iff];intro q;obtain⟨a,b,e⟩:=ell_in1.mp q;obtain⟨rows,hr,er⟩:=xB (ws:=ws);rw[<- er]at e;obtain⟨x,hx⟩:=Bc (IO hne hb) (fun x m=>(hb x m).1) hr e;exact h x hx
theorem vt:∀{l:List (List α)},x∈l->∃a b,l.flatten=a++(x++b)
 |y::l,m=>by
  rcases bA m with rfl|m
  .exact⟨[],l.flatten,rfl⟩
  .obtain⟨a,b,e⟩:=vt m;exact⟨y++a,b,by rw[List.flatten_cons,e,List.append_assoc]⟩
theorem J4 (h:∃x,Rc ws [s,t] x):eQ [] [[s,t]] [] (sY ws)=true:=by obtain⟨x,mx,y,my,a,b,e⟩:=xW h;obtain⟨a',b',e'⟩:=vt (l:=kG ws) (x:=x++y) (List.mem_flatMap.mpr ⟨x,mx,List.mem_map.mpr ⟨y,my,rfl⟩⟩);refine ell_in1.mpr ⟨a'++a,b++b', ?_⟩;show(kG ws).flatten=_;rw[e',e];simp only[List.append_assoc]
section
variable (F:Facts S)(Q:fN k cu cv)(y:g5 (wr k cu) (wr k cv))
include F Q y
theorem BS (hg:g.length<=1000):S.cal 32 [aj (be [[],ww k cu cv g,[]]),aj (ww k cu cv m)]=some (.bool (eQ [] [g] [] m)):=
 fN.dots F Q y (p:=[]) (q:=[]) (g:=m) (ms:=[g]) (gL _) (gL _) (fun x mx=>by rw[aS mx];exact hg) (by show 1<=1000;decide)
theorem Kt (hne:ws≠[])(hb:∀x∈ws,1<=x.length/\x.length<=3)(hg:na ws g)(g47:ρ.get 47=some (ae k))(g86:ρ.get 86=some (qv cu cv g))(g85:ρ.get 85=some (aj (ww k cu cv (sY ws)))):ex S ρ Fd=some (.n ρ):=by
 refine ct ?_ rfl;cases g with
 |none=>exact bi (av (t:=false) (aa g86) ar rfl) rfl
 |some g =>
  refine ug (av (aa g86) ar rfl) ?_;have e1:=CD (aX (S:=S) (ah (aa g47) (ah (aa g86) aw)) (Q.writ F (aJ hg.2.1 (by decide)))) (Q.okw2 (aJ hg.2.1 (by decide))).1;have e2:=aX (S:=S) (ah e1 (ah (aa g85) aw)) (BS F Q y hg.2.1);rw[Gp hne hb hg.1]at e2;exact av e2 ar rfl
theorem Ff (h:∀v:aB,v.length<=2->∃x,Rc ws v x)(g84:ρ.get 84=some (a6 cu cv T4))(g66:ρ.get 66=some (wj k cu cv))(g85:ρ.get 85=some (aj (ww k cu cv (sY ws)))):ex S ρ Fe=some (.r (.bool true)):=by
 have key:=lk (S:=S) (ρ:=ρ) (elt:=.v 3) (c:=.q .IsNot (.c 32 (.c (.b .Add (.b .Add (.l (.str "...")) (.s (.v 66) (.v 3))) (.l (.str "..."))) (.c (.v 85) .n))) (.l (.bool true))) (tg:=[3]) (src:=.e (.v 84)) (l:=T4) (i:=fun x=>aj (tw cu cv x)) (g:=fun x=>aj (tw cu cv x)) (p:=fun _=>false) (de g84) fun x m=>⟨(ρ.del ([3]++[])).set 3 (aj (tw cu cv x)),rfl,by
  obtain⟨s,t,rfl⟩:∃s t,x=[s,t]:=by
   rcases bA m with rfl|m
   .exact⟨_,_,rfl⟩
   rcases bA m with rfl|m
   .exact⟨_,_,rfl⟩
   rcases bA m with rfl|m
   .exact⟨_,_,rfl⟩
   .rw[aS m];exact⟨_,_,rfl⟩
  have l2:[s,t].length<=1000:=by show 2<=1000;decide
  have e1:=CD (S:=S) (bk (aa (cm rfl (nj rfl g66))) (aa (an (ρ:=ρ.del ([3]++[])) (n:=3) (d:=aj (tw cu cv [s,t])))) (mF Q [s,t] (by show 2<=3;decide))) (Q.okw2 (aJ l2 (by decide))).1;have e2:=aX (S:=S) (ah e1 (ah (aa (cm rfl (nj rfl g85))) aw)) (BS F Q y l2);rw[J4 (h [s,t] (fc 2))]at e2;exact av e2 ar rfl,fun h=>nomatch h⟩
 rw[List.filter_eq_nil_iff.mpr fun _ _=>g6]at key;exact bE (jH key rfl rfl)
end
theorem Ku (g86:ρ.get 86=some (qv cu cv none)):ex S ρ zZ=some (.n ρ):=ct (bi (av (t:=false) (aa g86) ar rfl) rfl) rfl
theorem Kv (g86:ρ.get 86=some (qv cu cv (some g))):ex S ρ zZ=if g.length<3 then some (.r (.bool true))else some (.n ρ):=by
 have h1:evT S ρ (.q .Lt (.f .len (.c (.v 86) .n)) (.l (.int 3)))=some (decide ((g.length:Int)<3)):=av (jI (x:=g) (aa g86)) ar (gQ _ _);by_cases c:g.length<3
 .rw[if_pos c];rw[dg (show(g.length:Int)<3 from Int.ofNat_lt.mpr c)]at h1;exact jg (ug (av (aa g86) ar rfl) h1) (au (bE ar))
 .rw[if_neg c];rw[cG (show¬ (g.length:Int)<3 from fun q=>c (Int.ofNat_lt.mp q))]at h1;exact ct (ug (av (aa g86) ar rfl) h1) rfl
theorem LY (F:i9 S)(Q:fN k cu cv)(y:g5 (wr k cu) (wr k cv))(g47:ρ.get 47=some (ae k))(g87:ρ.get 87=some (.list ([c0,c1,c2].map ae)))(g58:ρ.get 58=some (aj [cu,cv]))(g84:ρ.get 84=some (a6 cu cv T4))(g66:ρ.get 66=some (wj k cu cv))(g52:ρ.get 52=some (a6 cu cv (aZ c1 c2)))(g89:ρ.get 89=some (.bool only))(ho:gn false (aZ c1 c2) only) :
  dP S ρ (.c E0 (.c E2 (.c E3 (.c E4 (.c H7 (.c E5 (.c E6 (.c E7 (.c E8 (.c E9 (.c Fa (.c Fb (.c Fc (.c Fd (.c zZ (.c Fe .n))))))))))))))))=some (.r (.bool true)):=by
 obtain⟨⟨u1,u2⟩,v1,v2⟩:=Q.size;obtain⟨hP,hqs⟩:=Jr Q (Hm Q c1 c2);have W:=wh c1 c2;refine ag (Kg Q g66 g58) ?_;refine ag (Kh Q (cm rfl g52) (cm rfl g58) an) ?_;refine ag (Ki Q an (cm rfl an)) ?_;refine ag (Kj F.toFacts (qs:=HW (nS k cu cv c1 c2) (kH k cu cv)) an hqs) ?_;refine ag (aK (n:=93) (d:=.bool false) ar) ?_;refine ag (Kk F (T:=nS k cu cv c1 c2) (cm rfl (cm rfl (cm rfl an)))) ?_;refine ag (Kl (qs:=HW (nS k cu cv c1 c2) (kH k cu cv)) an (cm rfl (cm rfl (cm rfl an))) (cm rfl (cm rfl an)) hqs) ?_;refine ag (Km (T:=nS k cu cv c1 c2) (P:=kH k cu cv) (cm rfl (cm rfl an))) ?_;generalize hρ1:((((((ρ.set 95 (.list ((KD k cu cv).map ae))).set 94 (ae (nS k cu cv c1 c2))).set 60 (.list ((HW (nS k cu cv c1 c2) (kH k cu cv)).map MQ))).set 65 (.list ((HW (nS k cu cv c1 c2) (kH k cu cv)).map wY))).set 93 (.bool false)).set 93 (.bool true)).set 88 (iW (nS k cu cv c1 c2:Int) (kH k cu cv:Int))=ρ1;have K:∀{n:Nat}{e:D},(n≠95/\n≠94/\n≠60)/\n≠65/\n≠93/\n≠88->ρ.get n=some e->ρ1.get n=some e:=fun h g=>by rw[<- hρ1];exact db h.2.2.2 (db h.2.2.1 (db h.2.2.1 (db h.2.1 (db h.1.2.2 (db h.1.2.1 (db h.1.1 g))))))
 have q88:ρ1.get 88=some (iW (nS k cu cv c1 c2:Int) (kH k cu cv:Int)):=by rw[<- hρ1];exact an
 have q47:=K (by decide) g47;have q87:=K (by decide) g87;have q84:=K (by decide) g84;have q66:=K (by decide) g66;have q52:=K (by decide) g52;have q89:=K (by decide) g89;have q58:=K (by decide) g58;clear K hρ1 g47 g87 g84 g66 g52 g89 g58;obtain⟨g,e20,hg⟩:=Kn F Q q58 q52;refine ag e20 ?_;have T:M5 only g (nS k cu cv c1 c2) (kH k cu cv):=Nb ho hg u1 v1;refine ag (Ko hP (cm rfl q89) an (cm rfl q88) T) ?_;refine ag (Kq hP (cm rfl q89) (cm rfl q88) T) ?_;refine ag (Kr F Q y (cm rfl q47) (cm rfl q66) (cm rfl q52) (cm rfl q84) (cm rfl q87)) ?_;refine ag (Ks F.toFacts Q (cm rfl q47) (cm rfl q52)) ?_;refine ag (Kt F.toFacts Q y W.ne W.sz hg (cm rfl (cm rfl q47)) (cm rfl an) an) ?_;have r84:((ρ1.set 86 (qv cu cv g)).set 85 (aj (ww k cu cv (sY (aZ c1 c2))))).get 84=some (a6 cu cv T4):=cm rfl (cm rfl q84);have r66:((ρ1.set 86 (qv cu cv g)).set 85 (aj (ww k cu cv (sY (aZ c1 c2))))).get 66=some (wj k cu cv):=cm rfl (cm rfl q66);cases g with
 |none =>
  refine ag (Ku (cm rfl an)) ?_;exact au (Ff F.toFacts Q y (fun v _=>hg v) r84 r66 an)
 |some g =>
  have e26:=Kv (S:=S) (cu:=cu) (cv:=cv) (g:=g) (ρ:=(ρ1.set 86 (qv cu cv (some g))).set 85 (aj (ww k cu cv (sY (aZ c1 c2))))) (cm rfl an);by_cases c:g.length<3
  .rw[if_pos c]at e26;exact au e26
  .rw[if_neg c]at e26;refine ag e26 ?_;exact au (Ff F.toFacts Q y (fun v hv=>hg.2.2 (Nat.le_of_not_lt c) v hv) r84 r66 an)
theorem D9 (F:i9 S)(xs:List Int):aV S Di [.list (xs.map PyData.int)]=some (.bool true):=by
 refine cF rfl ?_;show dP S [(100, .list (xs.map PyData.int))] _=_;refine ag (ρ':=[(100, .list (xs.map PyData.int)),(87, .list ([kY xs 3 194 0,kY xs 3 1219860 1,kY xs 3 14 2].map ae))]) (aK (Au (ps:=[(0,194),(1,1219860),(2,14)]) (by decide) rfl (by decide) (by decide) (by decide) rfl)) ?_;generalize kY xs 3 194 0=c0;generalize kY xs 3 1219860 1=c1;generalize kY xs 3 14 2=c2;generalize PyData.list (xs.map PyData.int)=L;obtain⟨k,ek,hk⟩:∃k,c0 % 5=k/\k<5:=⟨_,rfl,Nat.mod_lt _ (by decide)⟩;obtain⟨i,ei,hi⟩:∃i,c0 / 5 % 8=i/\i<8:=⟨_,rfl,Nat.mod_lt _ (by decide)⟩;have hx:192<=192+c0 / 280 % 55000:=nr _ _;have hx2:192+c0 / 280 % 55000<55296:=kS (Nat.add_lt_add_left (Nat.mod_lt _ (by decide)) 192) (by decide);have hj:(i+1+c0 / 40 % 7) % 8<8:=Nat.mod_lt _ (by decide);have hij:i≠(i+1+c0 / 40 % 7) % 8:=(show∀i<8,∀r<7,i≠(i+1+r) % 8 by decide +kernel) i hi _ (Nat.mod_lt _ (by decide));obtain⟨sg,cu,cv,esg,epr,Q,y⟩:∃sg cu cv,(∀{ρ:aF},ρ.get 87=some (.list ([c0,c1,c2].map ae))->ev S ρ (NT 87)=some sg)/\(∀{ρ:aF},ρ.get 87=some (.list ([c0,c1,c2].map ae))->ρ.get 97=some sg->ρ.get 98=some (ae i)->ev S ρ (NS 87 97 98)=some (aj [cu,cv]))/\fN k cu cv/\g5 (wr k cu) (wr k cv) :=
  ⟨_,_,_,fun g=>IL g,fun g g2 g3=>IK g g2 g3 hi,Ho hk hx hx2 hi hj hij,Hk (vS hk hx hi hj hij) (Ef hk hx hi hj) (Ef hk hx hj hi)⟩
 refine ag (ρ':=[(100,L),(87, .list ([c0,c1,c2].map ae)),(47,ae k)]) (aK (ρ:=[(100,L),(87, .list ([c0,c1,c2].map ae))]) (aC (dJ (i:=0) (cs:=[c0,c1,c2]) rfl rfl) (ar (d:=ae 5)) (ek▸dT (by decide)))) ?_;refine ag (ρ':=[(100,L),(87, .list ([c0,c1,c2].map ae)),(47,ae k),(97,sg)]) (aK (esg rfl)) ?_;refine ag (ρ':=[(100,L),(87, .list ([c0,c1,c2].map ae)),(47,ae k),(97,sg),(98,ae i)]) (aK (aC (aC (dJ (i:=0) (cs:=[c0,c1,c2]) rfl rfl) (ar (d:=ae 5)) (ia (by decide) (by decide))) (ar (d:=ae 8)) (ei▸dT (by decide)))) ?_;refine ag (ρ':=[(100,L),(87, .list ([c0,c1,c2].map ae)),(47,ae k),(97,sg),(98,ae i),(58,aj [cu,cv])]) (aK (epr rfl rfl rfl)) ?_;refine ag (ρ':=[(100,L),(87, .list ([c0,c1,c2].map ae)),(47,ae k),(97,sg),(98,ae i),(58,aj [cu,cv]),(84,a6 cu cv T4)]) (Mj rfl) ?_;refine ag (ρ':=[(100,L),(87, .list ([c0,c1,c2].map ae)),(47,ae k),(97,sg),(98,ae i),(58,aj [cu,cv]),(84,a6 cu cv T4),(96,a6 cu cv j9)]) (Ml rfl rfl) ?_;refine ag (ρ':=[(100,L),(87, .list ([c0,c1,c2].map ae)),(47,ae k),(97,sg),(98,ae i),(58,aj [cu,cv]),(84,a6 cu cv T4),(96,a6 cu cv j9),(66,wj k cu cv)]) (Mn F.toFacts Q rfl rfl) ?_;refine ag (Mp F.toFacts Q rfl rfl rfl) ?_;refine ag (ρ':=[(100,L),(87, .list ([c0,c1,c2].map ae)),(47,ae k),(97,sg),(98,ae i),(58,aj [cu,cv]),(84,a6 cu cv T4),(96,a6 cu cv j9),(66,wj k cu cv),(52,a6 cu cv (aZ c1 c2))]) (Mr F Q (c0:=c0) rfl rfl rfl) ?_;obtain⟨only,e1,e2,e3⟩:=Kf F Q y (c1:=c1) (c2:=c2) (ρ:=[(100,L),(87, .list ([c0,c1,c2].map ae)),(47,ae k),(97,sg),(98,ae i),(58,aj [cu,cv]),(84,a6 cu cv T4),(96,a6 cu cv j9),(66,wj k cu cv),(52,a6 cu cv (aZ c1 c2))]) rfl rfl;refine ag e1 (ag e3 ?_);exact LY F Q y (c0:=c0) (c1:=c1) (c2:=c2) (cm rfl rfl) (cm rfl rfl) (cm rfl rfl) (cm rfl rfl) (cm rfl rfl) (cm rfl rfl) an e2
end
section
theorem fC (h:m≠n):put cal n cf m=cal m:=funext fun _=>if_neg h
theorem oK:put cal n cf n=cf:=funext fun _=>if_pos rfl
theorem kn (h:∀m,m<51->cal m=ic m):Facts ⟨cal,gl,rz⟩ where
 c30:=h 30 (by decide)
 c26:=h 26 (by decide)
 c31:=h 31 (by decide)
 c32:=fun ps g a b c d=>by show cal 32 _=_;rw[h 32 (by decide)];exact B0 ps g a b c d
 c320:=fun x g a=>by show cal 32 _=_;rw[h 32 (by decide)];exact Ae x g a
 c46:=fun k l a b=>by show cal 46 _=_;rw[h 46 (by decide)];exact B1 k l a b
 c48:=fun k l a b=>by show cal 48 _=_;rw[h 48 (by decide)];exact B3 k l a b
def Nx:List D->Option D:=fun ds=>aV ⟨ic,bB,false⟩ hE ds
def MU:Nat->List D->Option D:=put ic 51 Nx
def Ny:List D->Option D:=fun ds=>aV ⟨MU,bB,false⟩ dQ ds
def J6:Nat->List D->Option D:=put MU 59 Ny
def Nz:List D->Option D:=fun ds=>aV ⟨J6,bB,false⟩ jk ds
def H1:Nat->List D->Option D:=put J6 69 Nz
def NA:List D->Option D:=fun ds=>aV ⟨H1,bB,false⟩ eV ds
def Fm:Nat->List D->Option D:=put H1 76 NA
theorem zU (h:m<51):MU m=ic m:=fC (Nat.ne_of_lt h)
theorem Hp (h:m<51):J6 m=ic m:=(fC (Nat.ne_of_lt (Nat.lt_trans h (by decide)))).trans (zU h)
theorem zV (h:m<51):H1 m=ic m:=(fC (Nat.ne_of_lt (Nat.lt_trans h (by decide)))).trans (Hp h)
theorem Hq (h:m<51):Fm m=ic m:=(fC (Nat.ne_of_lt (Nat.lt_trans h (by decide)))).trans (zV h)
theorem Ob:Fm 51=Nx:=(fC (by decide):Fm 51=H1 51).trans ((fC (by decide):H1 51=J6 51).trans ((fC (by decide):J6 51=MU 51).trans oK))
theorem Od:Fm 59=Ny:=(fC (by decide):Fm 59=H1 59).trans ((fC (by decide):H1 59=J6 59).trans oK)
theorem Oe:Fm 69=Nz:=(fC (by decide):Fm 69=H1 69).trans oK
theorem IM:i9 ⟨Fm,bB,true⟩:={ kn (gl:=bB) (rz:=true) fun m h=>Hq h with
 rz:=rfl
 c51:=fun cu cv ns s h hn=>(congrFun Ob _).trans (Bg h hn)
 c59:=fun k cu cv dr ws mir Q y Dd hb hl=>by obtain⟨b,h1,h2⟩:=GV (kn (gl:=bB) (rz:=false) fun m h=>zU h) Q y Dd hb hl (mir:=mir);exact⟨b,(congrFun Od _).trans h1,h2⟩
 c69:=fun cu cv ws h W=>by obtain⟨g,h1,h2⟩:=GU (S:=⟨J6,bB,false⟩) h W;exact⟨g,(congrFun Oe _).trans h1,h2⟩
 c76:=fun k cu cv dr ws two Q y Dd W h2=>(congrFun (oK:Fm 76=NA) _).trans (Eb (kn (gl:=bB) (rz:=false) fun m h=>zV h) Q y Dd W h2) }
section
variable {p prog:Program}{loose:List Str}{mean:ExcName->Option Value}{w:World}{h:Heap}{mg mb:Str->Option Value}{c1 P1 c2 P2:Addr}
theorem l3_pre:∀(i:Nat) (x:Str),gH[i]?=some x->d6[i]?=some x:=fun i x hx=>by
 have hi:i<gH.length:=by
  rcases Nat.lt_or_ge i gH.length with q|q
  .exact q
  .rw[Dm q]at hx;exact nn hx
 unfold d6;rw[List.getElem?_append_left hi];exact hx
theorem law3_at (T:Top p loose mean mg mb h)(hT:TabsAt [(c1,P1),(c2,P2)] h)(hne:P1≠P2)(R:yj p loose d6 (j7 p "_int2digits") (j7 p "_digits2int"))(hc1:iA mg h "_int2digits" c1)(hc2:iA mg h "_digits2int" c2)
  (r51:eW d6 p "_law_words" hE ["pair", "picks", "spare"]=true) (r59:eW d6 p "_law_one_reading" dQ ["dress", "words", "mirrored"]=true) (r69:eW d6 p "_law_gap" jk ["pair", "words"]=true) (r76:eW d6 p "_law_rows_told" eV ["kind", "dress", "words", "two"]=true)
  (rl:eW d6 p "law" Di ["script"]=true){fa:Addr}{s₁:Shared}{vals:fO}{xs:List Int}{Q:ba}{E:ba}(hs:s₁.heap=h)(htk:0<s₁.toks)(hmg:mg "law" = some (.ref fa)) (r:ak w [] h vals [.list (xs.map PyData.int)])
  (q:∀v s',Ext (eU prog w h mg mb c1 P1 c2 P2 (j7 p "_int2digits") (j7 p "_digits2int") d6) s₁ s'->az w [] s'.heap v (.bool true)->Q v s'):wpAny (model prog w) callerA (call (.ref fa) vals) Q E s₁:=by
 have ok:oQ (eU prog w h mg mb c1 P1 c2 P2 (j7 p "_int2digits") (j7 p "_digits2int") d6):=zJ T hT hne R;have gl:gY (eU prog w h mg mb c1 P1 c2 P2 (j7 p "_int2digits") (j7 p "_digits2int") d6) bB:=Eg T hT hne R;have f0:cB (eU prog w h mg mb c1 P1 c2 P2 (j7 p "_int2digits") (j7 p "_digits2int") d6) ic 43 239:=JJ T hT hne R hc1 hc2;have f1:=cB.rc T hT ok gl (n:=51) (cf:=Nx) (by decide) rfl r51 f0 fun ds d e=>e;have f2:=cB.rc T hT ok gl (n:=59) (cf:=Ny) (by decide) rfl r59 f1 fun ds d e=>e;have f3:=cB.rc T hT ok gl (n:=69) (cf:=Nz) (by decide) rfl r69 f2 fun ds d e=>e;have f4:=cB.rc T hT ok gl (n:=76) (cf:=NA) (by decide) rfl r76 f3 fun ds d e=>e;exact JI T hT hne R hs htk (cal:=Fm) f4 (by decide) (by decide) rl hmg r (D9 IM xs) q
end
end
end Internal
end
open PySem PySem.W PySem.W.X PySem.W.ZRun PyProof.Rows PySem.Calls PySem.Spec
set_option maxRecDepth 100000 in
set_option maxHeartbeats 0 in
theorem PySem.Challenge.cw_tc0039_03_holds : PySem.Challenge.rw_tc0039_03.Holds := by
 w_on
 refine holds_law (by decide +kernel) fun said=>?_
 refine holds_openX (q:=Internal.viewOf PySem.Challenge.pw_tc0039_03) (loose:=[]) (Xt:=fun s=>xlAt (Internal.viewOf PySem.Challenge.pw_tc0039_03) [] s&&recOk (RowW.records (PySem.Challenge.rw_tc0039_03).row.toRowW) s) (XP:=XL (Internal.viewOf PySem.Challenge.pw_tc0039_03) []) (Yf:=Internal.obs5) (Ya:=Internal.val5 37 44 375) (N:=2000) ?hl (fun s e=>xl_of s (Bool.and_eq_true_iff.mp e).1) XL.keeps (by rfl) (by rfl) (by rfl) (fun s e=>recFacts_of (Bool.and_eq_true_iff.mp e).2) (by rfl) (by first|assumption|decide +kernel) (by decide +kernel) ⟨rfl,rfl,rfl,rfl,rfl,by decide +kernel⟩ ?hw ?hc
 case hw=>w_witness2
 case hl=>intro w;kernel_rfl
 intro w s₀ s₁ mg mb G y fa o pm cd doc dV kV ho hd hcd hD hmg hg args vals as L hpre hlay hrd hwl hlo
 refine Ground.open G ?_
 intro T B D TE TW
 clear ho hd hcd hD
 wrow_args hpre hlay hrd hwl hlo
 obtain⟨ht,c1,c2,hT,hc1,hc2⟩:=Internal.obs_at y L.keeps T rfl rfl
 have htk:=script_toks L ht
 refine Internal.law3_at T hT (by decide) ?R hc1 hc2 ?r51 ?r59 ?r69 ?r76 ?rl rfl (Nat.lt_of_lt_of_le (by decide) htk) hmg (Internal.script_reps (by assumption) (by assumption) (by lia)) fun v s' x r=>Internal.gc_end hT x r hg (fun _ _=>rfl) (by wrow_post)
 case R=>exact{
  nd:=by decide +kernel
  pre:=Internal.l3_pre
  nb:=by decide +kernel
  nz:=by decide +kernel
  g23:=by kernel_rfl
  g39:=by kernel_rfl
  b:=by decide +kernel
  z:=by decide +kernel
  r12:=by decide +kernel
  r24:=by decide +kernel
  r31:=by decide +kernel
  r32:=by decide +kernel
  r40:=by decide +kernel
  r42:=by decide +kernel
  r43:=by decide +kernel
  r44:=by decide +kernel
  r45:=by decide +kernel
  r46:=by decide +kernel
  r48:=by decide +kernel }
 case r51=>decide +kernel
 case r59=>decide +kernel
 case r69=>decide +kernel
 case r76=>decide +kernel
 case rl=>decide +kernel
