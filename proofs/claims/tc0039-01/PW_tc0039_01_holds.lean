import PyProof.Rows.All
import Wide.All
import OpenK.AllK
import Wide.FinOn
import Lean
import PySem.Challenge.RW_tc0039_01

open PySem PySem.W PyProof.Rows PySem.Calls PySem.Spec
set_option Elab.async false
set_option maxRecDepth 100000
set_option linter.unusedVariables false
set_option linter.unusedSectionVars false
set_option bootstrap.genMatcherCode false
set_option genSizeOf false
set_option genInjectivity false
set_option genCtorIdx false
set_option tactic.hygienic false
namespace Internal
end Internal
namespace Internal
abbrev bg := Value → Shared → Prop
abbrev aG := List Bool
abbrev aH := List Nat
abbrev a9 := List Addr
abbrev eU := List Value
abbrev dU := List Expr
abbrev dY := List Stmt
theorem aV {α : Type u} {a b : α} (h : a ∈ [b]) : a = b := List.mem_singleton.mp h
theorem bM {α : Type u} {a b : α} {l : List α} (h : a ∈ b :: l) : a = b ∨ a ∈ l := List.mem_cons.mp h
theorem dP {α : Type u} (b : α) {a : α} {l : List α} (h : a ∈ l) : a ∈ b :: l := List.mem_cons_of_mem _ h
theorem dX {α : Type u} {a : α} {l : List α} : a ∈ a :: l := List.mem_cons_self
theorem aC {α : Type u} {a b : α} (h : some a = some b) : a = b := Option.some.inj h
theorem bH {a b : Bool} (h : (a && b) = true) : a = true ∧ b = true := Bool.and_eq_true_iff.mp h
theorem eC {α : Type u} [BEq α] [LawfulBEq α] {a b : α} (h : (a == b) = true) : a = b := beq_iff_eq.mp h
theorem dx {α : Type u} {a : α} {l r : List α} (h : a ∈ l ++ r) : a ∈ l ∨ a ∈ r := List.mem_append.mp h
theorem bQ {α : Type u} {p : α → Bool} {l : List α} (h : l.all p = true) : ∀ x ∈ l, p x = true := List.all_eq_true.mp h
theorem gO {α : Type u} {β : Type v} {f : α → β} {l : List α} {b : β} (h : b ∈ l.map f) : ∃ a, a ∈ l ∧ f a = b := List.mem_map.mp h
theorem aN {α β : Type} {M : Model} {A : Around} {E : Value → Shared → Prop} {s : Shared} {m : Sem α} {f : α → Sem β} {Q : β → Shared → Prop} (h : wpAny M A m (fun a s => wpAny M A (f a) Q E s) E s) : wpAny M A (m >>= f) Q E s := wpAny_bind h
theorem bB {α : Type} {M : Model} {A : Around} {E : Value → Shared → Prop} {s : Shared} {a : α} {Q : α → Shared → Prop} (h : Q a s) : wpAny M A (pure a) Q E s := wpAny_pure h
theorem bX {p : Prop} [Decidable p] (h : decide p = true) : p := of_decide_eq_true h
theorem eD {p : Prop} [Decidable p] (h : p) : decide p = true := decide_eq_true h
theorem fH {p : Prop} [Decidable p] (h : ¬p) : decide p = false := decide_eq_false h
theorem kh {p : Prop} [Decidable p] : (decide p = true) = p := decide_eq_true_eq
theorem az {n m k : Nat} (h : n ≤ m) (e : m ≤ k) : n ≤ k := Nat.le_trans h e
theorem iu {n m k : Nat} (h : n < m) (e : m ≤ k) : n < k := Nat.lt_of_lt_of_le h e
theorem fy {n m k : Nat} (h : n ≤ m) (e : m < k) : n < k := Nat.lt_of_le_of_lt h e
theorem gp {n m : Nat} (h : n < m) : n ≤ m := Nat.le_of_lt h
theorem gC (n : Nat) : n ≤ n := Nat.le_refl n
theorem nv (n : Nat) : 0 ≤ n := Nat.zero_le n
theorem je (n k : Nat) : n ≤ n + k := Nat.le_add_right n k
theorem wE {n m : Nat} (k : Nat) (h : n ≤ m) : n * k ≤ m * k := Nat.mul_le_mul_right k h
theorem MO {n m : Nat} (h : Nat.beq n m = true) : n = m := Nat.eq_of_beq_eq_true h
theorem pW {a b c d : Nat} (h : a ≤ b) (e : c ≤ d) : a + c ≤ b + d := Nat.add_le_add h e
theorem lla {α : Type u} {as bs : List α} : (as ++ bs).length = as.length + bs.length := List.length_append
theorem dq {α : Type u} {β : Type v} {l : List α} (f : α → β) : (l.map f).length = l.length := List.length_map f
theorem nR {α : Type u} {a : α} {l : List α} : (a :: l).length = l.length + 1 := List.length_cons
theorem kK {α : Type u} {b : α} (l : List α) {m : List α} (h : b ∈ m) : b ∈ l ++ m := List.mem_append_right l h
theorem mv {α : Type u} {b : α} {l : List α} (m : List α) (h : b ∈ l) : b ∈ l ++ m := List.mem_append_left m h
theorem fU {α : Type u} {β : Type v} {f : α → β} {a : α} {l : List α} : (a :: l).map f = f a :: l.map f := List.map_cons
theorem Ib {α : Type u} {l : List α} {i : Nat} {a : α} (h : l[i]? = some a) : a ∈ l := List.mem_of_getElem? h
theorem fv {α : Type u} {β : Type v} {γ : Type w} {g : β → γ} {f : α → β} {l : List α} : (l.map f).map g = l.map (g ∘ f) := List.map_map
theorem g9 (a b : Bool) : ((a && b) = true) = (a = true ∧ b = true) := Bool.and_eq_true a b
theorem kY {a b : Bool} (h : a = true ∧ b = true) : (a && b) = true := Bool.and_eq_true_iff.mpr h
theorem nP : (false : Bool) ≠ true := Bool.false_ne_true
theorem jR {α : Type u} {x : Array α} : x.toList.length = x.size := Array.length_toList
theorem fO {h : Heap} {a : Addr} {b : Obj} (o : Obj) (e : h.get? a = some b) : (h.push o).get? a = some b := Heap.get?_push_of_some o e
theorem ie (h : Heap) {o : Obj} (e : o.isFreed = false) : (h.push o).get? h.objs.size = some o := Heap.get?_push_size h e
theorem kj (n : Nat) : (n : Int).toNat = n := Int.toNat_natCast n
theorem Ao {α : Type u} {l : List α} {i : Nat} (h : l.length ≤ i) : l[i]? = none := List.getElem?_eq_none h
end Internal
noncomputable section
namespace Internal
section
theorem ff {P:Prop}(h:false=true):P:=Bool.noConfusion h
theorem nn {x:α}{P:Prop}(h:(none:Option α)=some x):P:=Option.noConfusion rfl (heq_of_eq h)
theorem rJ {a b c:Nat}(h:a<=b)(k:Nat.ble b c=true):a<=c:=az h (Nat.le_of_ble_eq_true k)
theorem MA {a b c:Nat}(h:a<=b)(k:Nat.ble (b+1) c=true):a<c:=fy h (Nat.le_of_ble_eq_true k)
theorem Mz {a b c d e:Nat}(h:a<=b)(g:c<=d)(k:Nat.ble (b+d) e=true):a+c<=e:=az (pW h g) (Nat.le_of_ble_eq_true k)
section
variable {α:Type}
noncomputable def aZ (l:List α)(k:α->List α->Bool):Bool:=match l with|x::r=>k x r|[]=>false
@[elab_as_elim] theorem ar {k:α->List α->Bool}{P:List α->Prop}(h:aZ l k=true)(q:∀x r,k x r=true->P (x::r)):P l:=by
 cases l with
 |nil=>exact ff h
 |cons x r=>exact q x r h
noncomputable def bK (l:List α)(k:Bool):Bool:=match l with|[]=>k|_::_=>false
@[elab_as_elim] theorem aJ {k:Bool}{P:List α->Prop}(h:bK l k=true)(q:k=true->P []):P l:=by
 cases l with
 |nil=>exact q h
 |cons x r=>exact ff h
noncomputable def gF (l:Option α)(k:Bool):Bool:=match l with|none=>k|some _=>false
@[elab_as_elim] theorem cZ {k:Bool}{P:Option α->Prop}(h:gF l k=true)(q:k=true->P none):P l:=by
 cases l with
 |none=>exact q h
 |some x=>exact ff h
noncomputable def fQ (l:Option α)(k:α->Bool):Bool:=match l with|some x=>k x|none=>false
theorem AG {l:Option α}{k:α->Bool}(h:fQ l k=true):∃x,l=some x/\k x=true:=by
 cases l with
 |none=>exact ff h
 |some x=>exact⟨x,rfl,h⟩
@[elab_as_elim] theorem da {k:α->Bool}{P:Option α->Prop}(h:fQ l k=true)(q:∀x,k x=true->P (some x)):P l:=by
 cases l with
 |none=>exact ff h
 |some x=>exact q x h
noncomputable def Dq {β:Type}[DecidableEq β](a b:β)(k:Bool):Bool:=if a=b then k else false
@[elab_as_elim] theorem rX [DecidableEq β] {k:Bool}{P:β->Prop}(h:Dq a b k=true)(q:k=true->P b):P a:=by
 unfold Dq at h;by_cases e:a=b
 .rw[if_pos e]at h;exact e▸q h
 .rw[if_neg e]at h;exact ff h
noncomputable def tE (l:Const)(k:Str->Bool):Bool:=match l with|.str x=>k x|_=>false
@[elab_as_elim] theorem jB {k:Str->Bool}{P:Const->Prop}(h:tE l k=true)(q:∀x,k x=true->P (.str x)):P l:=by
 cases l with
 |str x=>exact q x h
 |_=>exact ff h
noncomputable def Mp (l:ExceptHandler)(k:Option Expr->Option Str->dY->Pos->Bool):Bool:=match l with|.ExceptHandler a b c d=>k a b c d
@[elab_as_elim] theorem Dr {k:Option Expr->Option Str->dY->Pos->Bool}{P:ExceptHandler->Prop}(h:Mp l k=true)(q:∀a b c d,k a b c d=true->P (.ExceptHandler a b c d)):P l:=by
 cases l with
 |ExceptHandler a b c d=>exact q a b c d h
theorem both (h:(a&&b)=true):a=true/\b=true:=bH h
theorem JT {p:Prop}(h:false=true):p:=Bool.noConfusion h
end
theorem dt [Decidable c]{f:c->Bool}(h:(if x:c then f x else false)=true):∃x:c,f x=true:=by
 by_cases x:c
 .exact⟨x,by rw[dif_pos x]at h;exact h⟩
 .rw[dif_neg x]at h;exact JT h
noncomputable def bD (e:Expr)(k:Str->Pos->Bool):Bool:=if h:e.ctorIdx=23 then Expr.Name.elim (motive_1:=fun _=>Bool) e h k else false
@[elab_as_elim] theorem aF {k:Str->Pos->Bool}{P:Expr->Prop}(h:bD e k=true)(q:∀x0 x1,k x0 x1=true->P (.Name x0 x1)):P e :=
 let⟨x,hx⟩:=dt h
 Expr.Name.elim (motive_1:=fun e=>∀x:e.ctorIdx=23,Expr.Name.elim (motive_1:=fun _=>Bool) e x k=true->P e) e x (fun x0 x1 _ hk=>q x0 x1 hk) x hx
noncomputable def eB (e:Expr)(k:Const->Nat->Pos->Bool):Bool:=if h:e.ctorIdx=19 then Expr.Constant.elim (motive_1:=fun _=>Bool) e h k else false
@[elab_as_elim] theorem cA {k:Const->Nat->Pos->Bool}{P:Expr->Prop}(h:eB e k=true)(q:∀x0 x1 x2,k x0 x1 x2=true->P (.Constant x0 x1 x2)):P e :=
 let⟨x,hx⟩:=dt h
 Expr.Constant.elim (motive_1:=fun e=>∀x:e.ctorIdx=19,Expr.Constant.elim (motive_1:=fun _=>Bool) e x k=true->P e) e x (fun x0 x1 x2 _ hk=>q x0 x1 x2 hk) x hx
noncomputable def tD (e:Expr)(k:Expr->Operator->Expr->Pos->Bool):Bool:=if h:e.ctorIdx=2 then Expr.BinOp.elim (motive_1:=fun _=>Bool) e h k else false
@[elab_as_elim] theorem lJ {k:Expr->Operator->Expr->Pos->Bool}{P:Expr->Prop}(h:tD e k=true)(q:∀x0 x1 x2 x3,k x0 x1 x2 x3=true->P (.BinOp x0 x1 x2 x3)):P e :=
 let⟨x,hx⟩:=dt h
 Expr.BinOp.elim (motive_1:=fun e=>∀x:e.ctorIdx=2,Expr.BinOp.elim (motive_1:=fun _=>Bool) e x k=true->P e) e x (fun x0 x1 x2 x3 _ hk=>q x0 x1 x2 x3 hk) x hx
noncomputable def ka (e:Expr)(k:UnaryOp->Expr->Pos->Bool):Bool:=if h:e.ctorIdx=3 then Expr.UnaryOp.elim (motive_1:=fun _=>Bool) e h k else false
@[elab_as_elim] theorem jE {k:UnaryOp->Expr->Pos->Bool}{P:Expr->Prop}(h:ka e k=true)(q:∀x0 x1 x2,k x0 x1 x2=true->P (.UnaryOp x0 x1 x2)):P e :=
 let⟨x,hx⟩:=dt h
 Expr.UnaryOp.elim (motive_1:=fun e=>∀x:e.ctorIdx=3,Expr.UnaryOp.elim (motive_1:=fun _=>Bool) e x k=true->P e) e x (fun x0 x1 x2 _ hk=>q x0 x1 x2 hk) x hx
noncomputable def rW (e:Expr)(k:Expr->(List CmpOp)->dU->Pos->Bool):Bool:=if h:e.ctorIdx=15 then Expr.Compare.elim (motive_1:=fun _=>Bool) e h k else false
@[elab_as_elim] theorem qa {k:Expr->(List CmpOp)->dU->Pos->Bool}{P:Expr->Prop}(h:rW e k=true)(q:∀x0 x1 x2 x3,k x0 x1 x2 x3=true->P (.Compare x0 x1 x2 x3)):P e :=
 let⟨x,hx⟩:=dt h
 Expr.Compare.elim (motive_1:=fun e=>∀x:e.ctorIdx=15,Expr.Compare.elim (motive_1:=fun _=>Bool) e x k=true->P e) e x (fun x0 x1 x2 x3 _ hk=>q x0 x1 x2 x3 hk) x hx
noncomputable def vP (e:Expr)(k:BoolOp->dU->Pos->Bool):Bool:=if h:e.ctorIdx=0 then Expr.BoolOp.elim (motive_1:=fun _=>Bool) e h k else false
@[elab_as_elim] theorem qR {k:BoolOp->dU->Pos->Bool}{P:Expr->Prop}(h:vP e k=true)(q:∀x0 x1 x2,k x0 x1 x2=true->P (.BoolOp x0 x1 x2)):P e :=
 let⟨x,hx⟩:=dt h
 Expr.BoolOp.elim (motive_1:=fun e=>∀x:e.ctorIdx=0,Expr.BoolOp.elim (motive_1:=fun _=>Bool) e x k=true->P e) e x (fun x0 x1 x2 _ hk=>q x0 x1 x2 hk) x hx
noncomputable def tH (e:Expr)(k:Expr->Expr->Expr->Pos->Bool):Bool:=if h:e.ctorIdx=5 then Expr.IfExp.elim (motive_1:=fun _=>Bool) e h k else false
@[elab_as_elim] theorem lM {k:Expr->Expr->Expr->Pos->Bool}{P:Expr->Prop}(h:tH e k=true)(q:∀x0 x1 x2 x3,k x0 x1 x2 x3=true->P (.IfExp x0 x1 x2 x3)):P e :=
 let⟨x,hx⟩:=dt h
 Expr.IfExp.elim (motive_1:=fun e=>∀x:e.ctorIdx=5,Expr.IfExp.elim (motive_1:=fun _=>Bool) e x k=true->P e) e x (fun x0 x1 x2 x3 _ hk=>q x0 x1 x2 x3 hk) x hx
noncomputable def tI (e:Expr)(k:dU->Pos->Bool):Bool:=if h:e.ctorIdx=24 then Expr.List.elim (motive_1:=fun _=>Bool) e h k else false
@[elab_as_elim] theorem jC {k:dU->Pos->Bool}{P:Expr->Prop}(h:tI e k=true)(q:∀x0 x1,k x0 x1=true->P (.List x0 x1)):P e :=
 let⟨x,hx⟩:=dt h
 Expr.List.elim (motive_1:=fun e=>∀x:e.ctorIdx=24,Expr.List.elim (motive_1:=fun _=>Bool) e x k=true->P e) e x (fun x0 x1 _ hk=>q x0 x1 hk) x hx
noncomputable def gd (e:Expr)(k:dU->Nat->Pos->Bool):Bool:=if h:e.ctorIdx=25 then Expr.Tuple.elim (motive_1:=fun _=>Bool) e h k else false
@[elab_as_elim] theorem dR {k:dU->Nat->Pos->Bool}{P:Expr->Prop}(h:gd e k=true)(q:∀x0 x1 x2,k x0 x1 x2=true->P (.Tuple x0 x1 x2)):P e :=
 let⟨x,hx⟩:=dt h
 Expr.Tuple.elim (motive_1:=fun e=>∀x:e.ctorIdx=25,Expr.Tuple.elim (motive_1:=fun _=>Bool) e x k=true->P e) e x (fun x0 x1 x2 _ hk=>q x0 x1 x2 hk) x hx
noncomputable def Dp (e:Expr)(k:(List (Option Expr))->dU->Pos->Bool):Bool:=if h:e.ctorIdx=6 then Expr.Dict.elim (motive_1:=fun _=>Bool) e h k else false
@[elab_as_elim] theorem vQ {k:(List (Option Expr))->dU->Pos->Bool}{P:Expr->Prop}(h:Dp e k=true)(q:∀x0 x1 x2,k x0 x1 x2=true->P (.Dict x0 x1 x2)):P e :=
 let⟨x,hx⟩:=dt h
 Expr.Dict.elim (motive_1:=fun e=>∀x:e.ctorIdx=6,Expr.Dict.elim (motive_1:=fun _=>Bool) e x k=true->P e) e x (fun x0 x1 x2 _ hk=>q x0 x1 x2 hk) x hx
noncomputable def iQ (e:Expr)(k:Expr->(List Comprehension)->Scope->Pos->Bool):Bool:=if h:e.ctorIdx=8 then Expr.ListComp.elim (motive_1:=fun _=>Bool) e h k else false
@[elab_as_elim] theorem fP {k:Expr->(List Comprehension)->Scope->Pos->Bool}{P:Expr->Prop}(h:iQ e k=true)(q:∀x0 x1 x2 x3,k x0 x1 x2 x3=true->P (.ListComp x0 x1 x2 x3)):P e :=
 let⟨x,hx⟩:=dt h
 Expr.ListComp.elim (motive_1:=fun e=>∀x:e.ctorIdx=8,Expr.ListComp.elim (motive_1:=fun _=>Bool) e x k=true->P e) e x (fun x0 x1 x2 x3 _ hk=>q x0 x1 x2 x3 hk) x hx
noncomputable def nc (e:Expr)(k:Expr->(List Comprehension)->Scope->Pos->Bool):Bool:=if h:e.ctorIdx=9 then Expr.SetComp.elim (motive_1:=fun _=>Bool) e h k else false
@[elab_as_elim] theorem jD {k:Expr->(List Comprehension)->Scope->Pos->Bool}{P:Expr->Prop}(h:nc e k=true)(q:∀x0 x1 x2 x3,k x0 x1 x2 x3=true->P (.SetComp x0 x1 x2 x3)):P e :=
 let⟨x,hx⟩:=dt h
 Expr.SetComp.elim (motive_1:=fun e=>∀x:e.ctorIdx=9,Expr.SetComp.elim (motive_1:=fun _=>Bool) e x k=true->P e) e x (fun x0 x1 x2 x3 _ hk=>q x0 x1 x2 x3 hk) x hx
noncomputable def xF (e:Expr)(k:Expr->Expr->(List Comprehension)->Scope->Pos->Bool):Bool:=if h:e.ctorIdx=10 then Expr.DictComp.elim (motive_1:=fun _=>Bool) e h k else false
noncomputable def tF (e:Expr)(k:Expr->dU->(List Keyword)->Pos->Bool):Bool:=if h:e.ctorIdx=16 then Expr.Call.elim (motive_1:=fun _=>Bool) e h k else false
@[elab_as_elim] theorem nB {k:Expr->dU->(List Keyword)->Pos->Bool}{P:Expr->Prop}(h:tF e k=true)(q:∀x0 x1 x2 x3,k x0 x1 x2 x3=true->P (.Call x0 x1 x2 x3)):P e :=
 let⟨x,hx⟩:=dt h
 Expr.Call.elim (motive_1:=fun e=>∀x:e.ctorIdx=16,Expr.Call.elim (motive_1:=fun _=>Bool) e x k=true->P e) e x (fun x0 x1 x2 x3 _ hk=>q x0 x1 x2 x3 hk) x hx
noncomputable def nA (e:Expr)(k:Expr->Str->Pos->Bool):Bool:=if h:e.ctorIdx=20 then Expr.Attribute.elim (motive_1:=fun _=>Bool) e h k else false
@[elab_as_elim] theorem na {k:Expr->Str->Pos->Bool}{P:Expr->Prop}(h:nA e k=true)(q:∀x0 x1 x2,k x0 x1 x2=true->P (.Attribute x0 x1 x2)):P e :=
 let⟨x,hx⟩:=dt h
 Expr.Attribute.elim (motive_1:=fun e=>∀x:e.ctorIdx=20,Expr.Attribute.elim (motive_1:=fun _=>Bool) e x k=true->P e) e x (fun x0 x1 x2 _ hk=>q x0 x1 x2 hk) x hx
noncomputable def eH (e:Expr)(k:Expr->Expr->Pos->Bool):Bool:=if h:e.ctorIdx=21 then Expr.Subscript.elim (motive_1:=fun _=>Bool) e h k else false
@[elab_as_elim] theorem cS {k:Expr->Expr->Pos->Bool}{P:Expr->Prop}(h:eH e k=true)(q:∀x0 x1 x2,k x0 x1 x2=true->P (.Subscript x0 x1 x2)):P e :=
 let⟨x,hx⟩:=dt h
 Expr.Subscript.elim (motive_1:=fun e=>∀x:e.ctorIdx=21,Expr.Subscript.elim (motive_1:=fun _=>Bool) e x k=true->P e) e x (fun x0 x1 x2 _ hk=>q x0 x1 x2 hk) x hx
noncomputable def tK (e:Expr)(k:(Option Expr)->(Option Expr)->(Option Expr)->Pos->Bool):Bool:=if h:e.ctorIdx=26 then Expr.Slice.elim (motive_1:=fun _=>Bool) e h k else false
@[elab_as_elim] theorem tL {k:(Option Expr)->(Option Expr)->(Option Expr)->Pos->Bool}{P:Expr->Prop}(h:tK e k=true)(q:∀x0 x1 x2 x3,k x0 x1 x2 x3=true->P (.Slice x0 x1 x2 x3)):P e :=
 let⟨x,hx⟩:=dt h
 Expr.Slice.elim (motive_1:=fun e=>∀x:e.ctorIdx=26,Expr.Slice.elim (motive_1:=fun _=>Bool) e x k=true->P e) e x (fun x0 x1 x2 x3 _ hk=>q x0 x1 x2 x3 hk) x hx
noncomputable def zf (e:Stmt)(k:Expr->dY->dY->Pos->Bool):Bool:=if h:e.ctorIdx=12 then Stmt.If.elim (motive_2:=fun _=>Bool) e h k else false
@[elab_as_elim] theorem kO {k:Expr->dY->dY->Pos->Bool}{P:Stmt->Prop}(h:zf e k=true)(q:∀x0 x1 x2 x3,k x0 x1 x2 x3=true->P (.If x0 x1 x2 x3)):P e :=
 let⟨x,hx⟩:=dt h
 Stmt.If.elim (motive_2:=fun e=>∀x:e.ctorIdx=12,Stmt.If.elim (motive_2:=fun _=>Bool) e x k=true->P e) e x (fun x0 x1 x2 x3 _ hk=>q x0 x1 x2 x3 hk) x hx
noncomputable def se (e:Stmt)(k:dU->Expr->Pos->Bool):Bool:=if h:e.ctorIdx=5 then Stmt.Assign.elim (motive_2:=fun _=>Bool) e h k else false
@[elab_as_elim] theorem qf {k:dU->Expr->Pos->Bool}{P:Stmt->Prop}(h:se e k=true)(q:∀x0 x1 x2,k x0 x1 x2=true->P (.Assign x0 x1 x2)):P e :=
 let⟨x,hx⟩:=dt h
 Stmt.Assign.elim (motive_2:=fun e=>∀x:e.ctorIdx=5,Stmt.Assign.elim (motive_2:=fun _=>Bool) e x k=true->P e) e x (fun x0 x1 x2 _ hk=>q x0 x1 x2 hk) x hx
noncomputable def fm (e:Stmt)(k:(Option Expr)->Pos->Bool):Bool:=if h:e.ctorIdx=3 then Stmt.Return.elim (motive_2:=fun _=>Bool) e h k else false
@[elab_as_elim] theorem dH {k:(Option Expr)->Pos->Bool}{P:Stmt->Prop}(h:fm e k=true)(q:∀x0 x1,k x0 x1=true->P (.Return x0 x1)):P e :=
 let⟨x,hx⟩:=dt h
 Stmt.Return.elim (motive_2:=fun e=>∀x:e.ctorIdx=3,Stmt.Return.elim (motive_2:=fun _=>Bool) e x k=true->P e) e x (fun x0 x1 _ hk=>q x0 x1 hk) x hx
noncomputable def tJ (e:Stmt)(k:Expr->Pos->Bool):Bool:=if h:e.ctorIdx=24 then Stmt.Expr.elim (motive_2:=fun _=>Bool) e h k else false
@[elab_as_elim] theorem lP {k:Expr->Pos->Bool}{P:Stmt->Prop}(h:tJ e k=true)(q:∀x0 x1,k x0 x1=true->P (.Expr x0 x1)):P e :=
 let⟨x,hx⟩:=dt h
 Stmt.Expr.elim (motive_2:=fun e=>∀x:e.ctorIdx=24,Stmt.Expr.elim (motive_2:=fun _=>Bool) e x k=true->P e) e x (fun x0 x1 _ hk=>q x0 x1 hk) x hx
noncomputable def gG (e:Stmt)(k:Str->Arguments->dY->dU->(Option Expr)->(List TypeParam)->Scope->(Option Scope)->Str->Pos->Bool):Bool:=if h:e.ctorIdx=0 then Stmt.FunctionDef.elim (motive_2:=fun _=>Bool) e h k else false
@[elab_as_elim] theorem km {k:Str->Arguments->dY->dU->(Option Expr)->(List TypeParam)->Scope->(Option Scope)->Str->Pos->Bool}{P:Stmt->Prop}(h:gG e k=true)(q:∀x0 x1 x2 x3 x4 x5 x6 x7 x8 x9,k x0 x1 x2 x3 x4 x5 x6 x7 x8 x9=true->P (.FunctionDef x0 x1 x2 x3 x4 x5 x6 x7 x8 x9)):P e :=
 let⟨x,hx⟩:=dt h
 Stmt.FunctionDef.elim (motive_2:=fun e=>∀x:e.ctorIdx=0,Stmt.FunctionDef.elim (motive_2:=fun _=>Bool) e x k=true->P e) e x (fun x0 x1 x2 x3 x4 x5 x6 x7 x8 x9 _ hk=>q x0 x1 x2 x3 x4 x5 x6 x7 x8 x9 hk) x hx
noncomputable def vS (e:Stmt)(k:(Option Expr)->(Option Expr)->Pos->Bool):Bool:=if h:e.ctorIdx=16 then Stmt.Raise.elim (motive_2:=fun _=>Bool) e h k else false
@[elab_as_elim] theorem qS {k:(Option Expr)->(Option Expr)->Pos->Bool}{P:Stmt->Prop}(h:vS e k=true)(q:∀x0 x1 x2,k x0 x1 x2=true->P (.Raise x0 x1 x2)):P e :=
 let⟨x,hx⟩:=dt h
 Stmt.Raise.elim (motive_2:=fun e=>∀x:e.ctorIdx=16,Stmt.Raise.elim (motive_2:=fun _=>Bool) e x k=true->P e) e x (fun x0 x1 x2 _ hk=>q x0 x1 x2 hk) x hx
noncomputable def xI (e:Stmt)(k:dY->(List ExceptHandler)->dY->dY->Pos->Bool):Bool:=if h:e.ctorIdx=17 then Stmt.Try.elim (motive_2:=fun _=>Bool) e h k else false
@[elab_as_elim] theorem nF {k:dY->(List ExceptHandler)->dY->dY->Pos->Bool}{P:Stmt->Prop}(h:xI e k=true)(q:∀x0 x1 x2 x3 x4,k x0 x1 x2 x3 x4=true->P (.Try x0 x1 x2 x3 x4)):P e :=
 let⟨x,hx⟩:=dt h
 Stmt.Try.elim (motive_2:=fun e=>∀x:e.ctorIdx=17,Stmt.Try.elim (motive_2:=fun _=>Bool) e x k=true->P e) e x (fun x0 x1 x2 x3 x4 _ hk=>q x0 x1 x2 x3 x4 hk) x hx
noncomputable def lN (e:Stmt)(k:Expr->Operator->Expr->Pos->Bool):Bool:=if h:e.ctorIdx=7 then Stmt.AugAssign.elim (motive_2:=fun _=>Bool) e h k else false
@[elab_as_elim] theorem lO {k:Expr->Operator->Expr->Pos->Bool}{P:Stmt->Prop}(h:lN e k=true)(q:∀x0 x1 x2 x3,k x0 x1 x2 x3=true->P (.AugAssign x0 x1 x2 x3)):P e :=
 let⟨x,hx⟩:=dt h
 Stmt.AugAssign.elim (motive_2:=fun e=>∀x:e.ctorIdx=7,Stmt.AugAssign.elim (motive_2:=fun _=>Bool) e x k=true->P e) e x (fun x0 x1 x2 x3 _ hk=>q x0 x1 x2 x3 hk) x hx
noncomputable def xH (e:Stmt)(k:Expr->Expr->dY->dY->Pos->Bool):Bool:=if h:e.ctorIdx=9 then Stmt.For.elim (motive_2:=fun _=>Bool) e h k else false
@[elab_as_elim] theorem nE {k:Expr->Expr->dY->dY->Pos->Bool}{P:Stmt->Prop}(h:xH e k=true)(q:∀x0 x1 x2 x3 x4,k x0 x1 x2 x3 x4=true->P (.For x0 x1 x2 x3 x4)):P e :=
 let⟨x,hx⟩:=dt h
 Stmt.For.elim (motive_2:=fun e=>∀x:e.ctorIdx=9,Stmt.For.elim (motive_2:=fun _=>Bool) e x k=true->P e) e x (fun x0 x1 x2 x3 x4 _ hk=>q x0 x1 x2 x3 x4 hk) x hx
noncomputable def rZ (e:Stmt)(k:Expr->(Option Expr)->Pos->Bool):Bool:=if h:e.ctorIdx=19 then Stmt.Assert.elim (motive_2:=fun _=>Bool) e h k else false
@[elab_as_elim] theorem qe {k:Expr->(Option Expr)->Pos->Bool}{P:Stmt->Prop}(h:rZ e k=true)(q:∀x0 x1 x2,k x0 x1 x2=true->P (.Assert x0 x1 x2)):P e :=
 let⟨x,hx⟩:=dt h
 Stmt.Assert.elim (motive_2:=fun e=>∀x:e.ctorIdx=19,Stmt.Assert.elim (motive_2:=fun _=>Bool) e x k=true->P e) e x (fun x0 x1 x2 _ hk=>q x0 x1 x2 hk) x hx
noncomputable def sf (e:Stmt)(k:dU->Pos->Bool):Bool:=if h:e.ctorIdx=4 then Stmt.Delete.elim (motive_2:=fun _=>Bool) e h k else false
@[elab_as_elim] theorem qg {k:dU->Pos->Bool}{P:Stmt->Prop}(h:sf e k=true)(q:∀x0 x1,k x0 x1=true->P (.Delete x0 x1)):P e :=
 let⟨x,hx⟩:=dt h
 Stmt.Delete.elim (motive_2:=fun e=>∀x:e.ctorIdx=4,Stmt.Delete.elim (motive_2:=fun _=>Bool) e x k=true->P e) e x (fun x0 x1 _ hk=>q x0 x1 hk) x hx
end
section
abbrev D:=PyData
mutual
noncomputable def sok:PyData->Bool
 |.none|.bool _|.int _=>true
 |.str x=>PyData.strOk x&&decide (x.length<=16777216)
 |.list xs|.tuple xs=>decide (xs.length<=16777216)&&sokAll xs
 |.dict kvs=>He kvs
noncomputable def sokAll:List PyData->Bool
 |[]=>true
 |x::xs=>sok x&&sokAll xs
noncomputable def He:List (PyData × PyData)->Bool
 |[]=>true
 |(k,v)::r=>sok k&&sok v&&He r
end
mutual
noncomputable def a8:PyData->Bool
 |.list xs=>bf xs
 |.tuple _=>false
 |.dict kvs=>oA kvs
 |_=>true
noncomputable def bf:List PyData->Bool
 |[]=>true
 |x::xs=>a8 x&&bf xs
noncomputable def oA:List (PyData × PyData)->Bool
 |[]=>true
 |(k,v)::r=>a8 k&&a8 v&&oA r
end
theorem sokAll_iff:∀{xs:List PyData},sokAll xs=true↔∀x∈xs,sok x=true
 |[]=>⟨fun _ _ m=>(nomatch m),fun _=>rfl⟩
 |x::xs=>⟨fun h y m=>let⟨a,b⟩:=bH h;(bM m).elim (fun e=>e▸a) (sokAll_iff.mp b y),fun h=>kY ⟨h x dX,sokAll_iff.mpr fun y m=>h y (dP _ m)⟩⟩
def Hp (w:World)(a:Addr)(o:Obj)(es:Array DictEntry):Prop:=
 (a==sysModules)=false/\o.ExactDict/\(∀e∈es.toList,∃x t,e.key=.str x t/\e.hash=hashStr w x)/\es.toList.Pairwise fun e f=>∀x t u,e.key=.str x t->f.key≠.str x u
def jf (w:World)(h:Heap)(a:Addr):Prop:=∀o,h.get? a=some o->o.dict=none/\∀es n,o.data=.dict es n->Hp w a o es
def av (w:World)(O:a9)(h:Heap)(v:Value)(d:D):Prop:=∃as,Reads h v d as/\(∀a∈as,a∉O/\jf w h a)/\sok d=true
def ai (w:World)(O:a9)(h:Heap)(vs:eU)(ds:List D):Prop:=∃as,ReadsAll h vs ds as/\(∀a∈as,a∉O/\jf w h a)/\sokAll ds=true
def gu (o:Obj):Prop:=o.cls≠.none\/∀vs,o.data≠.fields vs
def eh (h h':Heap):Prop:=∀b o,h.get? b=some o->gu o->h'.get? b=some o
theorem eh.refl (h:Heap):eh h h:=fun _ _ e _=>e
theorem eh.trans (k:eh h h')(k':eh h' h''):eh h h'':=fun b o e c=>k' b o (k b o e c) c
theorem eh.of (k:∀b o,h.get? b=some o->h'.get? b=some o):eh h h':=fun b o e _=>k b o e
def EC (o:Obj):Prop:=(∀xs n,o.cls=.type "tuple" -> o.data≠.seq xs n)/\(∀vs,(o.cls=.type "code" \/ o.cls=.none)->o.data≠.fields vs)
def aI (W:a9)(h h':Heap):Prop:=∀b o,b∉W->h.get? b=some o->gu o->h'.get? b=some o
theorem aI.of_keep (k:eh h h'):aI W h h':=fun b o _ e c=>k b o e c
theorem aI.mono (k:aI W h h')(q:∀a∈W,a∈W'):aI W' h h':=fun b o m e c=>k b o (fun n=>m (q b n)) e c
theorem aI.trans (k:aI W h h')(k':aI W h' h''):aI W h h'':=fun b o m e c=>k' b o m (k b o m e c) c
def LD (o:Obj):Prop:=(o.cls=.type "list" \/ o.cls=.type "dict")\/∃es n t,o.data=.set es n t
def bG (O W:a9)(h:Heap):Prop:=∀a∈W,∀o,h.get? a=some o->EC o/\(LD o->a∈O)
theorem nf (hk:aI W h h')(hn:bG O W h)(r:Reads h v d as):(∀a∈as,a∉O)->Reads h' v d as:=
 Reads.rec (motive_1:=fun v d as _=>(∀a∈as,a∉O)->Reads h' v d as) (motive_2:=fun vs ds as _=>(∀a∈as,a∉O)->ReadsAll h' vs ds as)
  (fun _=>.none) (fun b _=>.bool b) (fun i t _=>.int i t) (fun x t _=>.str x t)
  (fun h1 h2 h3 _ ih q=>.list (hk _ _ (fun m=>q _ dX ((hn _ m _ h1).2 (.inl (.inl h2)))) h1 (.inl (by rw[h2];nofun))) h2 h3 (ih fun a m=>q a (dP _ m)))
  (fun h1 h2 h3 _ ih q=>.tuple (hk _ _ (fun m=>(hn _ m _ h1).1.1 _ _ h2 h3) h1 (.inl (by rw[h2];nofun))) h2 h3 (ih q))
  (fun h1 h2 h3 _ _ ih1 ih2 q=>.dict (hk _ _ (fun m=>q _ dX ((hn _ m _ h1).2 (.inl (.inr h2)))) h1 (.inl (by rw[h2];nofun))) h2 h3 (ih1 fun a m=>q a (dP _ (mv _ m))) (ih2 fun a m=>q a (dP _ (kK _ m))))
  (fun _=>.nil) (fun _ _ ih1 ih2 q=>.cons (ih1 fun a m=>q a (mv _ m)) (ih2 fun a m=>q a (kK _ m))) r
theorem lU (hk:aI W h h')(hn:bG O W h)(r:ReadsAll h vs ds as):(∀a∈as,a∉O)->ReadsAll h' vs ds as:=
 ReadsAll.rec (motive_1:=fun _ _ _ _=>True) (motive_2:=fun vs ds as _=>(∀a∈as,a∉O)->ReadsAll h' vs ds as)
  trivial (fun _=>trivial) (fun _ _=>trivial) (fun _ _=>trivial) (fun _ _ _ _ _=>trivial) (fun _ _ _ _ _=>trivial) (fun _ _ _ _ _ _ _=>trivial)
  (fun _=>.nil) (fun r1 _ _ ih2 q=>.cons (nf hk hn r1 fun a m=>q a (mv _ m)) (ih2 fun a m=>q a (kK _ m))) r
theorem xS (hk:eh h h')(r:Reads h v d as):Reads h' v d as:=nf (O:=[]) (W:=[]) (fun b o _ e c=>hk b o e c) (fun _ m=>nomatch m) r fun _ _ m=>nomatch m
theorem qU (hk:eh h h')(r:ReadsAll h vs ds as):ReadsAll h' vs ds as:=lU (O:=[]) (W:=[]) (fun b o _ e c=>hk b o e c) (fun _ m=>nomatch m) r fun _ _ m=>nomatch m
theorem db (r:Reads h v d as):∀a∈as,∃o,h.get? a=some o/\(o.cls=.type "list" \/ o.cls=.type "dict"):=
 Reads.rec (motive_1:=fun _ _ as _=>∀a∈as,∃o,h.get? a=some o/\(o.cls=.type "list" \/ o.cls=.type "dict")) (motive_2:=fun _ _ as _=>∀a∈as,∃o,h.get? a=some o/\(o.cls=.type "list" \/ o.cls=.type "dict"))
  (fun _ m=>nomatch m) (fun _ _ m=>nomatch m) (fun _ _ _ m=>nomatch m) (fun _ _ _ m=>nomatch m)
  (fun h1 h2 _ _ ih a q=>(bM q).elim (fun e=>⟨_,e▸h1, .inl h2⟩) (ih a))
  (fun _ _ _ _ ih=>ih)
  (fun h1 h2 _ _ _ ih1 ih2 a q=>(bM q).elim (fun e=>⟨_,e▸h1, .inr h2⟩) fun q=>(dx q).elim (ih1 a) (ih2 a))
  (fun _ m=>nomatch m) (fun _ _ ih1 ih2 a q=>(dx q).elim (ih1 a) (ih2 a)) r
theorem cU (r:ReadsAll h vs ds as):∀a∈as,∃o,h.get? a=some o/\(o.cls=.type "list" \/ o.cls=.type "dict"):=
 ReadsAll.rec (motive_1:=fun _ _ _ _=>True) (motive_2:=fun _ _ as _=>∀a∈as,∃o,h.get? a=some o/\(o.cls=.type "list" \/ o.cls=.type "dict"))
  trivial (fun _=>trivial) (fun _ _=>trivial) (fun _ _=>trivial) (fun _ _ _ _ _=>trivial) (fun _ _ _ _ _=>trivial) (fun _ _ _ _ _ _ _=>trivial)
  (fun _ m=>nomatch m) (fun r1 _ _ ih2 a q=>(dx q).elim (db r1 a) (ih2 a)) r
theorem jf.same (x:jf w h a)(e:∀o,h.get? a=some o->h'.get? a=some o)(t:∃o,h.get? a=some o):jf w h' a:=fun o q=>by obtain⟨o',e'⟩:=t;have:=e o' e';rw[q]at this;obtain rfl:=aC this;exact x o e'
theorem jK (c:o.cls=.type "list" \/ o.cls=.type "dict"):gu o:=.inl (by rcases c with c|c <;> (rw[c];nofun))
section
variable {w:World}{O O':a9}{h h':Heap}{v:Value}{d:D}{vs ws:eU}{ds es:List D}{a:Addr}
theorem av.keep (r:av w O h v d)(k:eh h h'):av w O h' v d:=
 let⟨as,x,y,z⟩:=r;⟨as,xS k x,fun a m=>⟨(y a m).1,(y a m).2.same (fun o e=>let⟨o',e',c⟩:=db x a m;by rw[e]at e';obtain rfl:=aC e';exact k a o e (jK c)) (let⟨o,e,_⟩:=db x a m;⟨o,e⟩)⟩,z⟩
theorem ai.keep (r:ai w O h vs ds)(k:eh h h'):ai w O h' vs ds:=
 let⟨as,x,y,z⟩:=r;⟨as,qU k x,fun a m=>⟨(y a m).1,(y a m).2.same (fun o e=>let⟨o',e',c⟩:=cU x a m;by rw[e]at e';obtain rfl:=aC e';exact k a o e (jK c)) (let⟨o,e,_⟩:=cU x a m;⟨o,e⟩)⟩,z⟩
theorem av.sub (r:av w O h v d)(k:∀a∈O',a∈O):av w O' h v d:=let⟨as,x,y,z⟩:=r;⟨as,x,fun a m=>⟨fun q=>(y a m).1 (k a q),(y a m).2⟩,z⟩
theorem ai.sub (r:ai w O h vs ds)(k:∀a∈O',a∈O):ai w O' h vs ds:=let⟨as,x,y,z⟩:=r;⟨as,x,fun a m=>⟨fun q=>(y a m).1 (k a q),(y a m).2⟩,z⟩
theorem av.new (r:av w O h v d)(k:h.get? a=none):av w (a::O) h v d:=
 let⟨as,x,y,z⟩:=r
 ⟨as,x,fun b m=>⟨fun q=>(bM q).elim (fun e=>by obtain⟨o,e',_⟩:=db x b m;rw[e,k]at e';exact nn e') (y b m).1,(y b m).2⟩,z⟩
theorem ai.new (r:ai w O h vs ds)(k:h.get? a=none):ai w (a::O) h vs ds:=
 let⟨as,x,y,z⟩:=r
 ⟨as,x,fun b m=>⟨fun q=>(bM q).elim (fun e=>by obtain⟨o,e',_⟩:=cU x b m;rw[e,k]at e';exact nn e') (y b m).1,(y b m).2⟩,z⟩
theorem av.but (r:av w O h v d)(hk:aI W h h')(hn:bG O W h):av w O h' v d:=
 let⟨as,x,y,z⟩:=r
 ⟨as,nf hk hn x fun a m=>(y a m).1,fun b m=>⟨(y b m).1,(y b m).2.same (fun o e=>let⟨o',e',c⟩:=db x b m;by rw[e]at e';obtain rfl:=aC e';exact hk b o (fun q=>(y b m).1 ((hn b q o e).2 (.inl c))) e (jK c)) (let⟨o,e,_⟩:=db x b m;⟨o,e⟩)⟩,z⟩
theorem ai.but (r:ai w O h vs ds)(hk:aI W h h')(hn:bG O W h):ai w O h' vs ds:=
 let⟨as,x,y,z⟩:=r
 ⟨as,lU hk hn x fun a m=>(y a m).1,fun b m=>⟨(y b m).1,(y b m).2.same (fun o e=>let⟨o',e',c⟩:=cU x b m;by rw[e]at e';obtain rfl:=aC e';exact hk b o (fun q=>(y b m).1 ((hn b q o e).2 (.inl c))) e (jK c)) (let⟨o,e,_⟩:=cU x b m;⟨o,e⟩)⟩,z⟩
theorem av.sok (r:av w O h v d):Internal.sok d=true:=let⟨_,_,_,z⟩:=r;z
theorem ai.sok (r:ai w O h vs ds):Internal.sokAll ds=true:=let⟨_,_,_,z⟩:=r;z
theorem av.none:av w O h .none .none:=⟨[], .none,by simp,rfl⟩
theorem av.bool:av w O h (.bool b) (.bool b):=⟨[], .bool b,by simp,rfl⟩
theorem av.int:av w O h (.int i t) (.int i):=⟨[], .int i t,by simp,rfl⟩
theorem av.str (hx:Internal.sok (.str x)=true):av w O h (.str x t) (.str x):=⟨[], .str x t,by simp,hx⟩
theorem ai.nil:ai w O h [] []:=⟨[], .nil,by simp,rfl⟩
theorem ai.cons (r:av w O h v d)(rs:ai w O h vs ds):ai w O h (v::vs) (d::ds):=
 let⟨as,x,y,z⟩:=r;let⟨bs,x',y',z'⟩:=rs;⟨as++bs, .cons x x',fun a m=>(dx m).elim (y a) (y' a),kY ⟨z,z'⟩⟩
inductive Ho (w:World)(O:a9)(h:Heap)(vs:eU)(d:D)(ds:List D):Prop
 |mk (u:Value)(us:eU)(e:vs=u::us)(a:av w O h u d)(b:ai w O h us ds)
theorem ai.cons_inv (r:ai w O h vs (d::ds)):Ho w O h vs d ds:=by obtain⟨as,x,y,z⟩:=r;obtain⟨u,us,a,b,e,rfl,x1,x2⟩:=readsAll_cons_inv x;have z:=bH (show(Internal.sok d&&Internal.sokAll ds)=true from z);exact⟨u,us,e,⟨a,x1,fun c m=>y c (mv _ m),z.1⟩,b,x2,fun c m=>y c (kK _ m),z.2⟩
theorem ai.both (r:ai w O h (v::vs) (d::ds)):av w O h v d/\ai w O h vs ds:=by obtain⟨u,us,e,p,q⟩:=r.cons_inv;cases e;exact⟨p,q⟩
theorem ai.head (r:ai w O h (v::vs) (d::ds)):av w O h v d:=r.both.1
theorem ai.tail (r:ai w O h (v::vs) (d::ds)):ai w O h vs ds:=r.both.2
theorem ai.nil_inv (r:ai w O h vs []):vs=[]:=let⟨_,x,_⟩:=r;(readsAll_nil_inv x).1
end
section
variable {w:World}{O:a9}{h:Heap}
theorem ai.length:∀{ds:List D}{vs:eU},ai w O h vs ds->vs.length=ds.length
 |[],_,r=>by rw[r.nil_inv];rfl
 |_::_,_,r=>by obtain⟨u,us,rfl,_,r'⟩:=r.cons_inv;rw[nR,nR,r'.length]
theorem ai.append:∀{ds:List D}{vs ws:eU}{es:List D},ai w O h vs ds->ai w O h ws es->ai w O h (vs++ws) (ds++es)
 |[],_,_,_,r,r'=>by rw[r.nil_inv];exact r'
 |_::_,_,_,_,r,r'=>by obtain⟨u,us,rfl,q,r''⟩:=r.cons_inv;exact .cons q (r''.append r')
theorem ai.get:∀{ds:List D}{vs:eU},ai w O h vs ds->∀(i:Nat) (d:D),ds[i]?=some d->∃v,vs[i]?=some v/\av w O h v d
 |[],_,_,i,d,e=>nn e
 |_::_,_,r,i,d,e=>by
  obtain⟨u,us,rfl,q,r'⟩:=r.cons_inv;cases i with
  |zero=>exact⟨u,rfl,aC e▸q⟩
  |succ i=>exact r'.get i d e
theorem ai.of_get:∀{ds:List D}{vs:eU},vs.length=ds.length->(∀(i:Nat) (v:Value)(d:D),vs[i]?=some v->ds[i]?=some d->av w O h v d)->ai w O h vs ds
 |[],vs,e,_=>List.eq_nil_of_length_eq_zero e▸.nil
 |d::ds,vs,e,k=>by
  cases vs with
  |nil=>exact Nat.noConfusion e
  |cons v vs=>exact .cons (k 0 v d rfl rfl) (ai.of_get (Nat.succ.inj e) fun i u c h1 h2=>k (i+1) u c h1 h2)
end
section
variable {w:World}{O:a9}{h:Heap}{v:Value}{a:Addr}{vs:Array Value}{xs:List D}
def EF (h:Heap)(a:Addr):Prop:=∀o,h.get? a=some o->o.dict=none
theorem vp (l:h.IsList a vs)(pl:EF h a):jf w h a:=fun o e=>⟨pl o e,fun es n q=>by obtain⟨o',e',_,m,q'⟩:=l;rw[e]at e';obtain rfl:=aC e';rw[q]at q';cases q'⟩
theorem av.list_bare (r:av w O h (.ref a) (.list xs)):EF h a:=by obtain⟨as,x,y,z⟩:=r;obtain⟨b,o,vs,n,bs,e,h1,h2,h3,h4,rfl⟩:=reads_list_inv x;cases e;exact fun o e=>((y a dX).2 o e).1
theorem lc (hf:o.isFreed=false)(hd:o.dict=none):EF (h.push o) h.objs.size:=fun o' e=>by rw[ie _ hf]at e;obtain rfl:=aC e;exact hd
inductive Hr (w:World)(O:a9)(h:Heap)(v:Value)(xs:List D):Prop
 |mk (a:Addr)(vs:Array Value)(e:v=.ref a)(m:a∉O)(l:h.IsList a vs)(r:ai w O h vs.toList xs)
theorem av.list_inv (r:av w O h v (.list xs)):Hr w O h v xs:=by obtain⟨as,x,y,z⟩:=r;obtain⟨a,vs,bs,e,l,z',rfl⟩:=isList_of_reads x;have z2:(decide (xs.length<=16777216)&&sokAll xs)=true:=z;exact⟨a,vs,e,(y a dX).1,l,bs,z',fun b m=>y b (dP _ m),(bH z2).2⟩
theorem av.list_len (r:av w O h v (.list xs)):xs.length<=16777216:=by have z2:(decide (xs.length<=16777216)&&sokAll xs)=true:=r.sok;exact bX (bH z2).1
theorem av.tuple_len (r:av w O h v (.tuple xs)):xs.length<=16777216:=by have z2:(decide (xs.length<=16777216)&&sokAll xs)=true:=r.sok;exact bX (bH z2).1
theorem av.list_of (hl:xs.length<=16777216)(ha:a∉O)(l:h.IsList a vs)(pl:EF h a)(r:ai w O h vs.toList xs):av w O h (.ref a) (.list xs):=by obtain⟨o,ho,hc,n,hd⟩:=id l;obtain⟨bs,z,u,y⟩:=r;exact⟨a::bs,reads_list_at ho hc hd z,fun b m=>(bM m).elim (fun e=>e▸⟨ha,vp l pl⟩) (u b),kY ⟨eD hl,y⟩⟩
theorem av.tuple_inv (r:av w O h v (.tuple xs)):∃a vs,v=.ref a/\IsTup h a vs/\ai w O h vs.toList xs:=by obtain⟨as,x,y,z⟩:=r;obtain⟨a,l,e,t,z'⟩:=reads_tuple_items x;have z2:(decide (xs.length<=16777216)&&sokAll xs)=true:=z;exact⟨a,l.toArray,e,t,as,by simpa using z',y,(bH z2).2⟩
theorem av.tuple_of (hl:xs.length<=16777216)(l:IsTup h a vs)(r:ai w O h vs.toList xs):av w O h (.ref a) (.tuple xs):=by obtain⟨o,ho,hc,n,hd⟩:=l;obtain⟨bs,z,u,y⟩:=r;exact⟨bs,reads_tuple_at ho hc hd z,u,kY ⟨eD hl,y⟩⟩
theorem av.int_inv (r:av w O h v (.int i)):∃t,v=.int i t:=let⟨_,x,_⟩:=r;let⟨t,e,_⟩:=reads_int_inv x;⟨t,e⟩
theorem av.bool_inv (r:av w O h v (.bool b)):v=.bool b:=let⟨_,x,_⟩:=r;(reads_bool_inv x).1
theorem av.none_inv (r:av w O h v .none):v=.none:=let⟨_,x,_⟩:=r;(reads_none_inv x).1
theorem av.str_inv (r:av w O h v (.str x)):∃t,v=.str x t:=let⟨_,x,_⟩:=r;let⟨t,e,_⟩:=reads_str_inv x;⟨t,e⟩
end
end
section
noncomputable def jM (l:List Str)(x:Str):List Str:=if l.any (· == x)then l else l++[x]
noncomputable def wq (es:List (Int × Value)):List Str:=es.map fun e=>strOf e.2
def K8 (w:World)(es:List (Int × Value)):Prop:=∀e∈es,∃k tk,e.2=.str k tk/\e.1=hashStr w k
inductive jh (w:World)(h:Heap)(a:Addr)(ss:List Str):Prop
 |mk (o:Obj)(es:Array (Int × Value))(ep:Nat) (t:SetTable)(ho:h.get? a=some o)(hex:o.ExactSet)(hd:o.data=.set es ep t)(hel:K8 w es.toList)
  (hp:(wq es.toList).Perm ss)(hb:es.size<scanBound)(hf:t.fits es.size=true)(hl:w.params.followText "set-order" = true\/t.led=true) (hpl:es.size=0\/t.plain=false)
section
variable {w:World}
theorem jh.at (x:jh w h a ss)(e:∀o,h.get? a=some o->h'.get? a=some o):jh w h' a ss:=
 let⟨o,es,ep,t,ho,hex,hd,hel,hp,hb,hf,hl,hpl⟩:=x;⟨o,es,ep,t,e o ho,hex,hd,hel,hp,hb,hf,hl,hpl⟩
theorem jh.obj (x:jh w h a ss):∃o,h.get? a=some o/\o.cls=.type "set" /\ (∃es ep t,o.data=.set es ep t)/\o.dict=none:=
 let⟨o,es,ep,t,ho,hex,hd,_,_,_,_,_,_⟩:=x;⟨o,ho,hex.1,⟨es,ep,t,hd⟩,hex.2.1⟩
end
end
section
structure wC where
 c:Addr
 P:Addr
 pos:Pos
 qual:Str
structure GC where
 prog:Program
 w:World
 h₀:Heap
 mg:Str->Option Value
 mb:Str->Option Value
 tabs:List wC
 names:List Str
def mw (h:Heap)(c:Addr)(q:Str):Prop:=∃o vs t,h.get? c=some o/\o.cls=.type "code" /\ o.data=.fields vs/\vs[1]?=some (.str q t)
theorem mw.rec' (x:mw h c q):h.CodeRec (.ref c) q:=let⟨o,vs,t,a,_,b,d⟩:=x;⟨c,o,vs,t,rfl,a,b,d⟩
def yw (h:Heap)(t:wC):Prop:=
 CodeHd h t.c t.P/\∃ps,h.get? t.P=some (tabObj ps)/\TriplesOk ps.toList /\
  (codeAmong t.pos ps.toList=none\/∃c',codeAmong t.pos ps.toList=some (.ref c')/\mw h c' t.qual)
def sK (tabs:List wC)(h:Heap):Prop:=∀t∈tabs,yw h t
def GR (h h':Heap):Prop:=∀b o vs,h.get? b=some o->(o.cls=.type "code" \/ o.cls=.none)->o.data=.fields vs->h'.get? b=some o
theorem yw.keep (x:yw h t)(k:GR h h'):yw h' t:=by
 obtain⟨⟨o,vs,file,tf,flags,tg,inF,text,tt,e,ec,r⟩,ps,e1,e2,e3⟩:=x;refine⟨⟨o,vs,file,tf,flags,tg,inF,text,tt,k _ _ _ e (.inl ec) r.1,ec,r⟩,ps,k _ _ _ e1 (.inr rfl) rfl,e2, ?_⟩;rcases e3 with e3|⟨c',e3,o',vs',t',a,b,d⟩
 .exact .inl e3
 .exact .inr ⟨c',e3,o',vs',t',k _ _ _ a (.inl b) d.1,b,d⟩
theorem sK.keep (x:sK tabs h)(k:GR h h'):sK tabs h':=fun t ht=>(x t ht).keep k
structure aX (G:GC)(h:Heap):Prop where
 keep:∀b o,G.h₀.get? b=some o->h.get? b=some o
 memo:sK G.tabs h
theorem aX.all (B:aX G h)(k:∀b o,h.get? b=some o->h'.get? b=some o):aX G h':=
 ⟨fun b o e=>k b o (B.keep b o e),B.memo.keep fun b o _ e _ _=>k b o e⟩
theorem aX.but {G:GC}{h h':Heap}{W:a9}(B:aX G h)(k:∀b o,b∉W->h.get? b=some o->h'.get? b=some o)(hn:∀a∈W,G.h₀.get? a=none)
  (hc:∀a∈W,∀o,h.get? a=some o->EC o):aX G h' :=
 ⟨fun b o e=>k b o (fun q=>by rw[hn b q]at e;exact nn e) (B.keep b o e),B.memo.keep fun b o vs e q f=>k b o (fun r=>(hc b r o e).2 vs q f) e⟩
theorem iS {s s' s'':Shared}(x:s'.gens=s.gens/\s'.os=s.os)(y:s''.gens=s'.gens/\s''.os=s'.os):s''.gens=s.gens/\s''.os=s.os:=⟨y.1.trans x.1,y.2.trans x.2⟩
structure Ext (G:GC)(s s':Shared):Prop where
 same:s'.gens=s.gens/\s'.os=s.os
 keep:eh s.heap s'.heap
 base:aX G s'.heap
 pos:0<s'.toks
 back:∀b,s'.heap.get? b=none->s.heap.get? b=none
theorem bA {h h':Heap}(k:∀o,h.get? b=some o->h'.get? b=some o)(e:h'.get? b=none):h.get? b=none:=by
 cases q:h.get? b with
 |none=>rfl
 |some o=>rw[k o q]at e;cases e
theorem Ext.refl (B:aX G s.heap)(p:0<s.toks):Ext G s s:=⟨⟨rfl,rfl⟩, .refl _,B,p,fun _ e=>e⟩
theorem Ext.trans {s s' s'':Shared}(x:Ext G s s')(y:Ext G s' s''):Ext G s s'':=
 ⟨iS x.same y.same,x.keep.trans y.keep,y.base,y.pos,fun b e=>x.back b (y.back b e)⟩
theorem Ext.tok (x:Ext G s s')(p:0<t):Ext G s { s' with toks:=t }:=
 ⟨x.same,x.keep,x.base,p,x.back⟩
theorem Ext.all {s:Shared}{h':Heap}(B:aX G s.heap)(k:∀b o,s.heap.get? b=some o->h'.get? b=some o)(p:0<t):Ext G s { s with heap:=h',toks:=t }:=
 ⟨⟨rfl,rfl⟩, .of k,B.all k,p,fun b e=>bA (k b) e⟩
def dB (O:a9)(h:Heap):Prop:=∀a∈O,∃o,h.get? a=some o/\gu o
theorem dB.keep (x:dB O h)(k:eh h h'):dB O h':=fun a m=>let⟨o,e,q⟩:=x a m;⟨o,k a o e q,q⟩
theorem dB.new (x:dB O h)(e:h.get? a=none):a∉O:=fun m=>by obtain⟨o,q,_⟩:=x a m;rw[e]at q;exact nn q
theorem ax (h:Heap):h.get? h.objs.size=none:=by
 cases e:h.get? h.objs.size with
 |none=>rfl
 |some o=>exact absurd (Heap.lt_size e) (Nat.lt_irrefl _)
noncomputable abbrev br (G:GC):Model:=model G.prog G.w
def dW (G:GC)(A:Around)(O:a9)(t:Sem Value)(s:Shared)(d:D):Prop:=
 ∀(Q:bg)(E:bg),(∀v s',Ext G s s'->av G.w O s'.heap v d->Q v s')->wpAny (br G) A t Q E s
def Lk (G:GC)(A:Around)(O:a9)(t:Sem eU)(s:Shared)(ds:List D):Prop:=
 ∀(Q:eU->Shared->Prop)(E:bg),(∀vs s',Ext G s s'->ai G.w O s'.heap vs ds->Q vs s')->wpAny (br G) A t Q E s
def wK (G:GC)(A:Around)(t:Sem Bool)(s:Shared)(b:Bool):Prop:=
 ∀(Q:Bool->Shared->Prop)(E:bg),(∀s',Ext G s s'->Q b s')->wpAny (br G) A t Q E s
abbrev aB:=List (Nat × D)
def aB.get (ρ:aB)(n:Nat):Option D:=List.lookup n ρ
def aB.set:aB->Nat->D->aB
 |[],n,d=>[(n,d)]
 |(m,e)::r,n,d=>if m=n then(n,d)::r else(m,e)::aB.set r n d
theorem aB.get_cons (p:Nat × D)(r:aB)(m:Nat):aB.get (p::r) m=if m=p.1 then some p.2 else aB.get r m:=by
 obtain⟨k,e⟩:=p;show List.lookup m ((k,e)::r)=_;rw[List.lookup_cons];by_cases h:m=k
 .subst h;simp
 .have hb:(m==k)=false:=beq_eq_false_iff_ne.mpr h;rw[hb,if_neg h];rfl
theorem aB.get_set (ρ:aB)(n m:Nat)(d:D):(aB.set ρ n d).get m=if m=n then some d else ρ.get m:=by
 induction ρ with
 |nil=>exact aB.get_cons (n,d) [] m
 |cons p r ih =>
  obtain⟨k,e⟩:=p;show aB.get (if k=n then _ else _) m=_;by_cases hk:k=n
  .subst hk;rw[if_pos rfl,aB.get_cons,aB.get_cons];by_cases h:m=k
   .simp[h]
   .simp[h]
  .rw[if_neg hk,aB.get_cons,aB.get_cons,ih];by_cases h:m=k
   .subst h;simp[hk]
   .simp[h]
structure dK where
 ns:aH
 at':Nat->Option Addr
def sM (w:World)(oa:Option Addr)(O:a9)(h:Heap)(v:Value)(d:D):Prop:=∃a vs xs,oa=some a/\v=.ref a/\a∈O/\d=.list xs/\xs.length<=16777216/\h.PlainList a vs/\ai w O h vs.toList xs
def cG (w:World)(own:dK)(n:Nat)(O:a9)(h:Heap)(v:Value)(d:D):Prop:=if n∈own.ns then sM w (own.at' n) O h v d else av w O h v d
theorem vE (l:h.IsList a vs)(k:eh h h'):h'.IsList a vs:=let⟨o,e,c,r⟩:=l;⟨o,k a o e (.inl (by rw[c];nofun)),c,r⟩
theorem bq (l:h.PlainList a vs)(k:eh h h'):h'.PlainList a vs:=let⟨n,e⟩:=l;⟨n,k a _ e (.inl nofun)⟩
theorem sM.keep (x:sM w oa O h v d)(k:eh h h'):sM w oa O h' v d:=by obtain⟨a,vs,xs,y,e,m,q,z,l,r⟩:=x;exact⟨a,vs,xs,y,e,m,q,z,bq l k,r.keep k⟩
set_option tactic.hygienic true in
theorem cG.keep (x:cG w own n O h v d)(k:eh h h'):cG w own n O h' v d:=by
 unfold cG at *;split at x
 .rename_i q;rw[if_pos q];exact x.keep k
 .rename_i q;rw[if_neg q];exact x.keep k
theorem cG.lst {w:World}{own:dK}{n:Nat}{O:a9}{h:Heap}{v:Value}{xs:List D}(r:cG w own n O h v (.list xs))(ho:n∈own.ns):∃a vs,own.at' n=some a/\v=.ref a/\a∈O/\xs.length<=16777216/\h.PlainList a vs/\ai w O h vs.toList xs:=by unfold cG at r;rw[if_pos ho]at r;obtain⟨a,vs,ys,y,rfl,m,e,z,l,r⟩:=r;cases e;exact⟨a,vs,y,rfl,m,z,l,r⟩
theorem j8 (hn:h.Ns a m)(k:eh h h'):h'.Ns a m:=
 let⟨o,es,ep,e,d,r⟩:=hn;⟨o,es,ep,k _ _ e (.inr fun vs q=>by rw[d]at q;cases q),d,r⟩
theorem fc (x:h.IsCell c v)(k:eh h h'):h'.IsCell c v:=
 let⟨o,e,d⟩:=x;⟨o,k _ _ e (.inr fun vs q=>by rw[d]at q;cases q),d⟩
structure fM (G:GC)(env:Env)(own:dK)(O:a9)(ρ:aB)(h:Heap):Prop where
 fn:env.scope.kind=.function
 gl:env.globals=mainGlobals
 bi:env.builtins=builtinsNs
 lin:env.locals∈O
 lfr:G.h₀.get? env.locals=none
 oin:∀n a,own.at' n=some a->a∈O
 cin:∀x c,env.cells.lookup x=some c->c∈O/\G.h₀.get? c=none
 inj:∀x y c,env.cells.lookup x=some c->env.cells.lookup y=some c->x=y
 ce:∀x,(env.kindOf x=some .cell\/env.kindOf x=some .free)->∃c v,env.cells.lookup x=some c/\h.IsCell c v
 ns:∃m,h.Ns env.locals m/\∀n x d,G.names[n]?=some x->env.kindOf x=some .local->ρ.get n=some d->∃v,m x=some v/\cG G.w own n O h v d
 cl:∀n x d,G.names[n]?=some x->(env.kindOf x=some .cell\/env.kindOf x=some .free)->ρ.get n=some d->∃c v,env.cells.lookup x=some c/\h.IsCell c (some v)/\cG G.w own n O h v d
theorem fM.keep (x:fM G env own O ρ h)(k:eh h h'):fM G env own O ρ h' where
 fn:=x.fn
 gl:=x.gl
 bi:=x.bi
 lin:=x.lin
 lfr:=x.lfr
 oin:=x.oin
 cin:=x.cin
 inj:=x.inj
 ce:=fun y hy=>let⟨c,v,e,q⟩:=x.ce y hy;⟨c,v,e,fc q k⟩
 ns:=let⟨m,a,b⟩:=x.ns;⟨m,j8 a k,fun n y d h1 h2 h3=>let⟨v,e,r⟩:=b n y d h1 h2 h3;⟨v,e,r.keep k⟩⟩
 cl:=fun n y d h1 h2 h3=>let⟨c,v,e,q,r⟩:=x.cl n y d h1 h2 h3;⟨c,v,e,fc q k,r.keep k⟩
noncomputable def cC:List Str:=["len", "sum", "max", "min", "int", "ord", "chr", "divmod", "isinstance", "range", "enumerate", "zip", "reversed", "list", "sorted", "set", "bool"]
theorem aI.ns (k:aI W h h')(q:a∉W)(hn:h.Ns a m):h'.Ns a m:=
 let⟨o,es,ep,e,d,r⟩:=hn;⟨o,es,ep,k _ _ q e (.inr fun vs q=>by rw[d]at q;cases q),d,r⟩
theorem aI.cell (k:aI W h h')(q:c∉W)(x:h.IsCell c v):h'.IsCell c v:=
 let⟨o,e,d⟩:=x;⟨o,k _ _ q e (.inr fun vs q=>by rw[d]at q;cases q),d⟩
theorem aI.plain (k:aI W h h')(q:a∉W)(l:h.PlainList a vs):h'.PlainList a vs:=let⟨n,e⟩:=l;⟨n,k a _ q e (.inl nofun)⟩
set_option tactic.hygienic true in
theorem cG.but (x:cG w own n O h v d)(k:aI W h h')(hn:bG O W h)(ho:∀a vs,own.at' n=some a->h.PlainList a vs->a∉W):cG w own n O h' v d:=by
 unfold cG at *;split at x
 .rename_i q;rw[if_pos q];obtain⟨a,vs,xs,y,e,m,q,z,l,r⟩:=x;exact⟨a,vs,xs,y,e,m,q,z,k.plain (ho a _ y l) l,r.but k hn⟩
 .rename_i q;rw[if_neg q];exact av.but x k hn
theorem fM.but (x:fM G env own O ρ h)(k:aI W h h')(hn:bG O W h)(hl:env.locals∉W)(hc:∀y c,env.cells.lookup y=some c->c∉W)
  (ho:∀n a vs,own.at' n=some a->h.PlainList a vs->a∉W):fM G env own O ρ h' where
 fn:=x.fn
 gl:=x.gl
 bi:=x.bi
 lin:=x.lin
 lfr:=x.lfr
 oin:=x.oin
 cin:=x.cin
 inj:=x.inj
 ce:=fun y hy=>let⟨c,v,e,q⟩:=x.ce y hy;⟨c,v,e,k.cell (hc _ _ e) q⟩
 ns:=let⟨m,a,b⟩:=x.ns;⟨m,k.ns hl a,fun n y d h1 h2 h3=>let⟨v,e,r⟩:=b n y d h1 h2 h3;⟨v,e,r.but k hn (ho n)⟩⟩
 cl:=fun n y d h1 h2 h3=>let⟨c,v,e,q,r⟩:=x.cl n y d h1 h2 h3;⟨c,v,e,k.cell (hc _ _ e) q,r.but k hn (ho n)⟩
theorem fM.weaken (x:fM G env own O ρ h)(k:∀n d,ρ'.get n=some d->ρ.get n=some d):fM G env own O ρ' h:=
 { x with ns:=let⟨m,a,b⟩:=x.ns;⟨m,a,fun n y d h1 h2 h3=>b n y d h1 h2 (k n d h3)⟩,cl:=fun n y d h1 h2 h3=>x.cl n y d h1 h2 (k n d h3) }
structure bl (G:GC)(W:a9)(s s':Shared):Prop where
 same:s'.gens=s.gens/\s'.os=s.os
 keep:aI W s.heap s'.heap
 base:aX G s'.heap
 pos:0<s'.toks
 back:∀b,b∉W->s'.heap.get? b=none->s.heap.get? b=none
theorem bl.refl (B:aX G s.heap)(p:0<s.toks):bl G W s s:=⟨⟨rfl,rfl⟩, .of_keep (.refl _),B,p,fun _ _ e=>e⟩
theorem bl.trans {W:a9}{s s' s'':Shared}(x:bl G W s s')(y:bl G W s' s''):bl G W s s'':=
 ⟨iS x.same y.same,x.keep.trans y.keep,y.base,y.pos,fun b m e=>x.back b m (y.back b m e)⟩
theorem Ext.sext (x:Ext G s s'):bl G W s s':=⟨x.same, .of_keep x.keep,x.base,x.pos,fun b _ e=>x.back b e⟩
theorem bl.mono (x:bl G W s s')(q:∀a∈W,a∈W'):bl G W' s s':=⟨x.same,x.keep.mono q,x.base,x.pos,fun b m e=>x.back b (fun n=>m (q b n)) e⟩
theorem bl.ext (x:bl G W s s')(q:∀a∈W,s.heap.get? a=none):Ext G s s':=
 ⟨x.same,fun b o e c=>x.keep b o (fun m=>by rw[q b m]at e;exact nn e) e c,x.base,x.pos,fun b e=>if m:b∈W then q b m else x.back b m e⟩
structure oI (G:GC):Prop where
 g:G.h₀.Ns mainGlobals G.mg
 b:G.h₀.Ns builtinsNs G.mb
 lim:G.h₀.NoLimit
 nd:G.names.Nodup
 nb:∀x∈cC,G.mg x=none
 bt:∀x:Str,x ≠ "__name__" -> G.mb x=bootBuiltins x
 bm:∃bm o,G.mg "__builtins__" = some (.ref bm)/\bm≠builtinsNs/\bm≠mainGlobals/\G.h₀.get? bm=some o/\o.cls=.type "module" /\ o.dict=some builtinsNs/\o.data=.plain
structure di (G:GC)(A:Around)(env:Env)(own:dK)(O:a9)(ρ:aB)(s:Shared):Prop where
 ok:oI G
 hh:A.handled=none
 base:aX G s.heap
 pos:0<s.toks
 ov:dB O s.heap
 envr:fM G env own O ρ s.heap
theorem di.ext (x:di G A env own O ρ s)(e:Ext G s s'):di G A env own O ρ s':=
 ⟨x.ok,x.hh,e.base,e.pos,x.ov.keep e.keep,x.envr.keep e.keep⟩
theorem m8 (I:di G A env own O ρ s) 
  (hn:G.names[n]?=some x)(hk:env.kindOf x=some k)(hkk:k=.local\/k=.cell\/k=.free)(hx:(x==("__classdict__" : Str))=false) (hg:ρ.get n=some d)(h:∀v,cG G.w own n O s.heap v d->Q v s) :
  wpAny (br G) A (loadName env x) Q E s:=by
 rcases hkk with rfl|rfl|rfl
 .obtain⟨m,h1,h2⟩:=I.envr.ns;obtain⟨v,e,r⟩:=h2 n x d hn hk hg;exact wpAny_loadName_local I.envr.fn hk h1 e (h v r)
 .obtain⟨c,v,e,q,r⟩:=I.envr.cl n x d hn (.inl hk) hg;exact wpAny_loadName_cell I.envr.fn hk e q (h v r)
 .obtain⟨c,v,e,q,r⟩:=I.envr.cl n x d hn (.inr hk) hg;exact wpAny_loadName_free I.envr.fn hk e q (h v r) hx
variable {G:GC}{A:Around}{O:a9}{s:Shared}{d:D}
theorem dW.of {t:Sem Value}(B:aX G s.heap)(p:0<s.toks)
  (h:∀(Q:bg)(E:bg),(∀v h' tk,(∀b o,s.heap.get? b=some o->h'.get? b=some o)->av G.w O h' v d->Q v { s with heap:=h',toks:=tk })->wpAny (br G) A t Q E s) :
  dW G A O t s d:=fun Q E q=>by
 refine wpAny_with_toks (n:=1) p (h _ _ fun v h' tk k r=>?_);intro p';exact q v _ (.all B k p') r
theorem dW.of0 {t:Sem Value}(B:aX G s.heap)(p:0<s.toks)
  (h:∀(Q:bg)(E:bg),(∀v tk,av G.w O s.heap v d->Q v { s with toks:=tk })->wpAny (br G) A t Q E s) :
  dW G A O t s d:=dW.of B p fun Q E q=>h Q E fun v tk r=>q v s.heap tk (fun _ _ e=>e) r
noncomputable abbrev ib (a:Int):Nat:=Builtin.Int.intBits a
def fits (a:Int):Bool:=decide (ib a<=100000)
def ej (o:Operator)(a b:Int):Option D:=match o with
 |.Add=>some (.int (a+b))
 |.Sub=>some (.int (a-b))
 |.Mult=>if fits a&&fits b then some (.int (a*b))else none
 |.FloorDiv=>if b != 0&&decide (b.natAbs.log2<9000)then some (.int (a.fdiv b))else none
 |.Mod=>if b != 0 then some (.int (a.fmod b))else none
 |.Pow=>if decide (0<=b)&&decide ((ib a:Int)*b<=2^27)then some (.int (a^b.toNat))else none
 |.LShift=>if decide (0<=b)&&decide ((ib a:Int)+b<=2^27)then some (.int (a*2^b.toNat))else none
 |.RShift=>if decide (0<=b)then some (.int (a.fdiv (2^b.toNat)))else none
 |.BitAnd=>some (.int (Builtin.bitAnd a b))
 |.BitOr=>some (.int (Builtin.bitOr a b))
 |.BitXor=>some (.int (Builtin.bitXor a b))
 |_=>none
theorem ah {a b:Bool}(h:(a&&b)=true):a=true/\b=true:=bH h
theorem La {b:Int}(h:(b != 0)=true):b≠0:=by simpa using h
theorem G5 {a b:Int}(h:(fits a&&fits b)=true):IntMulOk a b:=by
 obtain⟨h1,h2⟩:=bH h;have h1:=bX h1;have h2:=bX h2;unfold IntMulOk;intro c;obtain⟨_,c⟩:=bH c;have c:(ib a:Int)+(ib b:Int) > ((2^27:Nat):Int):=bX c;have e:((2^27:Nat):Int)=134217728:=by decide
 rw[e]at c
 lia
theorem ay {c:Bool}{x r:D}(h:(if c then some x else none)=some r):c=true/\x=r:=by
 cases c
 .exact nn h
 .exact⟨rfl,aC h⟩
theorem wT (B:aX G s.heap)(p:0<s.toks){o:Operator}{a b:Int}{t u:Tok}(h:ej o a b=some d):dW G A O (binaryOp o (.int a t) (.int b u)) s d:=by
 refine dW.of0 B p fun Q E q=>?_;have key:∀i:Int, .int i=d->∀tk,Q (.int i tk) { s with toks:=s.toks+1 }:=fun i e tk=>q _ _ (e▸.int);rcases o with⟨⟩|⟨⟩
 case Add=>exact PyProof.Rows.add_int (key _ (aC h) _)
 case Sub=>exact PyProof.Rows.sub_int (key _ (aC h) _)
 case Mult=>exact P.mul_int (key _ (ay h).2 _) (G5 (ay h).1)
 case FloorDiv=>exact PyProof.Rows.floordiv_int (La (ah (ay h).1).1) (key _ (ay h).2 _) (.inl (PyProof.noPylong_of_log2 (bX (ah (ay h).1).2)))
 case Mod=>exact PyProof.Rows.mod_int' (La (ay h).1) (key _ (ay h).2 _)
 case Pow=>exact PyProof.Rows.pow_int (bX (ah (ay h).1).1) (bX (ah (ay h).1).2) (key _ (ay h).2 _)
 case LShift=>exact PyProof.Rows.lshift_int (bX (ah (ay h).1).1) (bX (ah (ay h).1).2) (key _ (ay h).2 _)
 case RShift=>exact PyProof.Rows.rshift_int (bX (ay h).1) (key _ (ay h).2 _)
 case BitAnd=>exact PyProof.Rows.and_int (key _ (aC h) _)
 case BitOr=>exact PyProof.Rows.or_int (key _ (aC h) _)
 case BitXor=>exact PyProof.Rows.xor_int (key _ (aC h) _)
 all_goals exact nn h
theorem vw (B:aX G s.heap)(p:0<s.toks){o:Operator}{a b:Int}{t u:Tok}(h:ej o a b=some d):dW G A O (inplaceOp o (.int a t) (.int b u)) s d:=by
 refine dW.of0 B p fun Q E q=>?_;have key:∀i:Int, .int i=d->∀tk,Q (.int i tk) { s with toks:=s.toks+1 }:=fun i e tk=>q _ _ (e▸.int);rcases o with⟨⟩|⟨⟩
 case Add=>exact PyProof.Rows.iadd_int (key _ (aC h) _)
 case Sub=>exact PyProof.Rows.isub_int (key _ (aC h) _)
 case Mult=>exact P.imul_int (key _ (ay h).2 _) (G5 (ay h).1)
 case FloorDiv=>exact PyProof.Rows.ifloordiv_int (La (ah (ay h).1).1) (key _ (ay h).2 _) (.inl (PyProof.noPylong_of_log2 (bX (ah (ay h).1).2)))
 case Mod=>exact PyProof.Rows.imod_int (La (ay h).1) (key _ (ay h).2 _)
 case Pow=>exact PyProof.Rows.ipow_int (bX (ah (ay h).1).1) (bX (ah (ay h).1).2) (key _ (ay h).2 _)
 case LShift=>exact PyProof.Rows.ilshift_int (bX (ah (ay h).1).1) (bX (ah (ay h).1).2) (key _ (ay h).2 _)
 case RShift=>exact PyProof.Rows.irshift_int (bX (ay h).1) (key _ (ay h).2 _)
 case BitAnd=>exact PyProof.Rows.iand_int (key _ (aC h) _)
 case BitOr=>exact PyProof.Rows.ior_int (key _ (aC h) _)
 case BitXor=>exact PyProof.Rows.ixor_int (key _ (aC h) _)
 all_goals exact nn h
end
section
variable {G:GC}{A:Around}{O:a9}{s:Shared}{d:D}
theorem bh:sizeLine=16777216:=by decide
theorem Da (B:aX G s.heap)(p:0<s.toks)(ov:dB O s.heap)(r:ai G.w O s.heap vs ds)(hl:ds.length<=16777216):dW G A O (newList vs) s (.list ds):=by
 refine dW.of B p fun Q E q=>?_;have hk:∀b o,s.heap.get? b=some o->(s.heap.push { cls:=.type "list",data:=.seq vs.toArray }).get? b=some o:=fun b o e=>fO _ e;refine wpAny_newObj_type (q _ _ _ hk ?_) (by show vs.toArray.size<=sizeLine;rw[List.size_toArray,r.length,bh];exact hl);refine av.list_of hl (ov.new (ax _)) ⟨_,ie _ rfl,rfl,_,rfl⟩ (lc rfl rfl) ?_
 simpa using r.keep (.of hk)
theorem AD (B:aX G s.heap)(p:0<s.toks)(r:ai G.w O s.heap vs ds)(hl:ds.length<=16777216):dW G A O (newTuple vs) s (.tuple ds):=by
 refine dW.of B p fun Q E q=>?_;have hk:∀b o,s.heap.get? b=some o->(s.heap.push { cls:=.type "tuple",data:=.seq vs.toArray }).get? b=some o:=fun b o e=>fO _ e;refine wpAny_newObj_type (q _ _ _ hk ?_) (by show vs.toArray.size<=sizeLine;rw[List.size_toArray,r.length,bh];exact hl);refine av.tuple_of hl ⟨_,ie _ rfl,rfl,_,rfl⟩ ?_
 simpa using r.keep (.of hk)
theorem sok_str:sok (.str x)=true↔PyData.strOk x=true/\x.length<=16777216:=by show(PyData.strOk x&&decide (x.length<=16777216))=true↔_;rw[g9,kh]
theorem tY (hx:PyData.strOk x=true)(hy:PyData.strOk y=true):PyData.strOk (x++y)=true:=by show(x.cps++y.cps).all (· < 0x110000)=true;rw[Array.all_append];exact kY ⟨hx,hy⟩
theorem Bo (B:aX G s.heap)(p:0<s.toks)(hx:sok (.str x)=true)(hy:sok (.str y)=true)(hl:x.length+y.length<=16777216) :
  dW G A O (binaryOp .Add (.str x t) (.str y u)) s (.str (x++y)):=by
 refine dW.of0 B p fun Q E q=>PyProof.Rows.add_str (fun t' tk=>q _ _ (.str ?_)) (by rw[bh];exact hl);exact sok_str.mpr ⟨tY (sok_str.mp hx).1 (sok_str.mp hy).1,by rw[strLen_append];exact hl⟩
noncomputable def jL (n:Nat)(x:Str):Str:=⟨(List.replicate n x.cps.toList).flatten.toArray⟩
theorem yf (n:Nat)(x:Str):(⟨(List.replicate n x.cps).foldl (· ++ ·) #[]⟩:Str)=jL n x:=by
 have h:∀(l:List (Array Nat))(acc:Array Nat),l.foldl (· ++ ·) acc=(acc.toList++(l.map (·.toList)).flatten).toArray:=by
  intro l
  induction l with
  |nil=>intro acc;simp
  |cons a r ih=>intro acc;rw[List.foldl_cons,ih];simp
 unfold jL;rw[h];simp
theorem D4 (x:Str):jL 1 x=x:=by unfold jL;simp
theorem ye (h:x.length=0):jL n x=x:=by obtain⟨c⟩:=x;have h:c.size=0:=h;have:c=#[]:=Array.eq_empty_of_size_eq_zero h;subst this;unfold jL;simp
theorem wf (n:Nat)(x:Str):(jL n x).length=n*x.length:=by show((List.replicate n x.cps.toList).flatten.toArray).size=n*x.cps.size;simp
theorem Gx (h:PyData.strOk x=true):PyData.strOk (jL n x)=true:=by show((List.replicate n x.cps.toList).flatten.toArray).all (· < 0x110000)=true;have h':x.cps.all (· < 0x110000)=true:=h;rw[Array.all_eq_true_iff_forall_mem]at *;intro c hc;simp only[List.mem_toArray,List.mem_flatten,List.mem_replicate]at hc;obtain⟨l,⟨_,rfl⟩,hc⟩:=hc;exact h' c (by simpa using hc)
set_option tactic.hygienic true in
theorem C3 (B:aX G s.heap)(p:0<s.toks)(hx:sok (.str x)=true)(h0:0<=n)(h1:n<=16777216)(hl:x.length*n.toNat<=16777216) :
  dW G A O (binaryOp .Mult (.str x t) (.int n u)) s (.str (jL n.toNat x)):=by
 refine dW.of0 B p fun Q E q=>?_;have hok:sok (.str (jL n.toNat x))=true:=sok_str.mpr ⟨Gx (sok_str.mp hx).1,by rw[wf,Nat.mul_comm];exact hl⟩;have e63:(2:Int)^63=9223372036854775808:=by decide
 have e24:(2:Nat)^24=16777216:=by decide
 refine P.mul_str (by rw[fH (show¬ n < -(2^63:Int) by lia),fH (show¬ n ≥ 2^63 by lia)];rfl) (fun h2 _ h3=>?_) (fun _ _=>?_) ?_
 .have hxl:=(sok_str.mp hx).2;have h4:(549755813887:Int)<=(2^63-1) / n:=by
   rw[e63];refine(Int.le_ediv_iff_mul_le (by lia)).mpr ?_
   lia
  lia
 .unfold Builtin.Str.tooLong sizeLine;rw[e24];exact fH (by lia)
 .split
  .rename_i h;have e:n.toNat=0:=by lia
   rw[e]at hok q;refine⟨by decide, ?_⟩;have:Str.empty=jL 0 x:=by unfold jL;rfl
   rw[this];exact q _ _ (.str hok)
  .split
   .rename_i h;rcases Bool.or_eq_true_iff.mp h with h|h
    .have e:n.toNat=1:=by have:=eC h;lia
     rw[e,D4]at q;exact q _ s.toks (.str hx)
    .have h:x.length=0:=eC h;rw[ye h]at q;exact q _ s.toks (.str hx)
   .rw[yf];exact⟨by rw[wf,bh,Nat.mul_comm];exact hl,q _ _ (.str hok)⟩
theorem ai.rep (r:ai w O h vs ds):∀n:Nat,ai w O h (List.replicate n vs).flatten (List.replicate n ds).flatten
 |0=>.nil
 |n+1=>by simp only[List.replicate_succ,List.flatten_cons];exact r.append (r.rep n)
theorem Bn (B:aX G s.heap)(p:0<s.toks)(ov:dB O s.heap)(la:s.heap.IsList a vs)(lb:s.heap.IsList b ws)(ra:ai G.w O s.heap vs.toList xs)(rb:ai G.w O s.heap ws.toList ys)
  (hl:xs.length+ys.length<=16777216):dW G A O (binaryOp .Add (.ref a) (.ref b)) s (.list (xs++ys)):=by
 refine dW.of B p fun Q E q=>?_;obtain⟨⟨cls,dd,data,sl⟩,ho,hc,n,hd⟩:=id la;obtain⟨⟨cls2,dd2,data2,sl2⟩,ho2,hc2,n2,hd2⟩:=id lb;simp only at hc hd hc2 hd2;subst hc hd hc2 hd2;have hk:∀o b' o',s.heap.get? b'=some o'->(s.heap.push o).get? b'=some o':=fun o b' o' e=>fO _ e;have hsz:vs.size+ws.size<=sizeLine:=by have e1:=ra.length;have e2:=rb.length;simp only[jR]at e1 e2;rw[bh];lia
 refine concat_meets ⟨_,ho,rfl⟩ ⟨_,ho2,rfl⟩ noFill_list_add seq_list_add PySem.F.slot_list_add PySem.F.entry_list_add (PySem.F.args_list_add_2 _ _) (list_addW a b vs ws n n2 dd dd2 sl sl2 hsz) ⟨ho,ho2, ?_⟩;refine q _ _ _ (hk _) (.list_of (by rw[lla];exact hl) (ov.new (ax _)) ⟨_,ie _ rfl,rfl,_,rfl⟩ (lc rfl rfl) ?_);rw[Array.toList_append];exact(ra.keep (.of (hk _))).append (rb.keep (.of (hk _)))
theorem AA (B:aX G s.heap)(p:0<s.toks)(ov:dB O s.heap)(la:s.heap.IsList a vs)(ra:ai G.w O s.heap vs.toList xs)
  (h0:0<=n)(h1:n<=16777216)(hl:xs.length*n.toNat<=16777216):dW G A O (binaryOp .Mult (.ref a) (.int n u)) s (.list (List.replicate n.toNat xs).flatten):=by
 refine dW.of B p fun Q E q=>?_;obtain⟨⟨cls,d,data,sl⟩,ho,hcl,k,hd⟩:=id la;simp only at hcl hd;subst hcl hd;have e63:(2:Int)^63=9223372036854775808:=by decide
 have e24:(2:Nat)^24=16777216:=by decide
 have e1:=ra.length;simp only[jR]at e1;have hsz':vs.size*n.toNat<=2^24:=by rw[e1,e24];exact hl
 refine wpAny_binaryOp_repeat_ref (T:="list") (U:="int") (by decide) ⟨_,ho,rfl⟩ (fun s'=>typeIs_int s' n u) noFill_list_mul F.fills_int_mul F.slot_int_rmul repeat_list F.slot_int_index.lookup
  (call_meets F.slot_int_rmul (typeIs_int s n u) F.entry_int_rmul (F.args_int_rmul_2 _ _) (lm_int_rmul_list_any n u a vs k d sl)
   ⟨ho,rfl,⟨_,ho,rfl⟩,call_meets F.slot_list_mul ⟨_,ho,rfl⟩ F.entry_list_mul (F.args_list_mul_2 _ _)
    (lm_list_mul_any a vs k d sl n u (by simp[Builtin.List.listFitsIndex];lia) (by lia) (by simp[Builtin.List.listTooLong,sizeLine];assumption))
    ⟨ho, ?_⟩⟩)
 have hk:∀o b' o',s.heap.get? b'=some o'->(s.heap.push o).get? b'=some o':=fun o b' o' e=>fO _ e;refine q _ _ _ (hk _) (.list_of (by rw[lm_len_rep_flat,Nat.mul_comm];exact hl) (ov.new (ax _)) ⟨_,ie _ rfl,rfl,_,rfl⟩ (lc rfl rfl) ?_);rw[listMul_foldl_if]
 simpa using(ai.rep ra n.toNat).keep (.of (hk _))
noncomputable def d1 {β:Type}(ds:List D)(k:D->Option β):Option β:=match ds with|[d]=>k d|_=>none
noncomputable def d2 {β:Type}(ds:List D)(k:D->D->Option β):Option β:=match ds with|[d,e]=>k d e|_=>none
theorem hF {β:Type}{ds:List D}{k:D->Option β}{r:β}(h:d1 ds k=some r):∃d,ds=[d]/\k d=some r:=by
 cases ds with
 |nil=>exact nn h
 |cons d ds=>cases ds with
  |nil=>exact⟨d,rfl,h⟩
  |cons e ds=>exact nn h
theorem o8 {β:Type}{ds:List D}{k:D->D->Option β}{r:β}(h:d2 ds k=some r):∃d e,ds=[d,e]/\k d e=some r:=by
 cases ds with
 |nil=>exact nn h
 |cons d ds=>cases ds with
  |nil=>exact nn h
  |cons e ds=>cases ds with
   |nil=>exact⟨d,e,rfl,h⟩
   |cons f ds=>exact nn h
noncomputable def ix {β:Type}(d:D)(k:Str->Option β):Option β:=match d with|.str x=>k x|_=>none
noncomputable def dQ {β:Type}(d:D)(k:Int->Option β):Option β:=match d with|.int x=>k x|_=>none
noncomputable def p9 {β:Type}(d:D)(k:List D->Option β):Option β:=match d with|.list x=>k x|_=>none
theorem gU {β:Type}{d:D}{k:Str->Option β}{r:β}{P:D->Prop}(h:ix d k=some r)(q:∀x,k x=some r->P (.str x)):P d:=by
 cases d with
 |str x=>exact q x h
 |_=>exact nn h
theorem oB {β:Type}{d:D}{k:Int->Option β}{r:β}{P:D->Prop}(h:dQ d k=some r)(q:∀x,k x=some r->P (.int x)):P d:=by
 cases d with
 |int x=>exact q x h
 |_=>exact nn h
theorem BT {ds:List D}{k:D->Option D}{r:D}{P:List D->Prop}(h:d1 ds k=some r)(q:∀d,k d=some r->P [d]):P ds:=by obtain⟨d,rfl,h⟩:=hF h;exact q d h
theorem JD {ds:List D}{k:D->D->Option D}{r:D}{P:List D->Prop}(h:d2 ds k=some r)(q:∀d e,k d e=some r->P [d,e]):P ds:=by obtain⟨d,e,rfl,h⟩:=o8 h;exact q d e h
theorem lH (h:ix d k=some r):∃x,d=.str x/\k x=some r:=gU (P:=fun d=>∃x,d=.str x/\k x=some r) h fun x e=>⟨x,rfl,e⟩
theorem bj (h:dQ d k=some r):∃x,d=.int x/\k x=some r:=oB (P:=fun d=>∃x,d=.int x/\k x=some r) h fun x e=>⟨x,rfl,e⟩
def i2 (ds:List D)(k:Int->Int->Option D):Option D:=d2 ds fun a b=>dQ a fun a=>dQ b fun b=>k a b
theorem pG (h:i2 ds k=some r):∃a b,ds=[.int a, .int b]/\k a b=some r:=by obtain⟨a,b,rfl,h⟩:=o8 h;obtain⟨a,rfl,h⟩:=bj h;obtain⟨b,rfl,h⟩:=bj h;exact⟨a,b,rfl,h⟩
theorem d9 (h:p9 d k=some r):∃x,d=.list x/\k x=some r:=by
 cases d with
 |list x=>exact⟨x,rfl,h⟩
 |_=>exact nn h
theorem gz [Decidable p](h:(if p then some x else none)=some r):p/\x=r:=by
 by_cases c:p
 .rw[if_pos c]at h;exact⟨c,aC h⟩
 .rw[if_neg c]at h;exact nn h
noncomputable def AH (o o':Operator)(r:Option D):Option D:=if o=o' then r else none
theorem lQ (h:AH o o' r=some d):o=o'/\r=some d:=by
 unfold AH at h;by_cases e:o=o'
 .rw[if_pos e]at h;exact⟨e,h⟩
 .rw[if_neg e]at h;exact nn h
def cX (o:Operator)(a b:D):Option D:=match a with
 |.int a=>dQ b fun b=>ej o a b
 |.str x=>match b with
  |.str y=>AH o .Add (if decide (x.length+y.length<=16777216)then some (.str (x++y))else none)
  |.int n=>AH o .Mult (if decide (0<=n)&&decide (n<=16777216)&&decide (x.length*n.toNat<=16777216)then some (.str (jL n.toNat x))else none)
  |_=>none
 |.list xs=>match b with
  |.list ys=>AH o .Add (if decide (xs.length+ys.length<=16777216)then some (.list (xs++ys))else none)
  |.int n=>AH o .Mult (if decide (0<=n)&&decide (n<=16777216)&&decide (xs.length*n.toNat<=16777216)then some (.list (List.replicate n.toNat xs).flatten)else none)
  |_=>none
 |_=>none
theorem mE (B:aX G s.heap)(p:0<s.toks)(ov:dB O s.heap)(ra:av G.w O s.heap u a)(rb:av G.w O s.heap v b)(h:cX o a b=some d) :
  dW G A O (binaryOp o u v) s d:=by
 cases a with
 |int a =>
  obtain⟨b,rfl,g⟩:=bj h;clear h;obtain⟨t,rfl⟩:=ra.int_inv;obtain⟨t',rfl⟩:=rb.int_inv;exact wT B p g
 |str x =>
  have sa:=ra.sok;have sb:=rb.sok;obtain⟨t,rfl⟩:=ra.str_inv;cases b with
  |str y =>
   obtain⟨t',rfl⟩:=rb.str_inv;obtain⟨rfl,g⟩:=lQ h;clear h;obtain⟨c,rfl⟩:=ay g;exact Bo B p sa sb (bX c)
  |int n =>
   obtain⟨t',rfl⟩:=rb.int_inv;obtain⟨rfl,g⟩:=lQ h;clear h;obtain⟨c,rfl⟩:=ay g;simp only[g9,kh]at c;exact C3 B p sa c.1.1 c.1.2 c.2
  |_=>exact nn h
 |list xs =>
  obtain⟨a',vs,rfl,_,la,ra'⟩:=ra.list_inv;cases b with
  |list ys =>
   obtain⟨b',ws,rfl,_,lb,rb'⟩:=rb.list_inv;obtain⟨rfl,g⟩:=lQ h;clear h;obtain⟨c,rfl⟩:=ay g;exact Bn B p ov la lb ra' rb' (bX c)
  |int n =>
   obtain⟨t',rfl⟩:=rb.int_inv;obtain⟨rfl,g⟩:=lQ h;clear h;obtain⟨c,rfl⟩:=ay g;simp only[g9,kh]at c;exact AA B p ov la ra' c.1.1 c.1.2 c.2
  |_=>exact nn h
 |_=>exact nn h
def sX (o:Operator)(a b:D):Option D:=dQ a fun a=>dQ b fun b=>ej o a b
theorem xn (B:aX G s.heap)(p:0<s.toks)(ra:av G.w O s.heap u a)(rb:av G.w O s.heap v b)(h:sX o a b=some d) :
  dW G A O (inplaceOp o u v) s d:=by
 obtain⟨x,rfl,g⟩:=bj (d:=a) (k:=fun a=>dQ b fun b=>ej o a b) h;obtain⟨y,rfl,g⟩:=bj g;obtain⟨t,rfl⟩:=ra.int_inv;obtain⟨t',rfl⟩:=rb.int_inv;exact vw B p g
noncomputable def eT:Nat->D->Bool
 |_, .none|_, .bool _|_, .int _|_, .str _=>true
 |n+1, .list xs|n+1, .tuple xs=>xs.all (eT n)
 |_,_=>false
mutual
theorem iH:∀(d:D)(n:Nat),eT n d=true->sok d=true->d.canLay0=true/\d.depth<=n
 |.none,n,_,_=>by simp[PyData.canLay0,PyData.depth]
 |.bool _,n,_,_=>by simp[PyData.canLay0,PyData.depth]
 |.int _,n,_,_=>by simp[PyData.canLay0,PyData.depth]
 |.str x,n,_,h=>by simp[PyData.canLay0,PyData.depth,(sok_str.mp h).1]
 |.list xs,0,h,_=>absurd h nP
 |.tuple xs,0,h,_=>absurd h nP
 |.dict _,0,h,_=>absurd h nP
 |.dict _,n+1,h,_=>absurd h nP
 |.list xs,n+1,h,k=>by have h':xs.all (eT n)=true:=h;have k':(decide (xs.length<=16777216)&&sokAll xs)=true:=k;have:=kF xs n (by simpa using h') (bH k').2;simp only[PyData.canLay0,PyData.depth];exact⟨this.1,by lia⟩
 |.tuple xs,n+1,h,k=>by have h':xs.all (eT n)=true:=h;have k':(decide (xs.length<=16777216)&&sokAll xs)=true:=k;have:=kF xs n (by simpa using h') (bH k').2;simp only[PyData.canLay0,PyData.depth];exact⟨this.1,by lia⟩
theorem kF:∀(xs:List D)(n:Nat),(∀x∈xs,eT n x=true)->sokAll xs=true->PyData.canLayAll0 xs=true/\PyData.depthAll xs<=n
 |[],n,_,_=>by simp[PyData.canLayAll0,PyData.depthAll]
 |x::xs,n,h,k=>by
  have k':sok x=true/\sokAll xs=true:=bH k;have h1:=iH x n (h x dX) k'.1;have h2:=kF xs n (fun y hy=>h y (dP _ hy)) k'.2;simp only[PyData.canLayAll0,PyData.depthAll,h1.1,h2.1,Bool.and_self,true_and]
  lia
end
noncomputable def Lv (a:D):Bool:=match a with|.none=>true|_=>false
noncomputable def Dj (d:D)(k:Bool->Option D):Option D:=match d with|.bool x=>k x|_=>none
set_option tactic.hygienic true in
theorem rV (h:Dj d k=some r):∃x,d=.bool x/\k x=some r:=by
 rcases d with⟨⟩|⟨⟩
 case bool x=>exact⟨x,rfl,h⟩
 all_goals exact nn h
def HM (f:Bool->Bool)(a b:D):Option D:=match b with
 |.none=>some (.bool (f (Lv a)))
 |.bool y=>Dj a fun x=>some (.bool (f (x==y)))
 |_=>none
def HL (f:Bool->Bool)(a b:D):Option D:=match b with
 |.str x=>ix a fun y=>some (.bool (f (!(Builtin.Str.occurrences x y 0 x.length 1).isEmpty)))
 |.list xs=>if eT 8 a&&eT 8 (.list xs)then some (.bool (f (xs.any fun y=>PyData.eqv y a)))else none
 |_=>none
def cY (o:CmpOp)(a b:D):Option D:=match o with
 |.Eq=>if eT 8 a&&eT 8 b then some (.bool (PyData.eqv a b))else none
 |.NotEq=>if eT 8 a&&eT 8 b then some (.bool (!PyData.eqv a b))else none
 |.Lt=>dQ a fun a=>dQ b fun b=>some (.bool (decide (a<b)))
 |.LtE=>dQ a fun a=>dQ b fun b=>some (.bool (decide (a<=b)))
 |.Gt=>dQ a fun a=>dQ b fun b=>some (.bool (decide (b<a)))
 |.GtE=>dQ a fun a=>dQ b fun b=>some (.bool (decide (b<=a)))
 |.Is=>HM (fun c=>c) a b
 |.IsNot=>HM (fun c=>!c) a b
 |.In=>HL (fun c=>c) a b
 |.NotIn=>HL (fun c=>!c) a b
theorem sC (r:av w O h v a):(v=.none)↔a=.none:=by
 obtain⟨as,x,_⟩:=r;constructor
 .rintro rfl;cases x;rfl
 .rintro rfl;exact(reads_none_inv x).1
theorem H6 (h:a≠.none):Lv a=false:=by
 rcases a with⟨⟩|⟨⟩
 case none=>exact absurd rfl h
 all_goals rfl
theorem nW {f:Int->Int->Bool}(W:∀{x y:Int}{t t':Tok}{Q:bg}{E:bg},Q (.bool (f x y)) s->wpAny (br G) A (compareOp o (.int x t) (.int y t')) Q E s)
  {a b:D}{u v:Value}(ra:av G.w O s.heap u a)(rb:av G.w O s.heap v b)(h:(dQ a fun a=>dQ b fun b=>some (.bool (f a b)))=some d){Q:bg}{E:bg}(key:∀c:Bool, .bool c=d->Q (.bool c) s):wpAny (br G) A (compareOp o u v) Q E s:=by
 obtain⟨x,rfl,g⟩:=bj h;obtain⟨y,rfl,g⟩:=bj g;obtain⟨t,rfl⟩:=ra.int_inv;obtain⟨t',rfl⟩:=rb.int_inv;exact W (key _ (aC g))
set_option tactic.hygienic true in
theorem BM (W1:∀{Q:bg}{E:bg},Q (.bool (f true)) s->wpAny (br G) A (compareOp o .none .none) Q E s)
  (W2:∀{v:Value}{Q:bg}{E:bg},v≠.none->Q (.bool (f false)) s->wpAny (br G) A (compareOp o v .none) Q E s)
  (W3:∀{x y:Bool}{Q:bg}{E:bg},Q (.bool (f (x==y))) s->wpAny (br G) A (compareOp o (.bool x) (.bool y)) Q E s)
  {a b:D}{u v:Value}(ra:av G.w O s.heap u a)(rb:av G.w O s.heap v b)(h:HM f a b=some d){Q:bg}{E:bg}(key:∀c:Bool, .bool c=d->Q (.bool c) s):wpAny (br G) A (compareOp o u v) Q E s:=by
 rcases b with⟨⟩|⟨⟩
 case none =>
  obtain rfl:=rb.none_inv;have h:some (PyData.bool (f (Lv a)))=some d:=h;by_cases e:u=.none
  .subst e;rw[(sC ra).mp rfl]at h;exact W1 (key _ (aC h))
  .rw[H6 fun e'=>e ((sC ra).mpr e')]at h;exact W2 e (key _ (aC h))
 case bool y =>
  obtain⟨x,rfl,g⟩:=rV h;obtain rfl:=ra.bool_inv;obtain rfl:=rb.bool_inv;exact W3 (key _ (aC g))
 all_goals exact nn h
set_option tactic.hygienic true in
theorem BK (hu:A.units+100<cLine)(W1:∀{x y:Str}{t t':Tok}{Q:bg}{E:bg},Q (.bool (f (!(Builtin.Str.occurrences x y 0 x.length 1).isEmpty))) s->wpAny (br G) A (compareOp o (.str y t') (.str x t)) Q E s)
  (W2:∀{c x:Value}{xs:List PyData}{d:PyData}{as bs:a9}{Q:bg}{E:bg},Reads s.heap c (.list xs) as->Reads s.heap x d bs->PyData.canLayAll0 xs=true->d.canLay0=true->A.units+1+min (PyData.depthAll xs) d.depth<cLine->Q (.bool (f (xs.any fun y=>PyData.eqv y d))) s->wpAny (br G) A (compareOp o x c) Q E s)
  {a b:D}{u v:Value}(ra:av G.w O s.heap u a)(rb:av G.w O s.heap v b)(h:HL f a b=some d){Q:bg}{E:bg}(key:∀c:Bool, .bool c=d->Q (.bool c) s):wpAny (br G) A (compareOp o u v) Q E s:=by
 rcases b with⟨⟩|⟨⟩
 case str x =>
  obtain⟨y,rfl,g⟩:=lH h;obtain⟨t,rfl⟩:=ra.str_inv;obtain⟨t',rfl⟩:=rb.str_inv;exact W1 (key _ (aC g))
 case list xs =>
  obtain⟨c,rfl⟩:=ay h;obtain⟨as,x,_,sa⟩:=ra;obtain⟨bs,y,_,sb⟩:=rb;have l1:=iH _ 8 (ah c).1 sa;have l2:=iH _ 8 (ah c).2 sb;refine W2 y x (show(PyData.list xs).canLay0=true from l2.1) l1.1 ?_ (key _ rfl);have:=az (Nat.min_le_right (PyData.depthAll xs) a.depth) l1.2
  lia
 all_goals exact nn h
theorem mG (B:aX G s.heap)(p:0<s.toks)(hu:A.units+100<cLine){o:CmpOp}{a b:D}{u v:Value}(ra:av G.w O s.heap u a)(rb:av G.w O s.heap v b)(h:cY o a b=some d) :
  dW G A O (compareOp o u v) s d:=by
 refine dW.of0 B p fun Q E q=>?_;have key:∀c:Bool, .bool c=d->Q (.bool c) s:=fun c e=>q _ s.toks (e▸.bool);have shp:∀(x:D),eT 8 x=true->sok x=true->SeqAt.shaped x=true:=fun x h1 h2=>by have:=iH x 8 h1 h2;unfold SeqAt.shaped;rw[this.1,Bool.true_and];exact eD (by lia)
 have hu':A.units+64<cLine:=by lia
 rcases o with⟨⟩|⟨⟩
 case Eq =>
  obtain⟨as,x,_,sa⟩:=ra;obtain⟨bs,y,_,sb⟩:=rb;exact eq_dataH x y (shp _ (ah (ay h).1).1 sa) (shp _ (ah (ay h).1).2 sb) hu' (key _ (ay h).2)
 case NotEq =>
  obtain⟨as,x,_,sa⟩:=ra;obtain⟨bs,y,_,sb⟩:=rb;exact ne_dataH x y (shp _ (ah (ay h).1).1 sa) (shp _ (ah (ay h).1).2 sb) hu' (key _ (ay h).2)
 case Lt=>exact nW (fun k=>PyProof.Rows.lt_int k) ra rb h key
 case LtE=>exact nW (fun k=>PyProof.Rows.le_int k) ra rb h key
 case Gt=>exact nW (f:=fun x y=>decide (y<x)) (fun k=>PyProof.Rows.gt_int k) ra rb h key
 case GtE=>exact nW (f:=fun x y=>decide (y<=x)) (fun k=>PyProof.Rows.ge_int k) ra rb h key
 case Is=>exact BM (f:=fun c=>c) (fun k=>is_none_none k) (fun e k=>is_none_ne e k) (fun k=>is_bool k) ra rb h key
 case IsNot=>exact BM (f:=fun c=>!c) (fun k=>isnot_none_none k) (fun e k=>isnot_none_ne e k) (fun k=>isnot_bool k) ra rb h key
 case In=>exact BK (f:=fun c=>c) hu (fun k=>P.in_str k) (fun y x a b c k=>SeqAt.in_list_reads y x a b c k) ra rb h key
 case NotIn=>exact BK (f:=fun c=>!c) hu (fun k=>P.notIn_str k) (fun y x a b c k=>SeqAt.notIn_list_reads y x a b c k) ra rb h key
noncomputable def eJ (d:D):Option Bool:=match d with
 |.none=>some false
 |.bool b=>some b
 |.int i=>some (i != 0)
 |.str x=>some ((x.length:Int) != 0)
 |.list xs=>some (!xs.isEmpty)
 |.tuple xs=>some (!xs.isEmpty)
 |.dict _=>none
theorem wK.of0 (B:aX G s.heap)(p:0<s.toks)
  (h:∀(Q:Bool->Shared->Prop)(E:bg),(∀tk,Q b { s with toks:=tk })->wpAny (br G) A t Q E s):wK G A t s b:=fun Q E q=>by
 refine wpAny_with_toks (n:=1) p (h _ _ fun tk p'=>?_);exact q _ (.all B (fun _ _ e=>e) p')
theorem gi (B:aX G s.heap)(p:0<s.toks)(ra:av G.w O s.heap u a)(h:eJ a=some b):wK G A (truthy u) s b:=by
 refine wK.of0 B p fun Q E q=>?_;have e63:(2:Int)^63=9223372036854775808:=by decide
 cases a with
 |none=>obtain rfl:=aC h;obtain rfl:=ra.none_inv;exact truthy_none (q s.toks)
 |bool c=>obtain rfl:=aC h;obtain rfl:=ra.bool_inv;exact wpAny_truthy_bool (q s.toks)
 |int i=>obtain rfl:=aC h;obtain⟨t,rfl⟩:=ra.int_inv;exact P.truthy_int (q s.toks)
 |str x =>
  obtain rfl:=aC h;have:=(sok_str.mp ra.sok).2;obtain⟨t,rfl⟩:=ra.str_inv;exact P.truthy_str (by lia) (q _)
 |list xs =>
  obtain rfl:=aC h;have hl:=ra.list_len;obtain⟨a',vs,rfl,_,la,ra'⟩:=ra.list_inv;have e:=ra'.length;simp only[jR]at e;refine wpAny_truthy_list la (by lia) ?_;have e2:(!vs.isEmpty)=!xs.isEmpty:=by
   congr 1
   rw[Bool.eq_iff_iff];simp only[Array.isEmpty_iff_size_eq_zero,List.isEmpty_iff_length_eq_zero,e]
  rw[e2];exact q _
 |tuple xs =>
  obtain rfl:=aC h;have hl:=ra.tuple_len;obtain⟨a',vs,rfl,la,ra'⟩:=ra.tuple_inv;have e:=ra'.length;simp only[jR]at e;refine truthy_tuple la (by lia) ?_;have e2:(!vs.isEmpty)=!xs.isEmpty:=by
   congr 1
   rw[Bool.eq_iff_iff];simp only[Array.isEmpty_iff_size_eq_zero,List.isEmpty_iff_length_eq_zero,e]
  rw[e2];exact q _
 |dict _=>exact nn h
theorem AB (B:aX G s.heap)(p:0<s.toks):dW G A O (unaryOp .USub (.int i t)) s (.int (-i)):=
 dW.of0 B p fun _ _ q=>P.neg_int (q _ _ .int)
theorem Ag (B:aX G s.heap)(p:0<s.toks):dW G A O (unaryOp .Invert (.int i t)) s (.int (Builtin.bitNot i)):=
 dW.of0 B p fun _ _ q=>PyProof.Rows.invert_int (q _ _ .int)
theorem AF (B:aX G s.heap)(p:0<s.toks)(ra:av G.w O s.heap u a)(h:eJ a=some b):dW G A O (unaryOp .Not u) s (.bool (!b)):=fun Q E q =>
 not_of (gi B p ra h _ _ fun s' x=>q _ s' x .bool)
section
variable {β:Type}{p:Prop}{r:β}
theorem y7 {c a b:Prop}[Decidable c](h:c)(q:a):if c then a else b:=(if_pos h).symm▸q
theorem CE {c a b:Prop}[Decidable c](h:¬ c)(q:b):if c then a else b:=(if_neg h).symm▸q
theorem au {α:Type}{o:Option α}{k:α->Option β}(h:o.bind k=some r)(q:∀x,o=some x->k x=some r->p):p:=by
 cases o with
 |none=>exact nn h
 |some x=>exact q x rfl h
theorem fF {α γ:Type}{a:Option α}{b:Option γ}{f:α->γ->Option β}(h:(a.bind fun x=>b.bind fun y=>f x y)=some r)(q:∀x y,a=some x->b=some y->f x y=some r->p):p:=
 au h fun x e h=>au h fun y e' h=>q x y e e' h
theorem kL {α:Type}{o:Option α}{k:α->β}{P:β->Prop}(h:o.map k=some r)(q:∀x,o=some x->P (k x)):P r:=by
 cases o with
 |none=>exact nn h
 |some x=>exact aC h▸q x rfl
theorem oU {o:Option Bool}{x y:Option β}(h:(o.bind fun t=>bif t then x else y)=some r)(q1:o=some true->x=some r->p)(q2:o=some false->y=some r->p):p:=
 au h fun t e h=>by
  cases t
  .exact q2 e h
  .exact q1 e h
theorem fj {c:Prop}[Decidable c]{x:β}{P:β->Prop}(h:(if c then some x else none)=some r)(q:c->P x):P r:=by
 by_cases e:c
 .rw[if_pos e]at h;exact aC h▸q e
 .rw[if_neg e]at h;exact nn h
def H5 (o:Option D)(k:Int->Option β):Option β:=o.bind fun d=>dQ d k
theorem y6 {o:Option D}{k:Int->Option β}(h:H5 o k=some r)(q:∀x,o=some (.int x)->k x=some r->p):p:=
 au h fun d e h=>let⟨x,e',h⟩:=bj h;q x (e'▸e) h
def wg (o:Option D)(k:Str->Option β):Option β:=o.bind fun d=>ix d k
theorem oE {o:Option D}{k:Str->Option β}(h:wg o k=some r)(q:∀x,o=some (.str x)->k x=some r->p):p:=
 au h fun d e h=>let⟨x,e',h⟩:=lH h;q x (e'▸e) h
def ju (o:Option D)(k:List D->Option β):Option β:=o.bind fun d=>p9 d k
theorem ef {o:Option D}{k:List D->Option β}(h:ju o k=some r)(q:∀x,o=some (.list x)->k x=some r->p):p:=
 au h fun d e h=>let⟨x,e',h⟩:=d9 h;q x (e'▸e) h
end
end
section
noncomputable def kx:List D->Option (List Str)
 |[]=>some []
 |d::r=>ix d fun x=>(kx r).map (x :: ·)
theorem tZ:∀{xs:List D}{ns:List Str},kx xs=some ns->xs=ns.map .str
 |[],ns,h=>aC h▸rfl
 |_::r,ns,h=>by obtain⟨i,rfl,h⟩:=lH h;obtain⟨ms,h1,rfl⟩:=Option.map_eq_some_iff.mp h;rw[tZ h1];rfl
noncomputable def Bh (a b:Str):Bool:=decide (a.cps.toList<=b.cps.toList)
def iz (ss:List Str):List Str:=ss.mergeSort Bh
theorem rK (a b c:Str)(h:Bh a b=true)(k:Bh b c=true):Bh a c=true:=eD (List.le_trans (bX h) (bX k))
theorem Al (a b:Str):(Bh a b || Bh b a)=true:=Bool.or_eq_true_iff.mpr ((List.le_total a.cps.toList b.cps.toList).imp eD eD)
theorem CO (a b:Str)(h:Bh a b=true)(k:Bh b a=true):a=b:=by have e:=List.le_antisymm (bX h) (bX k);obtain⟨⟨x⟩⟩:=a;obtain⟨⟨y⟩⟩:=b;cases e;rfl
theorem CP (h:(!ltCps b.cps.toList a.cps.toList)=true):Bh a b=true:=by rw[ltCps_eq]at h;exact eD (List.not_lt.mp (of_decide_eq_false (by rw[Bool.not_eq_true']at h;exact h)))
theorem sn:∀{r:List Str}{p:Str},risingS p r=true->(p::r).Pairwise fun a b=>Bh a b=true
 |[],p,_=>List.pairwise_singleton _ _
 |x::r,p,h=>by
  obtain⟨h1,h2⟩:=bH (show(!ltCps x.cps.toList p.cps.toList&&risingS x r)=true from h);have ih:=sn h2;refine List.pairwise_cons.mpr ⟨fun y m=>?_,ih⟩;rcases bM m with rfl|m
  .exact CP h1
  .exact rK _ _ _ (CP h1) ((List.pairwise_cons.mp ih).1 y m)
theorem wb (p:ts.Perm ss)(h:sortedS ts=true):ts=iz ss:=by
 have hp:ts.Pairwise fun a b=>Bh a b=true:=by
  cases ts with
  |nil=>exact List.Pairwise.nil
  |cons x r=>exact sn h
 exact List.Perm.eq_of_pairwise (fun a b _ _=>CO a b) hp (List.pairwise_mergeSort rK Al ss) (p.trans (List.mergeSort_perm ss Bh).symm)
variable {G:GC}{A:Around}{O:a9}{s:Shared}
theorem wh:∀{ts:List Str}{vs:eU},ai w O h vs (ts.map .str)->StrsAre vs ts
 |[],_,r=>by rw[r.nil_inv];exact .nil
 |x::ts,_,r=>by obtain⟨u,us,rfl,a,b⟩:=r.cons_inv;obtain⟨t,rfl⟩:=a.str_inv;exact .cons x t (wh b)
theorem sA (x:StrsAre vs ts):(∀t∈ts,sok (.str t)=true)->ai w O h vs (ts.map .str):=by
 induction x with
 |nil=>exact fun _=>.nil
 |cons y t _ ih=>exact fun k=>.cons (.str (k y dX)) (ih fun z m=>k z (dP _ m))
theorem tX (B:aX G s.heap)(p:0<s.toks)(ov:dB O s.heap)(hl:ts.length<64)(r:av G.w O s.heap u (.list (ts.map .str))):dW G A O (call (.builtin "sorted") [u]) s (.list ((iz ts).map .str)):=by
 refine dW.of B p fun Q E q=>?_;obtain⟨a,vs,rfl,_,la,ra⟩:=r.list_inv;have e:=ra.length;rw[dq]at e;have hs:=sokAll_iff.mp ra.sok;refine sorted_strs (vs:=vs.toList) (by rw[Array.toArray_toList];exact la) (wh ra) (by rw[e];exact hl) fun out ss' h1 h2 h3=>?_;obtain⟨n,hn⟩:=sortedAll_at s.heap vs.toList out;have es:=wb h2 h3;subst es;have hle:(iz ts).length=ts.length:=h2.length_eq;have hf:s.heap.get? (s.heap.objs.size+1)=none:=by
  cases e:s.heap.get? (s.heap.objs.size+1)with
  |none=>rfl
  |some o=>exact absurd (Heap.lt_size e) (Nat.not_lt.mpr (Nat.le_succ _))
 exact q _ _ s.toks (fun b o e=>sortedAll_old e) (.list_of (by rw[dq,hle];lia) (ov.new hf) ⟨_,hn,rfl,_,rfl⟩ (fun o e=>by rw[hn]at e;obtain rfl:=aC e;rfl) (sA h1 fun t m=>hs _ (List.mem_map.mpr ⟨t,h2.mem_iff.mp m,rfl⟩)))
end
section
variable {G:GC}{A:Around}{O:a9}{s:Shared}{d:D}
noncomputable def fT:List D->Option (List Int)
 |[]=>some []
 |d::r=>dQ d fun i=>(fT r).map (i :: ·)
theorem ox:∀{xs:List D}{ns:List Int},fT xs=some ns->xs=ns.map .int
 |[],ns,h=>aC h▸rfl
 |_::r,ns,h=>by obtain⟨i,rfl,h⟩:=bj h;obtain⟨ms,h1,rfl⟩:=Option.map_eq_some_iff.mp h;rw[ox h1];rfl
theorem AP (ns:List Int):preSum (fun i=>ns.getD i 0) ns.length=ns.sum:=by
 have h:∀k,k<=ns.length->preSum (fun i=>ns.getD i 0) k=(ns.take k).sum:=by
  intro k
  induction k with
  |zero=>intro _;rfl
  |succ k ih =>
   intro hk;have e:ns[k]?=some (ns.getD k 0):=by rw[List.getD_eq_getElem?_getD];have:k<ns.length:=hk;simp[this]
   rw[preSum,ih (by exact gp ‹_›),List.take_add_one,e,List.sum_append];simp
 rw[h _ (gC _),List.take_length]
theorem ai.ints {ns:List Int}(r:ai w O h vs (ns.map .int)):∀(i:Nat) (v:Value),vs[i]?=some v->∃t,v=Value.int (ns.getD i 0) t:=fun i v e=>by
 have hi:i<ns.length:=by have:=r.length;rw[dq]at this;rw[<- this];exact(List.getElem?_eq_some_iff.mp e).1
 obtain⟨u,e',q⟩:=r.get i (.int (ns.getD i 0)) (by rw[List.getElem?_map,List.getD_eq_getElem?_getD];simp[hi]);rw[e]at e';obtain rfl:=aC e';exact q.int_inv
theorem A9 (B:aX G s.heap)(p:0<s.toks)(hh:A.handled=none){ns:List Int}(r:av G.w O s.heap u (.list (ns.map .int))):dW G A O (call (.builtin "sum") [u]) s (.int ns.sum):=by
 refine dW.of B p fun Q E q=>?_;obtain⟨a,vs,rfl,_,la,ra⟩:=r.list_inv;have e:=ra.length;simp only[jR,dq]at e;have ha:a<s.heap.objs.size:=by obtain⟨o,ho,_⟩:=id la;exact Heap.lt_size ho
 refine call_sum_walkG (wpAny_pyIter_list la ⟨s.heap.objs.size,_,_,_,_,_,fun i=>ns.getD i 0,rfl,Walks.list (by simpa using hh) _ a (Nat.ne_of_lt ha) vs,⟨⟨_,ie _ rfl,rfl,rfl⟩, ?_⟩, ?_, ?_, ?_⟩)
 .obtain⟨o,ho,r⟩:=la;exact⟨o,fO _ ho,r⟩
 .intro b hb;simp only[List.mem_cons,List.not_mem_nil,or_false]at hb;show b<(s.heap.push _).objs.size;rw[Heap.size_push];rcases hb with rfl|rfl
  .exact Nat.lt_succ_self _
  .exact Nat.lt_succ_of_lt ha
 .intro i v hv;exact ra.ints i v (by simpa using hv)
 .intro h' tk t' hk;have:=q (.int ns.sum t') h' tk (fun b o e'=>hk b o (fun m=>by simp only[List.mem_singleton]at m;rw[m,ax]at e';exact nn e') (fO _ e')) .int;rw[<- AP,<- e]at this;exact this
noncomputable def Ac:List Int->Int
 |[]=>0
 |n::r=>r.foldl (fun m x=>if x > m then x else m) n
noncomputable def Ad:List Int->Int
 |[]=>0
 |n::r=>r.foldl (fun m x=>if x<m then x else m) n
theorem k8 (bt:Int->Int->Bool)(n:Int)(r:List Int):∀k,k<=r.length ->
  (n::r).getD (argBest (fun i j=>bt ((n::r).getD i 0) ((n::r).getD j 0)) k) 0=(r.take k).foldl (fun m x=>if bt x m=true then x else m) n:=by
 intro k
 induction k with
 |zero=>intro _;rfl
 |succ k ih =>
  intro hk;have ih:=ih (by exact gp ‹_›);have hk':k<r.length:=hk;have e:r[k]?=some ((n::r).getD (k+1) 0):=by rw[List.getD_eq_getElem?_getD];simp[hk']
  rw[List.take_add_one,e];simp only[Option.toList_some,List.foldl_append,List.foldl_cons,List.foldl_nil];rw[<- ih,argBest];split <;> rfl
theorem Au (B:aX G s.heap)(p:0<s.toks)(hh:A.handled=none){ns:List Int}(hne:ns≠[])(r:av G.w O s.heap u (.list (ns.map .int))):dW G A O (call (.builtin "max") [u]) s (.int (Ac ns)):=by
 refine dW.of B p fun Q E q=>?_;obtain⟨a,vs,rfl,_,la,ra⟩:=r.list_inv;have e:=ra.length;simp only[jR,dq]at e;have ha:a<s.heap.objs.size:=by obtain⟨o,ho,_⟩:=id la;exact Heap.lt_size ho
 have hval:∀(i:Nat) (v:Value),vs[i]?=some v->∃t,v=.int (ns.getD i 0) t:=fun i v hv=>ra.ints i v (by simpa using hv);have hpos:0<vs.size:=by rw[e];exact List.length_pos_iff.mpr hne
 refine call_max_walk (wpAny_pyIter_list la ⟨s.heap.objs.size,_,_,_,_,_,fun i j=>decide (ns.getD i 0 > ns.getD j 0),rfl,Walks.list (by simpa using hh) _ a (Nat.ne_of_lt ha) vs,⟨⟨_,ie _ rfl,rfl,rfl⟩, ?_⟩, ?_,hpos, ?_, ?_⟩)
 .obtain⟨o,ho,r⟩:=la;exact⟨o,fO _ ho,r⟩
 .intro b hb;simp only[List.mem_cons,List.not_mem_nil,or_false]at hb;show b<(s.heap.push _).objs.size;rw[Heap.size_push];rcases hb with rfl|rfl
  .exact Nat.lt_succ_self _
  .exact Nat.lt_succ_of_lt ha
 .exact CmpOf.ints_gt (fun i=>ns.getD i 0) hval
 .intro v h' tk hP hk;obtain⟨t,rfl⟩:=hval _ _ hP;have:=q (.int (Ac ns) t) h' tk (fun b o e'=>hk b o (fun m=>by simp only[List.mem_singleton]at m;rw[m,ax]at e';exact nn e') (fO _ e')) .int;cases ns with
  |nil=>exact absurd rfl hne
  |cons n r' =>
   have key:=k8 (fun x m=>decide (x > m)) n r' r'.length (gC _);rw[List.take_length]at key;have e':vs.size-1=r'.length:=by rw[e];rfl
   rw[e',key]
   simpa [Ac]using this
theorem Av (B:aX G s.heap)(p:0<s.toks)(hh:A.handled=none){ns:List Int}(hne:ns≠[])(r:av G.w O s.heap u (.list (ns.map .int))):dW G A O (call (.builtin "min") [u]) s (.int (Ad ns)):=by
 refine dW.of B p fun Q E q=>?_;obtain⟨a,vs,rfl,_,la,ra⟩:=r.list_inv;have e:=ra.length;simp only[jR,dq]at e;have ha:a<s.heap.objs.size:=by obtain⟨o,ho,_⟩:=id la;exact Heap.lt_size ho
 have hval:∀(i:Nat) (v:Value),vs[i]?=some v->∃t,v=.int (ns.getD i 0) t:=fun i v hv=>ra.ints i v (by simpa using hv);have hpos:0<vs.size:=by rw[e];exact List.length_pos_iff.mpr hne
 refine call_min_walk (wpAny_pyIter_list la ⟨s.heap.objs.size,_,_,_,_,_,fun i j=>decide (ns.getD i 0<ns.getD j 0),rfl,Walks.list (by simpa using hh) _ a (Nat.ne_of_lt ha) vs,⟨⟨_,ie _ rfl,rfl,rfl⟩, ?_⟩, ?_,hpos, ?_, ?_⟩)
 .obtain⟨o,ho,r⟩:=la;exact⟨o,fO _ ho,r⟩
 .intro b hb;simp only[List.mem_cons,List.not_mem_nil,or_false]at hb;show b<(s.heap.push _).objs.size;rw[Heap.size_push];rcases hb with rfl|rfl
  .exact Nat.lt_succ_self _
  .exact Nat.lt_succ_of_lt ha
 .exact CmpOf.ints_lt (fun i=>ns.getD i 0) hval
 .intro v h' tk hP hk;obtain⟨t,rfl⟩:=hval _ _ hP;have:=q (.int (Ad ns) t) h' tk (fun b o e'=>hk b o (fun m=>by simp only[List.mem_singleton]at m;rw[m,ax]at e';exact nn e') (fO _ e')) .int;cases ns with
  |nil=>exact absurd rfl hne
  |cons n r' =>
   have key:=k8 (fun x m=>decide (x<m)) n r' r'.length (gC _);rw[List.take_length]at key;have e':vs.size-1=r'.length:=by rw[e];rfl
   rw[e',key]
   simpa [Ad]using this
set_option genCtorIdx true in
inductive Bf where
 |len|sum|max|min|int|chr|divmod|sorted
noncomputable def Bf.val:Bf->Value
 |.len=>.builtin "len"
 |.sum=>.builtin "sum"
 |.max=>.builtin "max"
 |.min=>.builtin "min"
 |.int=>.type "int"
 |.chr=>.builtin "chr"
 |.divmod=>.builtin "divmod"
 |.sorted=>.builtin "sorted"
def pj (f:Bf)(ds:List D):Option D:=match f with
 |.len=>d1 ds fun d=>match d with|.str x=>some (.int x.length)|.list xs=>some (.int xs.length)|_=>none
 |.sum=>d1 ds fun d=>p9 d fun xs=>(fT xs).map fun ns=>.int ns.sum
 |.max=>d1 ds fun d=>p9 d fun xs=>match fT xs with
  |some (n::r)=>some (.int (Ac (n::r)))
  |_=>none
 |.min=>d1 ds fun d=>p9 d fun xs=>match fT xs with
  |some (n::r)=>some (.int (Ad (n::r)))
  |_=>none
 |.int=>d1 ds fun d=>Dj d fun b=>some (.int (if b then 1 else 0))
 |.chr=>d1 ds fun d=>dQ d fun i=>if decide (0<=i)&&decide (i<=1114111)then some (.str ⟨#[i.toNat]⟩)else none
 |.divmod=>d2 ds fun a b=>dQ a fun a=>dQ b fun b=>if b != 0&&decide (b.natAbs.log2<9000)then some (.tuple [.int (a.fdiv b), .int (a.fmod b)])else none
 |.sorted=>d1 ds fun d=>p9 d fun xs=>(kx xs).bind fun ts=>if decide (ts.length<64)then some (.list ((iz ts).map .str))else none
theorem DV {x:Str}(hx:sok (.str x)=true){i c:Nat}(e:x.cps[i]?=some c):sok (.str ⟨#[c]⟩)=true:=by
 refine sok_str.mpr ⟨?_,by show #[c].size<=_;simp⟩;have h':x.cps.all (· < 0x110000)=true:=(sok_str.mp hx).1;rw[Array.all_eq_true_iff_forall_mem]at h';have:=h' c (Array.mem_of_getElem? e);show #[c].all (· < 0x110000)=true
 simpa using this
theorem ai.one (r:ai w O h vs [d]):∃v,vs=[v]/\av w O h v d:=by obtain⟨u,us,rfl,a,b⟩:=r.cons_inv;rw[b.nil_inv];exact⟨u,rfl,a⟩
theorem ai.two (r:ai w O h vs [d,e]):∃v u,vs=[v,u]/\av w O h v d/\av w O h u e:=by obtain⟨u,us,rfl,a,b⟩:=r.cons_inv;obtain⟨v,rfl,c⟩:=b.one;exact⟨u,v,rfl,a,c⟩
set_option tactic.hygienic true in
theorem BA (B:aX G s.heap)(p:0<s.toks)(ov:dB O s.heap)(hh:A.handled=none)(r:ai G.w O s.heap vs ds)(h:pj f ds=some d):dW G A O (call f.val vs) s d:=by
 have e63:(2:Int)^63=9223372036854775808:=by decide
 cases f with
 |len =>
  obtain⟨e,rfl,g⟩:=hF h;clear h;obtain⟨v,rfl,rr⟩:=r.one;clear r;have r:=rr;clear rr;cases e with
  |str x =>
   obtain rfl:=aC g;have:=(sok_str.mp r.sok).2;obtain⟨t,rfl⟩:=r.str_inv;exact dW.of0 B p fun Q E q=>P.len_str (by lia) (q _ _ .int)
  |list xs =>
   obtain rfl:=aC g;have hl:=r.list_len;obtain⟨a,vs,rfl,_,la,ra⟩:=r.list_inv;have e:=ra.length;simp only[jR]at e;exact dW.of0 B p fun Q E q=>len_list la (by lia) (by rw[e];exact q _ _ .int)
  |_=>exact nn g
 |sum =>
  obtain⟨e,rfl,g⟩:=hF h;clear h;obtain⟨xs,rfl,g2⟩:=d9 g;clear g;obtain⟨ns,h1,rfl⟩:=Option.map_eq_some_iff.mp g2;obtain⟨v,rfl,rr⟩:=r.one;clear r;have r:=rr;clear rr;rw[ox h1]at r;exact A9 B p hh r
 |max =>
  obtain⟨e,rfl,g⟩:=hF h;clear h;obtain⟨xs,rfl,g2⟩:=d9 g;clear g;split at g2 <;> cases g2;rename_i h1;obtain⟨v,rfl,rr⟩:=r.one;clear r;have r:=rr;clear rr;rw[ox h1]at r;exact Au B p hh (by simp) r
 |min =>
  obtain⟨e,rfl,g⟩:=hF h;clear h;obtain⟨xs,rfl,g2⟩:=d9 g;clear g;split at g2 <;> cases g2;rename_i h1;obtain⟨v,rfl,rr⟩:=r.one;clear r;have r:=rr;clear rr;rw[ox h1]at r;exact Av B p hh (by simp) r
 |int =>
  obtain⟨e,rfl,g⟩:=hF h;clear h;obtain⟨x,rfl,g⟩:=rV g;obtain rfl:=aC g;obtain⟨v,rfl,rr⟩:=r.one;clear r;have r:=rr;clear rr;obtain rfl:=r.bool_inv;exact dW.of0 B p fun Q E q=>call_int_bool (q _ _ .int)
 |chr =>
  obtain⟨e,rfl,g⟩:=hF h;clear h;obtain⟨i,rfl,g2⟩:=bj g;clear g;obtain⟨c,rfl⟩:=ay g2;obtain⟨v,rfl,rr⟩:=r.one;clear r;have r:=rr;clear rr;obtain⟨t,rfl⟩:=r.int_inv;simp only[g9,kh]at c;refine dW.of0 B p fun Q E q=>chr_of_range c.1 c.2 (q _ _ (.str (sok_str.mpr ⟨?_,by show 1<=_;decide⟩)));simp[PyData.strOk];lia
 |divmod =>
  obtain⟨e,e',rfl,g⟩:=o8 h;clear h;obtain⟨a,rfl,g2⟩:=bj g;clear g;obtain⟨b,rfl,g3⟩:=bj g2;clear g2;obtain⟨c,rfl⟩:=ay g3;obtain⟨c1,c2⟩:=bH c;obtain⟨v,u,rfl,r1,r2⟩:=r.two;obtain⟨t,rfl⟩:=r1.int_inv;obtain⟨t',rfl⟩:=r2.int_inv;refine dW.of B p fun Q E q=>divmod_int (by simpa using c1) (q _ _ _ (fun b o e=>fO _ e) (.tuple_of (by simp) ⟨_,ie _ rfl,rfl,_,rfl⟩ ?_)) (.inl (PyProof.noPylong_of_log2 (bX c2)));exact .cons .int (.cons .int .nil)
 |sorted =>
  obtain⟨e,rfl,g⟩:=hF h;clear h;obtain⟨xs,rfl,g2⟩:=d9 g;clear g;obtain⟨ts,h1,g3⟩:=Option.bind_eq_some_iff.mp g2;obtain⟨c,rfl⟩:=ay g3;obtain⟨v,rfl,rr⟩:=r.one;clear r;have r:=rr;clear rr;rw[tZ h1]at r;exact tX B p ov (bX c) r
set_option genCtorIdx true in
inductive Mt where
 |join|startswith|endswith|find3|count|index|get|bitlen
noncomputable def Mt.name:Mt->Str
 |.join => "join"
 |.startswith => "startswith"
 |.endswith => "endswith"
 |.find3 => "find"
 |.count => "count"
 |.index => "index"
 |.get => "get"
 |.bitlen => "bit_length"
noncomputable def px (x y:Str)(i j:Int):Int:=match Builtin.Str.occurrences x y (fromIndex x.length i) (min (fromIndex x.length j) x.length) 1 with|k::_=>(k:Int)|[] => -1
theorem vk (x y:Str)(i j:Int)(t u v v':Tok):Gives (Builtin.«str.find» ⟨[.str x t, .str y u, .int i v, .int j v'],[]⟩) (.int (px x y i j)):=by
 show Gives (match Builtin.Str.occurrences x y (fromIndex x.length i) (min (fromIndex x.length j) x.length) 1 with|k::_=>retInt k|[]=>(do rule "str.find.not-found";retInt (-1))) _;unfold px;cases Builtin.Str.occurrences x y (fromIndex x.length i) (min (fromIndex x.length j) x.length) 1 with
 |nil=>exact .rule (.of_eq rfl)
 |cons k _=>exact .of_eq rfl
noncomputable def y5 (d:D):List D->Option Nat
 |[]=>none
 |x::r=>if PyData.eqv x d then some 0 else(y5 d r).map (· + 1)
set_option tactic.hygienic true in
theorem vA:∀{xs:List D}{j:Nat},y5 d xs=some j->∃x,xs[j]?=some x/\PyData.eqv x d=true/\∀m y,m<j->xs[m]?=some y->PyData.eqv y d=false
 |[],j,h=>by simp[y5]at h
 |x::r,j,h=>by
  unfold y5 at h;split at h
  .rename_i c;obtain rfl:=aC h;exact⟨x,rfl,c,fun m y hm=>absurd hm (Nat.not_lt_zero _)⟩
  .rename_i c;obtain⟨k,h1,rfl⟩:=Option.map_eq_some_iff.mp h;obtain⟨y,e,q,n⟩:=vA h1;refine⟨y,by simpa using e,q,fun m z hm hz=>?_⟩;cases m with
   |zero=>simp at hz;subst hz;simpa using c
   |succ m=>exact n m z (by exact Nat.le_of_lt_succ ‹_›) (by simpa using hz)
noncomputable def d3 (ds:List D)(k:D->D->D->Option D):Option D:=match ds with|[d,e,f]=>k d e f|_=>none
theorem BU (h:d3 ds k=some r):∃d e f,ds=[d,e,f]/\k d e f=some r:=by
 cases ds with
 |nil=>exact nn h
 |cons d ds=>cases ds with
  |nil=>exact nn h
  |cons e ds=>cases ds with
   |nil=>exact nn h
   |cons f ds=>cases ds with
    |nil=>exact⟨d,e,f,rfl,h⟩
    |cons g ds=>exact nn h
noncomputable def JU (d:D)(k:List (D × D)->Option D):Option D:=match d with|.dict x=>k x|_=>none
theorem Dk (h:JU d k=some r):∃x,d=.dict x/\k x=some r:=by
 cases d with
 |dict x=>exact⟨x,rfl,h⟩
 |_=>exact nn h
def ki (m:Mt)(o:D)(ds:List D):Option D:=match m with
 |.join=>ix o fun x=>d1 ds fun d=>p9 d fun xs=>match kx xs with
  |some ts=>if JoinOk x ts&&sok (.str (Txt.join x ts))then some (.str (Txt.join x ts))else none
  |none=>none
 |.startswith=>ix o fun x=>d1 ds fun d=>ix d fun y=>some (.bool (Txt.startswith x y))
 |.endswith=>ix o fun x=>d1 ds fun d=>ix d fun y=>some (.bool (Txt.endswith x y))
 |.find3=>ix o fun x=>d3 ds fun a b c=>ix a fun y=>dQ b fun i=>dQ c fun j=>some (.int (px x y i j))
 |.count=>match o with
  |.str x=>d1 ds fun d=>ix d fun y=>some (.int (Txt.count x y))
  |.list xs=>d1 ds fun d=>if eT 8 d&&eT 8 (.list xs)then some (.int (xs.countP fun y=>PyData.eqv y d))else none
  |_=>none
 |.index=>p9 o fun xs=>d1 ds fun d=>if eT 8 d&&eT 8 (.list xs)then(y5 d xs).map (fun j:Nat=>PyData.int (j:Int))else none
 |.get=>JU o fun kvs=>d2 ds fun a b=>ix a fun x=>ix b fun z=>ix ((lookup (.str x) kvs).getD (.str z)) fun y=>if sok (.str y)then some (.str y)else none
 |.bitlen=>dQ o fun a=>match ds with|[]=>some (.int (ib a))|_=>none
theorem md:∀{ts:List Str}{vs:eU},ai w O h vs (ts.map .str)->∃l:List (Str × Tok),vs=strValues l/\l.map (·.1)=ts
 |[],_,r=>⟨[],r.nil_inv,rfl⟩
 |x::ts,_,r=>by obtain⟨u,us,rfl,a,b⟩:=r.cons_inv;obtain⟨t,rfl⟩:=a.str_inv;obtain⟨l,rfl,rfl⟩:=md b;exact⟨(x,t)::l,rfl,rfl⟩
theorem yX {α β:Type}{f:α->β}{l:List α}{i:Nat}{y:β}(h:(l.map f)[i]?=some y):∃x,l[i]?=some x/\f x=y:=Option.map_eq_some_iff.mp (List.getElem?_map▸h)
theorem Dz {h:Heap}{es:List DictEntry}{ds:List D}{as:a9}(r:ReadsAll h (es.map (·.key)) ds as){i:Nat}{x:Str}(g:ds[i]?=some (.str x)):∃e t,es[i]?=some e/\e.key=.str x t:=by obtain⟨v,a,hv,r⟩:=r.atAny _ _ g;obtain⟨e,he,rfl⟩:=yX hv;obtain⟨t,hk,_⟩:=reads_str_inv r;exact⟨e,t,he,hk⟩
theorem vH {kvs:List (D × D)}(hk:∀q∈kvs,∃x,q.1=PyData.str x){d:D}(h:d∈kvs.map (·.1)):∃x,d=PyData.str x:=
 (gO h).elim fun q p=>p.2▸hk q p.1
theorem xu {h:Heap}{es:List DictEntry}{kvs:List (D × D)}{as:a9}(r:ReadsAll h (es.map (·.key)) (kvs.map (·.1)) as)(hk:∀q∈kvs,∃x,q.1=PyData.str x)
  (hp:es.Pairwise fun e f=>∀x t u,e.key=.str x t->f.key≠.str x u):(kvs.map (·.1)).Nodup:=by
 refine List.pairwise_iff_getElem.mpr fun i j h1 hj hij e=>?_;have hq:=List.getElem?_eq_getElem hj;obtain⟨x,hx⟩:=vH hk (List.getElem_mem hj);rw[hx]at hq e;obtain⟨f,t,gf,kf⟩:=Dz r (e▸List.getElem?_eq_getElem h1);obtain⟨g,u,gg,kg⟩:=Dz r hq;obtain⟨li,rfl⟩:=List.getElem?_eq_some_iff.mp gf;obtain⟨lj,rfl⟩:=List.getElem?_eq_some_iff.mp gg;exact List.pairwise_iff_getElem.mp hp i j li lj hij x t u kf kg
theorem tN {h:Heap}{x:Str}{t:Tok}{d:D}{as:a9}(r:Reads h (.str x t) d as):d=.str x:=(Reads.unique r _ _ (.str x t)).1
theorem CJ {w:World}{h:Heap}{es:List DictEntry}{kvs:List (D × D)}{as:a9}(r:ReadsAll h (es.map (·.key)) (kvs.map (·.1)) as)(hh:∀e∈es,∃x t,e.key=.str x t/\e.hash=hashStr w x):∀q∈kvs,∃x,q.1=PyData.str x:=fun q hq=>by obtain⟨i,hi⟩:=List.mem_iff_getElem?.mp hq;obtain⟨v,a,hv,r⟩:=r.atAny i q.1 (by rw[List.getElem?_map,hi];rfl);obtain⟨e,he,rfl⟩:=yX hv;obtain⟨x,t,hk,_⟩:=hh e (Ib he);exact⟨x,tN (hk▸r)⟩
abbrev Bj (h:Heap)(P:Value->a9->Prop)(kvs:List (D × D)):Prop:=∀a o es n as' bs,h.get? a=some o->o.cls=.type "dict" -> o.data=.dict es n->ReadsAll h (es.toList.map (·.key)) (kvs.map (·.1)) as'->ReadsAll h (es.toList.map (·.val)) (kvs.map (·.2)) bs->P (.ref a) (a::as'++bs)
theorem qV {h:Heap}{kvs:List (D × D)}{v:Value}{as:a9}{P:Value->a9->Prop}(r:Reads h v (.dict kvs) as)(q:Bj h P kvs):P v as:=
 Reads.rec (motive_1:=fun v d as _=>∀kvs,d=.dict kvs->Bj h P kvs->P v as) (motive_2:=fun _ _ _ _=>True) (fun _ e _=>PyData.noConfusion e) (fun _ _ e _=>PyData.noConfusion e) (fun _ _ _ e _=>PyData.noConfusion e) (fun _ _ _ e _=>PyData.noConfusion e)
  (fun _ _ _ _ _ _ e _=>PyData.noConfusion e) (fun _ _ _ _ _ _ e _=>PyData.noConfusion e) (fun h1 h2 h3 h4 h5 _ _ kvs e q=>by obtain rfl:=PyData.dict.inj e;exact q _ _ _ _ _ _ h1 h2 h3 h4 h5) trivial (fun _ _ _ _=>trivial) r kvs rfl q
theorem rH (r:av G.w O s.heap u (.dict kvs)):∃a bs,u=.ref a/\a∉O/\IsDict G.prog G.w s.heap a kvs bs:=
 r.elim fun as r=>qV (P:=fun u as=>(∀b∈as,b∉O/\jf G.w s.heap b)->∃a bs,u=.ref a/\a∉O/\IsDict G.prog G.w s.heap a kvs bs) r.1 (fun a o es n as' bs h1 h2 h3 h4 h5 y=>by obtain⟨ha,y⟩:=y a dX;obtain⟨lo,ex,hh,hp⟩:=(y o h1).2 es n h3;have hk:=CJ h4 hh;have e:as'=[]:=readsAll_strs_nil _ _ _ h4 fun d=>vH hk;refine⟨a,bs,rfl,ha,IsDict.of0 ⟨lo,o,es,n,h1,ex,h3,e▸h4,h5,hk,xu h4 hk hp⟩ fun o' es' n' e1 e2 e he x t hkey=>?_⟩;obtain rfl:=aC (h1.symm.trans e1);obtain rfl:=(Data.dict.inj (h3.symm.trans e2)).1;obtain⟨x',t',hk',hh'⟩:=hh e (Array.mem_toList_iff.mpr he);obtain rfl:=(Value.str.inj (hkey.symm.trans hk')).1;exact hh') r.2.1
theorem qp {vs:Array Value}(hu:A.units+100<cLine)(ra:ai G.w O s.heap vs.toList xs)(ru:av G.w O s.heap u d)(c1:eT 8 d=true)(c2:eT 8 (.list xs)=true)(sl:sok (.list xs)=true) :
  ∀y,y∈vs->SeqAt.EqAt A.in1 s y u (PyData.eqv (SeqAt.readOf s.heap y) d):=by
 obtain⟨as,x,_,_⟩:=ra;obtain⟨bs,y,_,sb⟩:=ru;have l1:=iH _ 8 c1 sb;have l2:=iH _ 8 c2 sl;simp only[PyData.canLay0,PyData.depth]at l2;refine SeqAt.items_eqAt x y l2.1 l1.1 ?_;have:=Nat.min_le_right (PyData.depthAll xs) d.depth;have:=l1.2;clear l1 l2 c1 c2 sb sl
 lia
theorem qo {vs:Array Value}(ra:ai G.w O s.heap vs.toList xs)(c2:eT 8 (.list xs)=true)(sl:sok (.list xs)=true):vs.toList.map (SeqAt.readOf s.heap)=xs:=by obtain⟨as,x,_,_⟩:=ra;have l2:=iH _ 8 c2 sl;simp only[PyData.canLay0,PyData.depth]at l2;exact SeqAt.readsAll_map xs _ _ l2.1 x
def qM (G:GC)(A:Around)(O:a9)(s:Shared)(nm:Str)(u:Value)(ds:List D)(d:D):Prop:=∀(pl:Sem Bool)(Q:Value × eU->Shared->Prop)(E:bg),
 (∀id,(∀s2 vs,Ext G s s2->ai G.w O s2.heap vs ds->dW G A O (call (.builtin id) (u::vs)) s2 d)->Q (.builtin id,[u]) s)->wpAny (br G) A (getMethod u nm pl) Q E s
section
variable {u:Value}{o:D}{ds:List D}
theorem xC {nm:Str}{id:String}{x:Str}(r:av G.w O s.heap u (.str x))(gm:∀{t:Tok}{pl:Sem Bool}{Q:Value × eU->Shared->Prop}{E:bg},Q (.builtin id,[.str x t]) s->wpAny (br G) A (getMethod (.str x t) nm pl) Q E s)
  (sc:∀{t:Tok}{s2:Shared}{vs:eU},Ext G s s2->ai G.w O s2.heap vs ds->dW G A O (call (.builtin id) (.str x t::vs)) s2 d):qM G A O s nm u ds d:=by
 obtain⟨t,rfl⟩:=r.str_inv;exact fun pl Q E q=>gm (q _ fun s2 vs x2 r=>sc x2 r)
theorem C0 {f:Str->Str->D}{nm:Str}{id:String}(ro:av G.w O s.heap u o)(h:(ix o fun x=>d1 ds fun d=>ix d fun y=>some (f x y))=some d)
  (gm:∀{x:Str}{t:Tok}{pl:Sem Bool}{Q:Value × eU->Shared->Prop}{E:bg},Q (.builtin id,[.str x t]) s->wpAny (br G) A (getMethod (.str x t) nm pl) Q E s)
  (sc:∀{x y:Str}{t t':Tok}{s2:Shared}{Q:bg}{E:bg},(∀v tk,av G.w O s2.heap v (f x y)->Q v { s2 with toks:=tk })->wpAny (br G) A (call (.builtin id) [.str x t, .str y t']) Q E s2):qM G A O s nm u ds d :=
 gU (P:=fun o=>av G.w O s.heap u o->qM G A O s nm u ds d) h (fun x g ro=>BT (P:=fun ds=>qM G A O s nm u ds d) g fun e g=>gU (P:=fun e=>qM G A O s nm u [e] d) g fun y g=>by obtain rfl:=aC g;refine xC ro gm fun x2 r=>?_;obtain⟨v,rfl,rr⟩:=r.one;obtain⟨t',rfl⟩:=rr.str_inv;exact dW.of0 x2.base x2.pos fun Q E q=>sc q) ro
theorem FT (ro:av G.w O s.heap u o)(h:ki .join o ds=some d):qM G A O s "join" u ds d:=
 gU (P:=fun o=>av G.w O s.heap u o->qM G A O s "join" u ds d) h (fun x g ro=>BT (P:=fun ds=>qM G A O s "join" u ds d) g fun e g=>by
  obtain⟨xs,rfl,g2⟩:=d9 g;cases h1:kx xs with
  |none=>rw[h1]at g2;exact nn g2
  |some ts =>
   rw[h1]at g2;obtain⟨c,rfl⟩:=ay g2;obtain⟨c1,c2⟩:=bH c;refine xC ro GM.join fun x2 r=>?_;obtain⟨v,rfl,rr⟩:=r.one;rw[tZ h1]at rr;obtain⟨a,us,rfl,_,la,ra⟩:=rr.list_inv;obtain⟨l,e1,e2⟩:=md ra;exact dW.of0 x2.base x2.pos fun Q E q=>SC.join (l:=l) (by rw[<- e1];simpa using la) e2 c1 fun t' k=>q _ _ (.str c2)) ro
theorem FS (ro:av G.w O s.heap u o)(h:ki .find3 o ds=some d):qM G A O s "find" u ds d:=
 gU (P:=fun o=>av G.w O s.heap u o->qM G A O s "find" u ds d) h (fun x g ro=>by obtain⟨a,b,c,rfl,g2⟩:=BU g;refine gU (P:=fun a=>qM G A O s "find" u [a,b,c] d) g2 fun y g=>oB (P:=fun b=>qM G A O s "find" u [.str y,b,c] d) g fun i g=>oB (P:=fun c=>qM G A O s "find" u [.str y, .int i,c] d) g fun j g=>?_;obtain rfl:=aC g;refine xC ro GM.find fun x2 r=>?_;obtain⟨v,us,rfl,r1,r2⟩:=r.cons_inv;obtain⟨v',v'',rfl,r3,r4⟩:=r2.two;obtain⟨t',rfl⟩:=r1.str_inv;obtain⟨t2,rfl⟩:=r3.int_inv;obtain⟨t3,rfl⟩:=r4.int_inv;exact dW.of0 x2.base x2.pos fun Q E q=>call_gives F.slot_str_find (typeIs_str _ _ _) F.entry_str_find (F.args_str_find_4 _ _ _ _) (vk _ _ _ _ _ _ _ _) (q _ _ .int)) ro
theorem Ax (hu:A.units+100<cLine){xs:List D}{e:D}(ro:av G.w O s.heap u (.list xs))(c1:eT 8 e=true)(c2:eT 8 (.list xs)=true):qM G A O s "count" u [e] (.int (xs.countP fun y=>PyData.eqv y e)):=by
 have so:=ro.sok;have ro':=ro;obtain⟨a,us',rfl,_,la',_⟩:=ro.list_inv;have pl':=ro'.list_bare;obtain⟨o',ho',hc',_⟩:=id la';refine fun pl Q E q=>getMethod_builtin (T:="list") ⟨_,ho',hc'⟩ F.plainAttrs_list PySem.F.slot_list_count PySem.F.type_list_count (fun a' e'=>Value.ref.inj e'▸⟨_,ho',pl' _ ho'⟩) (q _ fun s2 vs x2 r=>?_);obtain⟨v,rfl,rr⟩:=r.one;obtain⟨a2,us,e2,_,la,ra⟩:=(ro'.keep x2.keep).list_inv;obtain rfl:=Value.ref.inj e2;obtain⟨⟨cls,dd,data,sl⟩,ho,rfl,n,rfl⟩:=id la;refine dW.of0 x2.base x2.pos fun Q E q=>call_meets PySem.F.slot_list_count ⟨_,ho,rfl⟩ PySem.F.entry_list_count (PySem.F.args_list_count_2 _ _) (SeqAt.list_countAt a us n dd sl v _) ⟨ho,qp hu ra rr c1 c2 so, ?_⟩;have e1:us.toList.countP (fun y=>PyData.eqv (SeqAt.readOf s2.heap y) e)=xs.countP fun y=>PyData.eqv y e:=by
  conv=>rhs;rw[<- qo ra c2 so,List.countP_map]
  rfl
 rw[e1];exact q _ _ .int
theorem Ig (ro:av G.w O s.heap u o)(h:ki .get o ds=some d):qM G A O s "get" u ds d:=by obtain⟨kvs,rfl,g⟩:=Dk h;refine JD (P:=fun ds=>qM G A O s "get" u ds d) g fun e1 e2 g=>gU (P:=fun a=>qM G A O s "get" u [a,e2] d) g fun x g=>gU (P:=fun b=>qM G A O s "get" u [.str x,b] d) g fun z g=>?_;have g:ix ((lookup (.str x) kvs).getD (.str z)) (fun y=>if sok (.str y)then some (.str y)else none)=some d:=g;obtain⟨y,hy,g⟩:=lH g;obtain⟨c,rfl⟩:=ay g;obtain⟨a,bs,rfl,_,T⟩:=rH ro;refine fun pl Q E q=>getMethod_dict PySem.F.slot_dict_get PySem.F.type_dict_get T (q _ fun s2 vs x2 r=>?_);obtain⟨a',bs',e',_,T'⟩:=rH (ro.keep x2.keep);obtain rfl:=Value.ref.inj e';obtain⟨v,v',rfl,r1,r2⟩:=r.two;obtain⟨t,rfl⟩:=r1.str_inv;obtain⟨t',rfl⟩:=r2.str_inv;refine dW.of0 x2.base x2.pos fun Q E q=>call_get2_dict T' (.str z t') fun v as hv=>?_;obtain⟨t2,rfl,_⟩:=reads_str_inv (hy▸hv);exact q _ _ (.str c)
end
theorem CZ (hu:A.units+100<cLine){o:D}{ds:List D}(ro:av G.w O s.heap u o)(h:ki m o ds=some d):qM G A O s m.name u ds d:=by
 cases m with
 |join=>exact FT ro h
 |startswith=>exact C0 ro h GM.startswith fun q=>SC.startswith (q _ _ .bool)
 |endswith=>exact C0 ro h GM.endswith fun q=>SC.endswith (q _ _ .bool)
 |find3=>exact FS ro h
 |count =>
  cases o with
  |str x=>exact C0 (o:=.str x) (f:=fun x y=>.int (Txt.count x y)) ro h GM.count fun q=>SC.count (q _ _ .int)
  |list xs =>
   refine BT (P:=fun ds=>qM G A O s "count" u ds d) (h:d1 ds _=some d) fun e g=>?_;obtain⟨c,rfl⟩:=ay g;obtain⟨c1,c2⟩:=bH c;exact Ax hu ro c1 c2
  |_=>exact nn h
 |index =>
  intro pl Q E q;obtain⟨xs,rfl,g⟩:=d9 h;clear h;obtain⟨e,rfl,g2⟩:=hF g;clear g;by_cases c:(eT 8 e&&eT 8 (.list xs))=true
  .rw[if_pos c]at g2;obtain⟨j,hj,rfl⟩:=Option.map_eq_some_iff.mp g2;obtain⟨c1,c2⟩:=bH c;have so:=ro.sok;have hl:=ro.list_len;have ro':=ro;obtain⟨a,us',rfl,_,la',_⟩:=ro.list_inv;have pl':=ro.list_bare;obtain⟨o',ho',hc',_⟩:=id la';refine getMethod_builtin (T:="list") ⟨_,ho',hc'⟩ F.plainAttrs_list PySem.F.slot_list_index PySem.F.type_list_index (fun a' e'=>by cases e';exact⟨_,ho',pl' _ ho'⟩) (q _ fun s2 vs x2 r=>?_);obtain⟨v,rfl,rr⟩:=r.one;obtain⟨a2,us,e2',_,la,ra⟩:=(ro'.keep x2.keep).list_inv;cases e2';obtain⟨⟨cls,dd,data,sl⟩,ho,hc,n,hd⟩:=id la;simp only at hc hd;subst hc hd;refine dW.of0 x2.base x2.pos fun Q E q=>?_;obtain⟨x,e1,e2,e3⟩:=vA hj;have em:=qo ra c2 so;have hlen:us.size=xs.length:=by have:=ra.length;simpa using this
   have hlt:j<us.size:=by rw[hlen];exact(List.getElem?_eq_some_iff.mp e1).1
   have hget:∀m (hm:m<us.size),xs[m]?=some (SeqAt.readOf s2.heap us[m]):=fun m hm=>by rw[<- em,List.getElem?_map];simp[hm]
   refine call_meets PySem.F.slot_list_index ⟨_,ho,rfl⟩ PySem.F.entry_list_index (PySem.F.args_list_index_2 _ _)
    (SeqAt.list_indexAt a us n dd sl v (fun y=>PyData.eqv (SeqAt.readOf s2.heap y) e) j hlt (by lia) ?_ ?_) ⟨ho,qp hu ra rr c1 c2 so,q _ _ .int⟩
   .have:=hget j hlt;rw[e1]at this;obtain rfl:=aC this;exact e2
   .intro m hm hmj;exact e3 m _ hmj (hget m hm)
  .rw[if_neg c]at g2;exact nn g2
 |get=>exact Ig ro h
 |bitlen =>
  refine oB (P:=fun o=>av G.w O s.heap u o->qM G A O s "bit_length" u ds d) h (fun a g ro=>?_) ro;cases ds with
  |cons x xs=>exact nn g
  |nil =>
   obtain rfl:=aC g;obtain⟨t,rfl⟩:=ro.int_inv;refine fun pl Q E q=>PyProof.Rows.getMethod_int_bit_length (q _ fun s2 vs x2 r=>?_);obtain rfl:=r.nil_inv;exact dW.of0 x2.base x2.pos fun Q E q=>PyProof.Rows.call_int_bit_length (q _ _ .int)
def lr (a i:D):Option D:=match a with
 |.list xs=>dQ i fun k=>(seqIndex? k xs.length).bind (xs[·]?)
 |.str x=>dQ i fun k=>((seqIndex? k x.length).bind (x.cps[·]?)).map fun c=>.str ⟨#[c]⟩
 |_=>none
theorem zi {j:Int}{n m:Nat}(h:(if 0<=j&&j<n then some j.toNat else none)=some m):0<=j/\j=m/\m<n:=by
 by_cases c:(0<=j&&j<n)=true
 .rw[if_pos c]at h;obtain rfl:=aC h;obtain⟨a,b⟩:=bH c;have a:=bX a;have e:=(Int.toNat_of_nonneg a).symm;exact⟨a,e,Int.ofNat_lt.mp (e▸bX b)⟩
 .rw[if_neg c]at h;exact nn h
theorem jH {k:Int}{n j:Nat}(h:seqIndex? k n=some j):j<n/\((0<=k/\k=j)\/(k<0/\k+n=j /\ -(n:Int)<=k)):=by
 by_cases h0:k<0
 .have e:=(if_pos h0:(if k<0 then k+(n:Int)else k)=_);obtain⟨a,b,c⟩:=zi (j:=k+n) (by unfold seqIndex? at h;rw[e]at h;exact h);exact⟨c, .inr ⟨h0,b,by clear e h b;lia⟩⟩
 .have e:=(if_neg h0:(if k<0 then k+(n:Int)else k)=_);obtain⟨a,b,c⟩:=zi (j:=k) (by unfold seqIndex? at h;rw[e]at h;exact h);exact⟨c, .inl ⟨a,b⟩⟩
def gD (e:Expr):Bool:=!(tK e fun _ _ _ _=>true)
theorem gY {e:Expr}(h:gD e=true)(o i:Value):subscripted e false o i=operate [o,i] (getItem o i):=by rcases e with⟨⟩|⟨⟩ <;> first|rfl|exact absurd h nP
theorem rG {k:Int}{n j:Nat}(hj:j<n)(hn:n<=16777216)(c:(0<=k/\k=j)\/(k<0/\k+n=j /\ -(n:Int)<=k)) : -(2^63)<=k/\k<2^63:=by
 have hn:(n:Int)<=2^63:=Int.le_trans (Int.ofNat_le.mpr hn) (by decide);rcases c with⟨h0,rfl⟩|⟨h0,_,h4⟩
 .exact⟨Int.le_trans (by decide) h0,Int.lt_of_lt_of_le (Int.ofNat_lt.mpr hj) hn⟩
 .exact⟨Int.le_trans (Int.neg_le_neg hn) h4,Int.lt_trans h0 (by decide)⟩
theorem wi {value slice:Expr}(hs:gD slice=true){a:Addr}{vs:Array Value}{k:Int}{t:Tok}{j:Nat}{v:Value}(la:s.heap.IsList a vs)(hl:vs.size<=16777216)(h1:seqIndex? k vs.size=some j)(hv:vs[j]?=some v)
  {Q:bg}{E:bg}(q:Q v s):wpAny (br G) A (subscriptTail value slice (.ref a) (.int k t)) Q E s:=by
 obtain⟨hj,c⟩:=jH h1;obtain⟨b1,b2⟩:=rG hj hl c;refine tail_any la.typeIs PySem.F.slot_list_getitem.lookup ?_ (gY hs _ _);rcases c with⟨h0,h3⟩|⟨h0,h3,h4⟩
 .exact wpAny_getItem_list la h0 b2 (by rw[h3];exact hv) q
 .exact wpAny_getItem_list_neg la h0 h4 b1 (by rw[h3];exact hv) q
set_option tactic.hygienic true in
theorem A7 (B:aX G s.heap)(p:0<s.toks){value slice:Expr}(hs:gD slice=true){a i:D}{u v:Value}(ra:av G.w O s.heap u a)(ri:av G.w O s.heap v i)(h:lr a i=some d) :
  dW G A O (subscriptTail value slice u v) s d:=by
 refine dW.of0 B p fun Q E q=>?_;rcases a with⟨⟩|⟨⟩
 case list xs =>
  obtain⟨k,rfl,h⟩:=bj h;obtain⟨j,h1,h2⟩:=Option.bind_eq_some_iff.mp h;have hl:=ra.list_len;obtain⟨t,rfl⟩:=ri.int_inv;obtain⟨a',vs,rfl,_,la,ra'⟩:=ra.list_inv;have e:=ra'.length;simp only[jR]at e;obtain⟨v,hv,rv⟩:=ra'.get j _ h2;have hv:vs[j]?=some v:=by simpa using hv
  exact wi hs la (by rw[e];exact hl) (by rw[e];exact h1) hv (q v s.toks rv)
 case str x =>
  obtain⟨k,rfl,h⟩:=bj h;obtain⟨c,h1,rfl⟩:=Option.map_eq_some_iff.mp h;obtain⟨j,h2,h3⟩:=Option.bind_eq_some_iff.mp h1;have hx:=sok_str.mp ra.sok;obtain⟨t,rfl⟩:=ra.str_inv;obtain⟨t',rfl⟩:=ri.int_inv;obtain⟨hj,c'⟩:=jH h2;obtain⟨b1,b2⟩:=rG hj hx.2 c';refine tail_any (typeIs_str s _ t) PySem.F.slot_str_getitem.lookup ?_ (gY hs _ _);refine P.getItem_str ?_ h1 (q _ _ (.str (sok_str.mpr ⟨?_,Nat.le_of_ble_eq_true rfl⟩)))
  .rw[fH (Int.not_lt.mpr b1),fH (Int.not_le.mpr b2)];rfl
  .have hm:=Array.mem_of_getElem? h3;have:=Array.all_eq_true_iff_forall_mem.mp hx.1 c hm
   simpa [PyData.strOk]using this
 all_goals exact nn h
noncomputable def F6:Option D->Option (Option Int)
 |none=>some none
 |some (.int i)=>some (some i)
 |some .none=>some none
 |_=>none
noncomputable def mh {α:Type}(xs:List α)(lo hi st:Option Int):List α:=
 (sliceRange (sliceBounds lo hi st xs.length).1 (sliceBounds lo hi st xs.length).2.1 (sliceBounds lo hi st xs.length).2.2).filterMap (xs[·]?)
theorem oV {lo hi st:Option Int}{n:Nat}(hc:st.getD 1 > 0):0<=(sliceBounds lo hi st n).1/\(sliceBounds lo hi st n).2.1<=n:=by
 unfold sliceBounds;dsimp only;rw[if_pos hc,if_pos hc];constructor
 .cases lo with
  |none=>exact Int.le_refl _
  |some i=>dsimp only;rw[if_pos hc];exact Int.le_max_left _ _
 .cases hi with
  |none=>exact Int.le_refl _
  |some i=>dsimp only;rw[if_pos hc];exact Int.max_le.mpr ⟨Int.natCast_nonneg _,Int.min_le_right _ _⟩
theorem wX {lo hi st:Option Int}{n:Nat}(hc:¬ st.getD 1 > 0):(sliceBounds lo hi st n).1<=(n:Int)-1 /\ -1<=(sliceBounds lo hi st n).2.1:=by
 unfold sliceBounds;dsimp only;rw[if_neg hc,if_neg hc];constructor
 .cases lo with
  |none=>exact Int.le_refl _
  |some i=>dsimp only;rw[if_neg hc];exact Int.max_le.mpr ⟨by lia,Int.min_le_right _ _⟩
 .cases hi with
  |none=>exact Int.le_refl _
  |some i=>dsimp only;rw[if_neg hc];exact Int.le_max_left _ _
theorem wU (lo hi st:Option Int)(n:Nat):(sliceRange (sliceBounds lo hi st n).1 (sliceBounds lo hi st n).2.1 (sliceBounds lo hi st n).2.2).length<=n:=
 sliceRange_length_le _ _ _ _ oV wX
theorem yH {α:Type}(xs:List α)(lo hi st:Option Int):(mh xs lo hi st).length<=xs.length:=
 az (List.length_filterMap_le _ _) (wU lo hi st xs.length)
theorem Fb {α:Type}{xs:List α}{lo hi st:Option Int}{x:α}(h:x∈mh xs lo hi st):x∈xs:=by obtain⟨i,_,e⟩:=List.mem_filterMap.mp h;exact Ib e
theorem ai.picks {w:World}{h:Heap}{vs:eU}{ds:List D}(r:ai w O h vs ds):∀is:aH,ai w O h (is.filterMap (vs[·]?)) (is.filterMap (ds[·]?))
 |[]=>.nil
 |i::is=>by
  have e:=r.length;rw[List.filterMap_cons,List.filterMap_cons];cases hd:ds[i]? with
  |none =>
   have:vs[i]?=none:=by rw[List.getElem?_eq_none_iff]at *;lia
   rw[this];exact r.picks is
  |some d =>
   obtain⟨v,hv,rv⟩:=r.get i d hd;rw[hv];exact .cons rv (r.picks is)
def E9 (x:Str)(lo hi st:Option Int):Str:=⟨(mh x.cps.toList lo hi st).toArray⟩
def fX (a:D)(lo hi st:Option D):Option D:=(F6 lo).bind fun lo=>(F6 hi).bind fun hi=>(F6 st).bind fun st=>if st=some 0 then none else match a with
  |.list xs=>some (.list (mh xs lo hi st))
  |.str x=>some (.str (E9 x lo hi st))
  |_=>none
theorem m7 {w:World}{h:Heap}{v:Value}{od:Option D}{k:Option Int}(r:match od with|none=>v=.none|some d=>av w O h v d)(hp:F6 od=some k):IsPart v k:=by
 cases od with
 |none=>obtain rfl:=aC hp;subst r;exact .none
 |some d =>
  cases d with
  |int i=>obtain rfl:=aC hp;obtain⟨t,rfl⟩:=av.int_inv r;exact .int i t
  |none=>obtain rfl:=aC hp;obtain rfl:=av.none_inv r;exact .none
  |_=>exact nn hp
theorem kJ {v:Value}{k:Option Int}(p:IsPart v k):∃o:Option (Int × Tok),v=partValue o/\o.map (·.1)=k:=by
 cases p with
 |none=>exact⟨none,rfl,rfl⟩
 |int i t=>exact⟨some (i,t),rfl,rfl⟩
theorem Dy {a b:Int}{n:Nat}(h:(if a<b then(b-a)else 0).toNat=n)(hn:n≠0)(h0:0<=a)(h1:b<=n):a=0:=by
 by_cases c:a<b
 .rw[if_pos c]at h;have:=Int.toNat_of_nonneg (Int.sub_nonneg_of_le (Int.le_of_lt c));rw[h]at this;clear h hn c
  lia
 .rw[if_neg c]at h;exact absurd h.symm hn
theorem yo (xs:aH)(a b:Int)(h:(sliceRange a b 1).length=xs.length)(h0:0<=a)(h1:b<=xs.length):(sliceRange a b 1).filterMap (xs[·]?)=xs:=by
 have hl:(sliceRange a b 1)=(List.range (sliceRange a b 1).length).map fun k:Nat=>(a+(k:Int)).toNat:=by unfold sliceRange;simp
 have hlen:(sliceRange a b 1).length=(if a<b then(b-a)else 0).toNat:=by unfold sliceRange;simp
 rw[hl,h];by_cases hn:xs.length=0
 .have:xs=[]:=List.length_eq_zero_iff.mp hn;subst this;rfl
 .obtain rfl:=Dy (hlen▸h) hn h0 h1;rw[List.filterMap_map];have:((fun x:Nat=>xs[x]?) ∘ fun k:Nat=>((0:Int)+(k:Int)).toNat)=fun k=>xs[k]?:=by
   funext k;simp
  rw[this];have:=StrLaws.picks xs xs.length 0 (by rw[Nat.zero_add];exact gC _)
  simpa using this
set_option tactic.hygienic true in
theorem tV (B:aX G s.heap)(p:0<s.toks)(ov:dB O s.heap){value lo hi st:Expr}{e:Expr}{ops:eU}{a:D}{odl odh ods:Option D}{u vl vh vs:Value}{sl:Addr}
  (ra:av G.w O s.heap u a)(hsl:s.heap.IsSliceOf sl vl vh vs)(rl:match odl with|none=>vl=.none|some d=>av G.w O s.heap vl d)(rh:match odh with|none=>vh=.none|some d=>av G.w O s.heap vh d)
  (rs:match ods with|none=>vs=.none|some d=>av G.w O s.heap vs d)(h:fX a odl odh ods=some d)(hs:subscripted e false u (.ref sl)=operate ops (getItem u (.ref sl))) :
  dW G A O (subscriptTail value e u (.ref sl)) s d:=by
 refine au h fun klo h1 h=>au h fun khi h2 h=>au h fun kst h3 h=>?_
 .by_cases hne:kst=some 0
  .exact nn ((if_pos hne).symm.trans h)
  .have h:=(if_neg hne).symm.trans h;have p1:=m7 rl h1;have p2:=m7 rh h2;have p3:=m7 rs h3;cases a with
   |list xs =>
    obtain rfl:=aC h;refine dW.of B p fun Q E q=>?_;have hl:=ra.list_len;obtain⟨a',ws,rfl,_,la,ra'⟩:=ra.list_inv;have e:=ra'.length;simp only[jR]at e;refine tail_any la.typeIs PySem.F.slot_list_getitem.lookup (wpAny_getItem_list_slice la hsl p1 p2 p3 hne ?_ (by rw[bh,e];exact hl)) hs;have hk:∀b' o',s.heap.get? b'=some o'->(s.heap.push { cls:=.type "list",data:=.seq (slicePick ws klo khi kst) }).get? b'=some o':=fun b' o' e=>fO _ e;refine q _ _ _ hk (.list_of (az (yH _ _ _ _) hl) (ov.new (ax _)) ⟨_,ie _ rfl,rfl,_,rfl⟩ (lc rfl rfl) ?_);have:=(ra'.picks (sliceRange (sliceBounds klo khi kst ws.size).1 (sliceBounds klo khi kst ws.size).2.1 (sliceBounds klo khi kst ws.size).2.2)).keep (.of hk);unfold mh;rw[<- e];show ai G.w O _ (slicePick ws klo khi kst).toList _;have e9:(slicePick ws klo khi kst).toList=(sliceRange (sliceBounds klo khi kst ws.size).1 (sliceBounds klo khi kst ws.size).2.1 (sliceBounds klo khi kst ws.size).2.2).filterMap (ws.toList[·]?):=by unfold slicePick;simp
    rw[e9];exact this
   |str x =>
    obtain rfl:=aC h;refine dW.of0 B p fun Q E q=>?_;have hx:=sok_str.mp ra.sok;obtain⟨t,rfl⟩:=ra.str_inv;obtain⟨ol,rfl,e1⟩:=kJ p1;obtain⟨oh,rfl,e2⟩:=kJ p2;obtain⟨os,rfl,e3⟩:=kJ p3;have hok:sok (.str (E9 x klo khi kst))=true:=by
     refine sok_str.mpr ⟨?_, ?_⟩
     .show(mh x.cps.toList klo khi kst).toArray.all (· < 0x110000)=true;rw[Array.all_eq_true_iff_forall_mem];intro c hc;have hc:=Fb (by simpa using hc);exact Array.all_eq_true_iff_forall_mem.mp hx.1 c (by simpa using hc)
     .show(mh x.cps.toList klo khi kst).toArray.size<=_;rw[List.size_toArray];exact az (yH _ _ _ _) (by rw[jR];exact hx.2)
    have h0:((os.map (·.1)).getD 1==0)=false:=by
     rw[e3];cases kst with
     |none=>rfl
     |some k=>simpa using fun e:k=0=>hne (by rw[e])
    refine tail_any (typeIs_str s _ t) PySem.F.slot_str_getitem.lookup (wpAny_getItem_str_slice (l:=ol) (u:=oh) (st:=os) hsl h0 ?_) hs;have eidx:slicePicked x ol oh os=sliceRange (sliceBounds klo khi kst x.cps.toList.length).1 (sliceBounds klo khi kst x.cps.toList.length).2.1 (sliceBounds klo khi kst x.cps.toList.length).2.2:=by unfold slicePicked;rw[e1,e2,e3];unfold Builtin.Str.strSliceIndices sliceBounds;rw[jR];rfl
    have epick:(slicePicked x ol oh os).filterMap (x.cps[·]?)=mh x.cps.toList klo khi kst:=by
     rw[eidx];unfold mh
     congr 1
     funext i
     simp
    unfold sliceMade;split
    .rename_i c;obtain⟨c1,c2⟩:=bH c;have c1:=eC c1;have c2:=eC c2;have:E9 x klo khi kst=x:=by
      unfold E9;rw[<- epick,eidx];rw[eidx]at c2;have e5:(sliceBounds klo khi kst x.cps.toList.length).2.2=1:=by rw[e3]at c1;exact c1
      rw[e5]at c2 ⊢;obtain⟨hb0,hb1⟩:=oV (lo:=klo) (hi:=khi) (st:=kst) (n:=x.cps.toList.length) (by rw[<- e3,c1];decide);have:=yo x.cps.toList _ _ (by rw[c2];simp[Str.length]) hb0 hb1;have e6:(fun i:Nat=>x.cps[i]?)=fun i=>x.cps.toList[i]?:=by funext i;simp
      rw[e6,this]
     rw[this]at q;exact q _ s.toks (.str (sok_str.mpr hx))
    .refine⟨?_, ?_⟩
     .rw[epick];exact(bh▸(sok_str.mp hok).2)
     .rw[epick];exact q _ _ (.str hok)
   |_=>exact nn h
end
end Internal
section
set_option genSizeOf false
set_option genInjectivity false
namespace Internal
mutual
inductive E where
 |l (d:D)|v (n:Nat)|g (n:Nat)
 |b (o:Operator)(a b:E)|n (a:E)|w (a:E)
 |q (o:CmpOp)(a b:E)|z (a:E)|o (o:BoolOp)(xs:Es)|e (c a b:E)
 |i (xs:Es)|t (xs:Es)|d (kvs:List (Str × Str))
 |p (elt:E)(gs:Gs)
 |c (f:Nat) (args:Es)|f (f:Bf)(args:Es)|m (m:Mt)(o:E)(args:Es)|r (a:E)(y z:Str)
 |setlen (a:E)|ssc (e:E)(gs:Gs)
 |s (a i:E)|a (a:E)(lo hi st:Os)
 |olen (n:Nat)|oget (n:Nat) (i:E)|ocall (f n:Nat) (args:Es)
inductive Es where
 |n|c (e:E)(r:Es)
inductive Os where
 |n|y (e:E)
inductive Bl where
 |e (e:E)|own (n:Nat)|r (args:Es)|enum (e:E)|zip (es:Es)|rev (e:E)
inductive Gs where
 |n|c (tg:aH)(src:Bl)(ifs:Es)(r:Gs)
end
noncomputable def qC (l:List Str)(d:D):List Str:=match d with
 |.str x=>if l.any (· == x)then l else l++[x]
 |_=>l
def kT (pre:List D):List Str:=pre.foldl qC []
def hZ (d:D):Bool:=match d with|.str k=>sok (.str k)|_=>false
noncomputable def eG (src:Bl):Bool:=match src with|.zip _=>true|_=>false
def CD (gs:Gs):Bool:=match gs with|.c _ src _ _=>eG src|.n=>false
def Lc (gs:Gs):Bool:=match gs with|.c _ src _ _=>!eG src|.n=>false
noncomputable def tq:D->Option (List D)
 |.list xs=>some xs
 |.tuple xs=>some xs
 |.str x=>some (x.cps.toList.map fun c=>.str ⟨#[c]⟩)
 |_=>none
noncomputable def iR (a b c:Int):Option (List D):=
 if decide (0<c)&&decide (-1073741824<=a)&&decide (a<=1073741824)&&decide (-1073741824<=b)&&decide (b<=1073741824)&&decide (c<=1073741824)&&decide (b-a<=16777216)then
  some ((List.range ((b-a+c-1) / c).toNat).map fun k:Nat=>PyData.int (a+k*c))else none
def oe (es:List D):Option (List D):=d1 es fun b=>dQ b fun b=>iR 0 b 1
noncomputable def rA (xs:List D):List D:=xs.zipIdx.map fun p=>.tuple [.int p.2,p.1]
def zip2 (es:List D):Option (List D):=d2 es fun a b=>p9 a fun xs=>p9 b fun ys=>if(xs++ys).all a8 then some ((xs.zip ys).map fun p=>.tuple [p.1,p.2])else none
noncomputable def bx:aB->aH->List D->aB
 |ρ,n::ns,d::ds=>bx (aB.set ρ n d) ns ds
 |ρ,_,_=>ρ
noncomputable def oG {α:Type}(d:D)(k:List D->Option α):Option α:=match d with|.tuple x=>k x|_=>none
theorem wo (h:oG d k=some r):∃x,d=.tuple x/\k x=some r:=by
 cases d with
 |tuple x=>exact⟨x,rfl,h⟩
 |_=>exact nn h
def bE (ρ:aB)(ns:aH)(d:D):Option aB:=match ns with
 |[n]=>some (aB.set ρ n d)
 |_=>oG d fun xs=>if xs.length=ns.length then some (bx ρ ns xs)else none
inductive sF (ρ:aB)(ρ':aB):aH->D->Prop
 |one (n:Nat) (d:D)(h:ρ'=aB.set ρ n d):sF ρ ρ' [n] d
 |tup (ns:aH)(xs:List D)(h:ns.length≠1)(hl:xs.length=ns.length)(e:ρ'=bx ρ ns xs):sF ρ ρ' ns (.tuple xs)
theorem rg (h:bE ρ ns d=some ρ'):sF ρ ρ' ns d:=by
 have key:ns.length≠1->(oG d fun xs=>if xs.length=ns.length then some (bx ρ ns xs)else none)=some ρ'->sF ρ ρ' ns d:=fun h1 h=>by
  obtain⟨xs,rfl,g⟩:=wo h;by_cases c:xs.length=ns.length
  .rw[if_pos c]at g;exact .tup ns xs h1 c (aC g).symm
  .rw[if_neg c]at g;exact nn g
 rcases ns with⟨⟩|⟨n,⟨⟩|⟨m,r⟩⟩
 .exact key (fun e=>by cases e) h
 .exact .one n d (aC h).symm
 .exact key (fun e=>by cases e) h
theorem zP (h:ns.length≠1)(hl:xs.length=ns.length):bE ρ ns (.tuple xs)=some (bx ρ ns xs):=by
 rcases ns with⟨⟩|⟨n,⟨⟩|⟨m,r⟩⟩
 .exact if_pos hl
 .exact absurd rfl h
 .exact if_pos hl
def aB.del (ρ:aB)(ns:aH):aB:=ρ.filter fun p=>!ns.contains p.1
noncomputable def nT:Gs->aH
 |.n=>[]
 |.c tg _ _ r=>tg++nT r
noncomputable def eQ (f:D->Option (List D)):List D->Option (List D)
 |[]=>some []
 |x::xs=>(f x).bind fun a=>(eQ f xs).bind fun b=>some (a++b)
noncomputable def DW:Gs->Bool
 |.c _ _ _ .n=>true
 |_=>false
noncomputable def tS:D->Bool
 |.none|.bool _|.int _|.str _=>true
 |_=>false
def IX {β:Type}(o:Option D)(k:List D->Option β):Option β:=o.bind fun d=>oG d k
theorem GB {p:Prop}{r:β}{o:Option D}{k:List D->Option β}(h:IX o k=some r)(q:∀x,o=some (.tuple x)->k x=some r->p):p:=
 au h fun d e h=>let⟨x,e',h⟩:=wo h;q x (e'▸e) h
structure cL where
 cal:Nat->List D->Option D
 gl:Nat->Option D
 rz:Bool
section
variable (S:cL)
mutual
noncomputable def ev (ρ:aB):E->Option D
 |.l d=>some d
 |.v n=>ρ.get n
 |.g n=>S.gl n
 |.b o a b=>(ev ρ a).bind fun x=>(ev ρ b).bind fun y=>cX o x y
 |.n a=>H5 (ev ρ a) fun i=>some (.int (-i))
 |.w a=>H5 (ev ρ a) fun i=>some (.int (Builtin.bitNot i))
 |.q o a b=>(ev ρ a).bind fun x=>(ev ρ b).bind fun y=>cY o x y
 |.z a=>(ev ρ a).bind fun x=>(eJ x).map fun b=>.bool (!b)
 |.o o xs=>B9 ρ o xs
 |.e c a b=>(evT ρ c).bind fun t=>bif t then ev ρ a else ev ρ b
 |.i xs=>(kI ρ xs).bind fun ds=>if ds.length<=1000 then some (.list ds)else none
 |.t xs=>(kI ρ xs).bind fun ds=>if ds.length<=1000 then some (.tuple ds)else none
 |.d kvs=>some (.dict (kvs.map fun p=>(.str p.1, .str p.2)))
 |.p elt gs=>(qP ρ (ρ.del (nT gs)) (fun ρ'=>ev ρ' elt) gs).bind fun ds=>if(DW gs || decide (ds.length<=16777216))&&(!CD gs || bf ds)then some (.list ds)else none
 |.c f args=>(kI ρ args).bind fun ds=>S.cal f ds
 |.f f args=>(kI ρ args).bind fun ds=>pj f ds
 |.m m o args=>(ev ρ o).bind fun x=>(kI ρ args).bind fun ds=>ki m x ds
 |.r a y z=>wg (ev ρ a) fun x=>if decide (x.length+(x.length+1)*z.length<=16777216)&&sok (.str (Txt.replace x y z))then some (.str (Txt.replace x y z))else none
 |.setlen a=>ju (ev ρ a) fun ds=>if ds.all hZ&&decide (ds.length<=1000)then some (.int (kT ds).length)else none
 |.ssc e gs=>(qP ρ (ρ.del (nT gs)) (fun ρ'=>wg (ev ρ' e) fun a=>some (.str a)) gs).bind fun ds=>if decide (ds.length<=1000)&&(Lc gs&&decide ((kT ds).length<64))then some (.list ((iz (kT ds)).map .str))else none
 |.s a i=>(ev ρ a).bind fun x=>(ev ρ i).bind fun y=>lr x y
 |.a a lo hi st=>(ev ρ a).bind fun x=>(Ch ρ lo).bind fun l=>(Ch ρ hi).bind fun h=>(Ch ρ st).bind fun t=>fX x l h t
 |.olen n=>ju (ρ.get n) fun xs=>some (.int xs.length)
 |.oget n i=>ju (ρ.get n) fun xs=>(ev ρ i).bind fun y=>lr (.list xs) y
 |.ocall f n args=>ju (ρ.get n) fun xs=>(kI ρ args).bind fun ds=>(S.cal f (.list xs::ds)).bind fun d=>if tS d then some d else none
noncomputable def evT (ρ:aB):E->Option Bool
 |.z a=>(evT ρ a).map (!·)
 |.o o xs=>jn ρ o xs
 |.e c a b=>(evT ρ c).bind fun t=>bif t then evT ρ a else evT ρ b
 |.l d=>eJ d
 |.v n=>(ρ.get n).bind eJ
 |.g n=>(S.gl n).bind eJ
 |.b o a b=>((ev ρ a).bind fun x=>(ev ρ b).bind fun y=>cX o x y).bind eJ
 |.q o a b=>((ev ρ a).bind fun x=>(ev ρ b).bind fun y=>cY o x y).bind eJ
 |.c f args=>((kI ρ args).bind fun ds=>S.cal f ds).bind eJ
 |.f f args=>((kI ρ args).bind fun ds=>pj f ds).bind eJ
 |.m m o args=>((ev ρ o).bind fun x=>(kI ρ args).bind fun ds=>ki m x ds).bind eJ
 |.s a i=>((ev ρ a).bind fun x=>(ev ρ i).bind fun y=>lr x y).bind eJ
 |_=>none
noncomputable def kI (ρ:aB):Es->Option (List D)
 |.n=>some []
 |.c e r=>(ev ρ e).bind fun d=>(kI ρ r).bind fun ds=>some (d::ds)
noncomputable def Ch (ρ:aB):Os->Option (Option D)
 |.n=>some none
 |.y e=>(ev ρ e).bind fun d=>some (some d)
noncomputable def B9 (ρ:aB)(o:BoolOp):Es->Option D
 |.n=>none
 |.c e .n=>ev ρ e
 |.c e r=>(ev ρ e).bind fun d=>(eJ d).bind fun b=>if(o==.And&&!b) || (o==.Or&&b)then some d else B9 ρ o r
noncomputable def jn (ρ:aB)(o:BoolOp):Es->Option Bool
 |.n=>some (o==.And)
 |.c e r=>(evT ρ e).bind fun b=>if(o==.And&&!b) || (o==.Or&&b)then some b else jn ρ o r
noncomputable def dZ (ρ:aB):Bl->Option (List D)
 |.e a=>(ev ρ a).bind tq
 |.own n=>ju (ρ.get n) some
 |.r args=>(kI ρ args).bind oe
 |.enum a=>ju (ev ρ a) fun xs=>some (rA xs)
 |.zip es=>(kI ρ es).bind fun ds=>(zip2 ds).bind fun out=>if ρ.all fun p=>a8 p.2 then some out else none
 |.rev a=>ju (ev ρ a) fun xs=>some xs.reverse
noncomputable def qP (ρs ρ:aB)(elt:aB->Option D):Gs->Option (List D)
 |.n=>(elt ρ).map fun d=>[d]
 |.c tg src ifs r=>(dZ ρs src).bind fun items=>eQ (fun it=>(bE ρ tg it).bind fun ρ'=>(jn ρ' .And ifs).bind fun b=>bif b then qP ρ' ρ' elt r else some []) items
end
end
mutual
inductive St where
 |s (n:Nat) (e:E)|u (ns:aH)(e:E)|aug (n:Nat) (o:Operator)(e:E)
 |newO (n:Nat) (es:Es)|splitO (n:Nat) (a b:E)
 |a (n:Nat) (e:E)|rev (n:Nat)|del (n:Nat) (i:Int)
 |i (c:E)(a b:oK)|l (tg:aH)(src:Bl)(body:oK)
 |r (e:E)|tryE (body:oK)|retZ (f:Nat) (args:Es)|assert (e:E)|hole|grow (n:Nat) (tg:aH)(body:oK)
inductive oK where
 |n|c (s:St)(r:oK)
end
inductive jg where
 |n (ρ:aB)|r (d:D)
noncomputable def tj (f:D->aB->Option jg):List D->aB->Option jg
 |[],ρ=>some (.n ρ)
 |d::ds,ρ=>match f d ρ with
  |some (.n ρ')=>tj f ds ρ'
  |o=>o
noncomputable def qT (o:Option jg)(k:aB->Option jg):Option jg:=match o with
 |some (.n ρ)=>k ρ
 |o=>o
noncomputable def rE (f:D->aB->Option jg)(n:Nat):Nat->Nat->aB->Option jg
 |0,_,_=>none
 |k+1,i,ρ=>ju (ρ.get n) fun xs=>(xs[i]?).elim (some (.n ρ)) fun d=>qT (f d ρ) (rE f n k (i+1))
noncomputable def Co:Nat:=200000
theorem HW (hk:0<k)(h:rE f n k i ρ=some o):∃xs,ρ.get n=some (.list xs):=by
 cases k with
 |zero=>exact absurd hk (Nat.lt_irrefl 0)
 |succ k=>exact ef (show ju (ρ.get n) _=some o from h) fun xs g _=>⟨xs,g⟩
section
variable (S:cL)
mutual
noncomputable def ex (ρ:aB):St->Option jg
 |.s n e=>(ev S ρ e).map fun d=>.n (aB.set ρ n d)
 |.u ns e=>IX (ev S ρ e) fun xs=>if xs.length=ns.length then some (.n (bx ρ ns xs))else none
 |.aug n o e=>(ρ.get n).bind fun x=>(ev S ρ e).bind fun y=>(sX o x y).map fun d=>.n (aB.set ρ n d)
 |.newO n es=>(kI S ρ es).bind fun ds=>if ds.length<=1000 then some (.n (aB.set ρ n (.list ds)))else none
 |.splitO n a b=>wg (ev S ρ a) fun x=>wg (ev S ρ b) fun y=>if decide (0<y.length)&&sok (.list ((Txt.split x y).map .str))then some (.n (aB.set ρ n (.list ((Txt.split x y).map .str))))else none
 |.a n e=>ju (ρ.get n) fun xs=>(ev S ρ e).bind fun d=>if xs.length<1000000 then some (.n (aB.set ρ n (.list (xs++[d]))))else none
 |.rev n=>ju (ρ.get n) fun xs=>some (.n (aB.set ρ n (.list xs.reverse)))
 |.del n i=>ju (ρ.get n) fun xs=>(seqIndex? i xs.length).bind fun j=>some (.n (aB.set ρ n (.list (xs.eraseIdx j))))
 |.i c a b=>(evT S ρ c).bind fun t=>bif t then eK ρ a else eK ρ b
 |.l tg src body=>(dZ S ρ src).bind fun items=>tj (fun d ρ'=>(bE ρ' tg d).bind fun ρ''=>eK ρ'' body) items ρ
 |.r e=>(ev S ρ e).map .r
 |.tryE body=>eK ρ body
 |.retZ f args=>(kI S ρ args).bind fun ds=>(S.cal (f+1000) ds).bind fun d=>if S.rz then some (.r d)else none
 |.assert e=>(evT S ρ e).bind fun t=>bif t then some (.n ρ)else none
 |.hole=>none
 |.grow n tg body=>rE (fun d ρ'=>(bE ρ' tg d).bind fun ρ''=>eK ρ'' body) n Co 0 ρ
noncomputable def eK (ρ:aB):oK->Option jg
 |.n=>some (.n ρ)
 |.c s r=>match ex ρ s with
  |some (.n ρ')=>eK ρ' r
  |o=>o
end
end
structure Fn where
 params:aH
 own:aH
 body:oK
def aW (S:cL)(f:Fn)(ds:List D):Option D:=
 if ds.length=f.params.length then(eK S (bx [] f.params ds) f.body).bind fun o=>match o with|.r d=>some d|.n _=>some .none else none
end Internal
end
namespace Internal
section
def ni (o:Obj):Prop:=(∃vs,o.data=.fields vs)/\o.cls≠.type "code" /\ o.cls≠.none/\o.cls≠.type "list" /\ o.cls≠.type "dict"
def Bm (z:Bool)(o:Obj):Prop:=ni o\/(z=true/\o.cls=.type "tuple" /\ ∃xs n,o.data=.seq xs n)
structure sI (G:GC)(A:Around)(z:Bool)(tg:Expr)(I:Addr)(fp wr:a9)(ds:List D)(vs:eU)(es:List D)(St:Nat->Heap->Prop)(P Md:Nat->Value->Heap->Prop):Prop where
 turns:KTurns G.prog G.w A tg I fp wr ds.length P Md St
 self:∀i (s:Shared)(Q:bg)(E:bg),St i s.heap->Q (.ref I) s->wpAny (br G) A (pyIter (.ref I)) Q E s
 item:∀O h i v d,ai G.w O h vs es->P i v h->ds[i]?=some d->av G.w O h v d
 solid:∀i h,St i h->∀b∈fp,∀o,h.get? b=some o->gu o
 wrc:∀i h,St i h->∀b∈wr,∀o,h.get? b=some o->Bm z o
 ex:∀i h,St i h->∀b∈wr,∃o,h.get? b=some o
inductive Jw (G:GC)(A:Around)(z:Bool)(O:a9)(tg:Expr)(ds:List D)(strict:Bool)(s:Shared)(I:Addr)(s':Shared):Prop
 |mk (fp wr:a9)(vs:eU)(es:List D)(St:Nat->Heap->Prop)(P Md:Nat->Value->Heap->Prop)(it:sI G A z tg I fp wr ds vs es St P Md)(st:St 0 s'.heap)(rv:ai G.w O s'.heap vs es)(h1:∀b∈wr,s.heap.get? b=none)
  (h2:∀b∈fp,∃o,s'.heap.get? b=some o)(h3:∀b∈fp,s.heap.get? b=none\/(strict=true->b∉O)\/∃vs,s'.heap.IsTuple b vs)(h4:z=true->∀d∈es,a8 d=true)
structure zK (G:GC)(A:Around)(z:Bool)(O:a9)(tg:Expr)(ds:List D)(strict:Bool)(s:Shared)(I:Addr)(s':Shared):Prop where
 ext:Ext G s s'
 len:ds.length<=16777216
 it:Jw G A z O tg ds strict s I s'
def Ht (G:GC)(A:Around)(z:Bool)(O:a9)(tg:Expr)(t:Sem Value)(s:Shared)(ds:List D)(strict:Bool):Prop:=
 ∀(Q:bg)(E:bg),(∀I s',zK G A z O tg ds strict s I s'->Q (.ref I) s')->wpAny (br G) A t (fun x s₁=>wpAny (br G) A (pyIter x) Q E s₁) E s
theorem oZ {h:Heap}(l:h.IsList a vs){o:Obj}(e:h.get? a=some o):o.cls=.type "list":=by obtain⟨o',e',c,_⟩:=l;rw[e]at e';obtain rfl:=aC e';exact c
theorem EZ {h:Heap}(l:h.IsTuple a vs){o:Obj}(e:h.get? a=some o):o.cls=.type "tuple":=by obtain⟨o',e',c,_⟩:=l;rw[e]at e';obtain rfl:=aC e';exact c
theorem I0 (h:o.cls=.type T)(hd:o.data=.fields vs)(h1:T ≠ "code" /\ T ≠ "list" /\ T ≠ "dict"):ni o:=
 ⟨⟨vs,hd⟩,fun e=>h1.1 (by rw[h]at e;exact Value.type.inj e),fun e=>(by rw[h]at e;cases e),fun e=>h1.2.1 (by rw[h]at e;exact Value.type.inj e),fun e=>h1.2.2 (by rw[h]at e;exact Value.type.inj e)⟩
theorem gN (h:o.cls=.type T)(hd:o.data=.fields vs)(h1:T ≠ "code" /\ T ≠ "list" /\ T ≠ "dict"):Bm z o:=.inl (I0 h hd h1)
theorem be (h:o.cls=.type T):gu o:=.inl (by rw[h];nofun)
def ch (e:Expr):Bool:=(bD e fun _ _=>true) || gd e fun _ _ _=>true
def wH (e:Expr):Bool:=bD e fun _ _=>true
def wI (e:Expr):Bool:=gd e fun _ _ _=>true
theorem G6 {P:Expr->Prop}(h:ch e=true)(q1:∀x p,P (.Name x p))(q2:∀es k p,P (.Tuple es k p)):P e:=
 (Bool.or_eq_true_iff.mp h).elim (fun h=>aF h fun x p _=>q1 x p) fun h=>dR h fun es k p _=>q2 es k p
theorem pP (hn:wH tg=true){it v:Value}{s:Shared}{Q:Unit->Shared->Prop}{E:bg}(h:Q () s):wpAny (br G) A (letOwnedTupleGo tg it v) Q E s:=by exact aF (P:=fun tg=>wpAny (br G) A (letOwnedTupleGo tg it v) Q E s) hn fun _ _ _=>bB h
set_option tactic.hygienic true in
theorem pO (hn:ch tg=true){i:Nat}{v:Value}{s:Shared}{Q:Unit->Shared->Prop}{E:bg}(hit:s.heap.IsListIter I l i)(h:Q () s):wpAny (br G) A (letOwnedTupleGo tg (.ref I) v) Q E s:=by
 refine G6 (P:=fun tg=>wpAny (br G) A (letOwnedTupleGo tg (.ref I) v) Q E s) hn (fun _ _=>bB h) fun es k p=>?_;rcases v with⟨⟩|⟨⟩
 case ref a=>exact wpAny_letOwnedTupleGo_listiter hit h
 all_goals exact bB h
noncomputable def kQ:List String:=["enumerate", "zip", "dict_itemiterator", "dict_reverseitemiterator", "odict_iterator", "itertools.zip_longest", "itertools.pairwise"]
set_option tactic.hygienic true in
theorem rL (hn:ch tg=true){o:Obj}{T:String}{vs:Array Value}{v:Value}{s:Shared}{Q:Unit->Shared->Prop}{E:bg}(ho:s.heap.get? I=some o)(hc:o.cls=.type T)(hd:o.data=.fields vs)(hT:kQ.contains T=false)(h:Q () s) :
  wpAny (br G) A (letOwnedTupleGo tg (.ref I) v) Q E s:=by
 refine G6 (P:=fun tg=>wpAny (br G) A (letOwnedTupleGo tg (.ref I) v) Q E s) hn (fun _ _=>bB h) fun es k p=>?_;rcases v with⟨⟩|⟨⟩
 any_goals exact bB h
 rename_i a;unfold letOwnedTupleGo;refine aN (wpAny_load ho ?_);rw[hc,hd];show wpAny _ A (if(kQ.contains T&&vs[0]?==some (rawInt a))=true then _ else _) Q E s;rw[hT];exact bB h
section
variable {G:GC}{A:Around}{O:a9}{s:Shared}{tg:Expr}{ds:List D}
theorem rI (hh:A.handled=none)(B:aX G s.heap)(p:0<s.toks)(hn:ch tg=true)(hlen:ds.length<=16777216)(l:s.heap.IsList a vs)(r:ai G.w O s.heap vs.toList ds)(ha:strict=true->a∉O)
  {Q:bg}{E:bg}(q:∀I s',zK G A false O tg ds strict s I s'->Q (.ref I) s'):wpAny (br G) A (pyIter (.ref a)) Q E s:=by
 have hk:∀b o,s.heap.get? b=some o->(s.heap.push { cls:=.type "list_iterator",data:=.fields #[.ref a, .int 0 0] }).get? b=some o:=fun b o e=>fO _ e;have hne:a≠s.heap.objs.size:=fun e=>by obtain⟨o,e',_⟩:=l;rw[e,ax]at e';exact nn e'
 have hsz:vs.size=ds.length:=by rw[<- r.length];simp
 have W:=Walks.list (prog:=G.prog) (w:=G.w) (A:=A) hh s.heap.objs.size a hne vs;rw[hsz]at W;refine wpAny_pyIter_list l (q _ _ ⟨.all B hk p,hlen,[s.heap.objs.size,a],[s.heap.objs.size],vs.toList,ds,_,_,_,
  ⟨KTurns.ofWalks W fun i v s' Q' E' st q'=>pO hn st.1 q',W.self,fun O' h i v d r' hP e=>?_,fun i h st b hb o e=>?_,fun i h st b hb o e=>?_,fun i h st b hb=>(by rcases aV hb with rfl;obtain⟨⟨o',e',_⟩,_⟩:=st;exact⟨_,e'⟩)⟩, ?_,r.keep (.of hk),fun b hb=>?_,fun b hb=>?_,fun b hb=>?_,fun q=>Bool.noConfusion q⟩)
 .obtain⟨v',e',r''⟩:=r'.get i d e;have hP:vs[i]?=some v:=hP;rw[Array.getElem?_toList,hP]at e';obtain rfl:=aC e';exact r''
 .rcases bM hb with rfl|hb
  .obtain⟨⟨o',e',c,_⟩,_⟩:=st;rw[e]at e';obtain rfl:=aC e';exact be c
  .rcases aV hb with rfl
   exact be (oZ st.2 e)
 .rcases aV hb with rfl
  obtain⟨⟨o',e',c,dd⟩,_⟩:=st;rw[e]at e';obtain rfl:=aC e';exact gN c dd (by decide)
 .exact⟨⟨_,ie _ rfl,rfl,rfl⟩,l.push _⟩
 .rcases aV hb with rfl
  exact ax _
 .rcases bM hb with rfl|hb
  .exact⟨_,ie _ rfl⟩
  .rcases aV hb with rfl
   obtain⟨o,e,_⟩:=l;exact⟨o,hk _ _ e⟩
 .rcases bM hb with rfl|hb
  .exact .inl (ax _)
  .rcases aV hb with rfl
   exact .inr (.inl ha)
theorem xr (hh:A.handled=none)(B:aX G s.heap)(p:0<s.toks)(hn:ch tg=true)(hlen:ds.length<=16777216)(l:s.heap.IsTuple a vs)(r:ai G.w O s.heap vs.toList ds) 
  {Q:bg}{E:bg}(q:∀I s',zK G A false O tg ds strict s I s'->Q (.ref I) s'):wpAny (br G) A (pyIter (.ref a)) Q E s:=by
 have hk:∀b o,s.heap.get? b=some o->(s.heap.push { cls:=.type "tuple_iterator",data:=.fields #[.ref a, .int 0 0] }).get? b=some o:=fun b o e=>fO _ e;have hne:a≠s.heap.objs.size:=fun e=>by obtain⟨o,e',_⟩:=l;rw[e,ax]at e';exact nn e'
 have hsz:vs.size=ds.length:=by rw[<- r.length];simp
 have W:=Walks.tuple (prog:=G.prog) (w:=G.w) (A:=A) hh s.heap.objs.size a hne vs;rw[hsz]at W;refine wpAny_pyIter_tuple l (q _ _ ⟨.all B hk p,hlen,[s.heap.objs.size,a],[s.heap.objs.size],vs.toList,ds,_,_,_,
  ⟨KTurns.ofWalks W fun i v s' Q' E' st q'=>(let⟨o,e,c,dd⟩:=st.1;rL hn e c dd (by decide) q'),W.self,fun O' h i v d r' hP e=>?_,fun i h st b hb o e=>?_,fun i h st b hb o e=>?_,fun i h st b hb=>(by rcases aV hb with rfl;obtain⟨⟨o',e',_⟩,_⟩:=st;exact⟨_,e'⟩)⟩, ?_,r.keep (.of hk),fun b hb=>?_,fun b hb=>?_,fun b hb=>?_,fun q=>Bool.noConfusion q⟩)
 .obtain⟨v',e',r''⟩:=r'.get i d e;have hP:vs[i]?=some v:=hP;rw[Array.getElem?_toList,hP]at e';obtain rfl:=aC e';exact r''
 .rcases bM hb with rfl|hb
  .obtain⟨⟨o',e',c,_⟩,_⟩:=st;rw[e]at e';obtain rfl:=aC e';exact be c
  .rcases aV hb with rfl
   exact be (EZ st.2 e)
 .rcases aV hb with rfl
  obtain⟨⟨o',e',c,dd⟩,_⟩:=st;rw[e]at e';obtain rfl:=aC e';exact gN c dd (by decide)
 .exact⟨⟨_,ie _ rfl,rfl,rfl⟩,l.push _⟩
 .rcases aV hb with rfl
  exact ax _
 .rcases bM hb with rfl|hb
  .exact⟨_,ie _ rfl⟩
  .rcases aV hb with rfl
   obtain⟨o,e,_⟩:=l;exact⟨o,hk _ _ e⟩
 .rcases bM hb with rfl|hb
  .exact .inl (ax _)
  .rcases aV hb with rfl
   exact .inr (.inr ⟨_,l.push _⟩)
theorem CG (hh:A.handled=none)(B:aX G s.heap)(p:0<s.toks)(hn:ch tg=true)(hx:sok (.str x)=true) 
  {Q:bg}{E:bg}(q:∀I s',zK G A false O tg (x.cps.toList.map fun c=>.str ⟨#[c]⟩) strict s I s'->Q (.ref I) s'):wpAny (br G) A (pyIter (.str x t)) Q E s:=by
 have fin:∀(T:String)(St:Nat->Heap->Prop),(T ≠ "code" /\ T ≠ "list" /\ T ≠ "dict")->kQ.contains T=false->Walks G.prog G.w A s.heap.objs.size [s.heap.objs.size] [s.heap.objs.size] x.cps.size (SignAt x) St ->
   (∀i h,St i h↔h.IsStrIter s.heap.objs.size T x t i)->Q (.ref s.heap.objs.size) { s with heap:=s.heap.push { cls:=.type T,data:=.fields #[.str x t, .int 0 0] } }:=by
  intro T St h1 hT W hSt;have hk:∀b o,s.heap.get? b=some o->(s.heap.push { cls:=.type T,data:=.fields #[.str x t, .int 0 0] }).get? b=some o:=fun b o e=>fO _ e;have hsz:x.cps.size=(x.cps.toList.map fun c=>(PyData.str ⟨#[c]⟩)).length:=by simp
  rw[hsz]at W;refine q _ _ ⟨.all B hk p,by rw[dq,jR];exact(sok_str.mp hx).2,[s.heap.objs.size],[s.heap.objs.size],[],[],_,_,_,
   ⟨KTurns.ofWalks W fun i v s' Q' E' st q'=>(let⟨o,e,c,dd⟩:=(hSt _ _).mp st;rL hn e c dd hT q'),W.self,fun O' h i v d r' hP e=>?_,fun i h st b hb o e=>?_,fun i h st b hb o e=>?_,fun i h st b hb=>(by rcases aV hb with rfl;obtain⟨o',e',_⟩:=(hSt i h).mp st;exact⟨_,e'⟩)⟩, ?_, .nil,fun b hb=>?_,fun b hb=>?_,fun b hb=>?_,fun q=>Bool.noConfusion q⟩
  .obtain⟨c,u,e',rfl⟩:=hP;have:(some (PyData.str ⟨#[c]⟩))=some d:=by rw[<- e,List.getElem?_map,Array.getElem?_toList,e'];rfl
   obtain rfl:=aC this;exact .str (DV hx e')
  .rcases aV hb with rfl
   obtain⟨o',e',c,_⟩:=(hSt i h).mp st;rw[e]at e';obtain rfl:=aC e';exact be c
  .rcases aV hb with rfl
   obtain⟨o',e',c,dd⟩:=(hSt i h).mp st;rw[e]at e';obtain rfl:=aC e';exact gN c dd h1
  .exact(hSt _ _).mpr ⟨_,ie _ rfl,rfl,rfl⟩
  .rcases aV hb with rfl
   exact ax _
  .rcases aV hb with rfl
   exact⟨_,ie _ rfl⟩
  .rcases aV hb with rfl
   exact .inl (ax _)
 cases ha:x.cps.all (· < 128)
 .exact wpAny_pyIter_wide ha (fin _ _ (by decide) (by decide) (Walks.strWide hh _ x t) fun _ _=>Iff.rfl)
 .exact wpAny_pyIter_ascii ha (fin _ _ (by decide) (by decide) (Walks.strAscii hh _ x t) fun _ _=>Iff.rfl)
theorem qn (hc:0<c)(hs:b-a<=16777216):Builtin.Range.rangeSize a b c=(((b-a+c-1) / c).toNat:Int):=by
 unfold Builtin.Range.rangeSize;rw[if_pos hc];have e:(b-a+c-1) / c=(b-a-1) / c+1:=by rw[show b-a+c-1=(b-a-1)+c from Int.add_right_comm (b-a) c (-1),Int.add_ediv_of_dvd_right (Int.dvd_refl c),Int.ediv_self (Int.ne_of_gt hc)]
 by_cases h:a<b
 .rw[if_pos h,e,Int.toNat_of_nonneg (Int.add_nonneg (Int.ediv_nonneg (Int.le_sub_one_of_lt (Int.sub_pos_of_lt h)) (Int.le_of_lt hc)) (by decide)),Int.add_comm]
 .have:(b-a+c-1) / c<1:=Int.ediv_lt_of_lt_mul hc ((Int.one_mul c).symm▸Int.lt_of_lt_of_le (Int.sub_lt_self (b-a+c) (by decide)) (Int.le_trans (Int.add_le_add_right (Int.sub_nonpos_of_le (Int.not_lt.mp h)) c) (Int.le_of_eq (Int.zero_add c))));rw[if_neg h,Int.toNat_of_nonpos (Int.le_of_lt_add_one this)];rfl
end
end
section
section
variable {G:GC}{A:Around}{O:a9}{s:Shared}{tg:Expr}{ds:List D}
theorem sj {a b c:Int}(h0:0<c)(hs:b-a<=16777216):((b-a+c-1) / c).toNat<=16777216:=by refine Int.toNat_le.mpr (Int.le_of_lt_add_one (Int.ediv_lt_of_lt_mul h0 ?_));refine Int.lt_of_lt_of_le (Int.sub_lt_self (b-a+c) (by decide)) (Int.le_trans (Int.add_le_add_right (Int.le_trans hs ?_) c) (Int.le_of_eq (((Int.add_mul 16777216 1 c).trans (congrArg (16777216*c + ·) (Int.one_mul c))).symm)));exact Int.le_trans (Int.le_of_eq (Int.mul_one 16777216).symm) (Int.mul_le_mul_of_nonneg_left h0 (by decide))
theorem jq {x:Int}(h1 : -1073741824<=x)(h2:x<=2147483648):Builtin.Range.rangeFitsLong x=true:=
 kY ⟨eD (Int.le_trans (by decide) h1),eD (Int.lt_of_le_of_lt h2 (by decide))⟩
theorem wa {a b c:Int}(h0:0<c)(h1 : -1073741824<=a)(h2:a<=1073741824)(h3 : -1073741824<=b)(h4:b<=1073741824)(h5:c<=1073741824)(hs:b-a<=16777216):Builtin.Range.small a b c=true:=by
 have w:(1073741824:Int)<=2147483648:=by decide
 refine kY ⟨kY ⟨kY ⟨kY ⟨jq h1 (Int.le_trans h2 w),jq h3 (Int.le_trans h4 w)⟩,jq (Int.le_trans (by decide) (Int.le_of_lt h0)) (Int.le_trans h5 w)⟩, ?_⟩,Bool.or_eq_true_iff.mpr (.inr ?_)⟩
 .rw[qn h0 hs];exact jq (Int.le_trans (by decide) (Int.natCast_nonneg _)) (Int.le_trans (Int.ofNat_le.mpr (sj h0 hs)) (by decide))
 .rw[if_pos h0];exact jq (Int.le_trans h3 (Int.le_add_of_nonneg_right (Int.sub_nonneg_of_le h0))) (Int.le_trans (Int.add_le_add h4 (Int.le_trans (Int.sub_le_self c (by decide)) h5)) (by decide))
set_option tactic.hygienic true in
theorem xq (hh:A.handled=none)(B:aX G s.heap)(p:0<s.toks)(hn:wH tg=true){a b c:Int}{t u v:Tok}{r:Addr}(hr:IsRange s.heap r a b c t u v)(h:iR a b c=some ds){strict:Bool}
  {Q:bg}{E:bg}(q:∀I s',zK G A false O tg ds strict s I s'->Q (.ref I) s'):wpAny (br G) A (pyIter (.ref r)) Q E s:=by
 unfold iR at h;split at h <;> cases h;rename_i g;simp only[g9,kh]at g;obtain⟨⟨⟨⟨⟨⟨h0,h1⟩,h2⟩,h3⟩,h4⟩,h5⟩,h6⟩:=g;have hk:∀b' o,s.heap.get? b'=some o->(s.heap.push { cls:=.type "range_iterator",data:=.fields #[rawInt a,rawInt (Builtin.Range.rangeSize a b c),rawInt c] }).get? b'=some o:=fun b o e=>fO _ e;have hlen:((List.range ((b-a+c-1) / c).toNat).map fun k:Nat=>PyData.int (a+k*c)).length<=16777216:=by rw[dq,List.length_range];exact sj h0 h6
 have hsz:((b-a+c-1) / c).toNat=((List.range ((b-a+c-1) / c).toNat).map fun k:Nat=>PyData.int (a+k*c)).length:=by simp
 have W:=Walks.range (prog:=G.prog) (w:=G.w) (A:=A) hh s.heap.objs.size a c ((b-a+c-1) / c).toNat;refine wpAny_pyIter_range hr (wa h0 h1 h2 h3 h4 h5 h6) (q _ _ ⟨.all B hk p,hlen,[s.heap.objs.size],[s.heap.objs.size],[],[],_,_,_,
  ⟨(by have K:=KTurns.ofWalks W fun i v s' Q' E' st q'=>pP hn q';rw[<- hsz];exact K),W.self,fun O' h i v d r' hP e=>?_,fun i h st b hb o e=>?_,fun i h st b hb o e=>?_,fun i h st b hb=>(by rcases aV hb with rfl;exact⟨_,st⟩)⟩, ?_, .nil,fun b hb=>?_,fun b hb=>?_,fun b hb=>?_,fun q=>Bool.noConfusion q⟩)
 .obtain⟨t',rfl⟩:=hP;rw[List.getElem?_map,Option.map_eq_some_iff]at e;obtain⟨k,e,rfl⟩:=e;have:k=i:=by
   rw[List.getElem?_eq_some_iff]at e;obtain⟨_,e⟩:=e
   simpa using e.symm
  subst this;exact .int
 .rcases aV hb with rfl
  have st:h.get? s.heap.objs.size=_:=st;rw[st]at e;obtain rfl:=aC e;exact be rfl
 .rcases aV hb with rfl
  have st:h.get? s.heap.objs.size=_:=st;rw[st]at e;obtain rfl:=aC e;exact gN rfl rfl (by decide)
 .show(s.heap.push _).get? _=_;rw[qn h0 h6,ie _ rfl];simp
 .rcases aV hb with rfl
  exact ax _
 .rcases aV hb with rfl
  exact⟨_,ie _ rfl⟩
 .rcases aV hb with rfl
  exact .inl (ax _)
theorem CF (hh:A.handled=none)(B:aX G s.heap)(p:0<s.toks)(hn:wH tg=true)(hlen:ds.length<=16777216){a:Addr}{vs:Array Value}(l:s.heap.IsList a vs)(r:ai G.w O s.heap vs.toList ds){strict:Bool}(ha:strict=true->a∉O)
  {Q:bg}{E:bg}(q:∀I s',zK G A false O tg ds.reverse strict s I s'->Q (.ref I) s') :
  wpAny (br G) A (call (.type "reversed") [.ref a]) (fun x s₁=>wpAny (br G) A (pyIter x) Q E s₁) E s:=by
 have hk:∀b o,s.heap.get? b=some o->(s.heap.push (revObj a ((vs.size:Int)-1))).get? b=some o:=fun b o e=>fO _ e;have hne:a≠s.heap.objs.size:=fun e=>by obtain⟨o,e',_⟩:=l;rw[e,ax]at e';exact nn e'
 have hsz:vs.size=ds.reverse.length:=by rw[List.length_reverse,<- r.length];simp
 have W:=Walks.listRev (prog:=G.prog) (w:=G.w) (A:=A) hh s.heap.objs.size a hne vs;have K:=KTurns.ofWalks (target:=tg) W fun i v s' Q' E' st q'=>pP hn q';rw[hsz]at K;refine call_reversed_list l (wpAny_pyIter_revIter (it:=s.heap.objs.size) (l:=a) (i:=(vs.size:Int)-1) ⟨_,ie _ rfl,rfl,rfl⟩ (q _ _ ⟨.all B hk p,by simpa using hlen,[s.heap.objs.size,a],[s.heap.objs.size],vs.toList,ds,_,_,_,
  ⟨K,(by have:=W.self;rw[hsz]at this;exact this),fun O' h i v d r' hP e=>?_,fun i h st b hb o e=>?_,fun i h st b hb o e=>?_,fun i h st b hb=>(by rcases aV hb with rfl;obtain⟨_,⟨o',e',_⟩,_⟩:=st;exact⟨_,e'⟩)⟩, ?_,r.keep (.of hk),fun b hb=>?_,fun b hb=>?_,fun b hb=>?_,fun q=>Bool.noConfusion q⟩))
 .have hi:i<ds.length:=by have:=(List.getElem?_eq_some_iff.mp e).1;simpa using this
  rw[List.getElem?_reverse hi]at e;obtain⟨v',e',r''⟩:=r'.get _ d e;have hP:vs[ds.reverse.length-1-i]?=some v:=hP;rw[List.length_reverse]at hP;rw[Array.getElem?_toList,hP]at e';obtain rfl:=aC e';exact r''
 .obtain⟨_,st1,st2⟩:=st;rcases bM hb with rfl|hb
  .obtain⟨o',e',c,_⟩:=st1;rw[e]at e';obtain rfl:=aC e';exact be c
  .rcases aV hb with rfl
   exact be (oZ st2 e)
 .obtain⟨_,st1,st2⟩:=st;rcases aV hb with rfl
  obtain⟨o',e',c,dd⟩:=st1;rw[e]at e';obtain rfl:=aC e';exact gN c dd (by decide)
 .refine⟨nv _,⟨_,ie _ rfl,rfl, ?_⟩,l.push _⟩;simp[revObj,hsz]
 .rcases aV hb with rfl
  exact ax _
 .rcases bM hb with rfl|hb
  .exact⟨_,ie _ rfl⟩
  .rcases aV hb with rfl
   obtain⟨o,e,_⟩:=l;exact⟨o,hk _ _ e⟩
 .rcases bM hb with rfl|hb
  .exact .inl (ax _)
  .rcases aV hb with rfl
   exact .inr (.inl ha)
theorem vD {h:Heap}{e it:Addr}{i:Int}{old:Value}(he:IsEnum h e it i old){o:Obj}(q:h.get? e=some o):∃vs,o.data=.fields vs:=by have he:h.get? e=_:=he;rw[he]at q;obtain rfl:=aC q;exact⟨_,rfl⟩
theorem pI {h:Heap}{e it:Addr}{i:Int}{old:Value}(he:IsEnum h e it i old){o:Obj}(q:h.get? e=some o):o.cls=.type "enumerate":=by have he:h.get? e=_:=he;rw[he]at q;obtain rfl:=aC q;rfl
theorem rM {G:GC}{A:Around}{tg:Expr}(hn:wI tg=true):∃es k p,tg=.Tuple es k p:=by exact dR (P:=fun tg=>∃es k p,tg=.Tuple es k p) hn fun es k p _=>⟨es,k,p,rfl⟩
theorem Ah (hh:A.handled=none)(B:aX G s.heap)(p:0<s.toks)(hn:wI tg=true)(hlen:ds.length<=16777216){a:Addr}{vs:Array Value}(l:s.heap.IsList a vs)(r:ai G.w O s.heap vs.toList ds){strict:Bool}(ha:strict=true->a∉O)
  {Q:bg}{E:bg}(q:∀I s',zK G A false O tg (rA ds) strict s I s'->Q (.ref I) s') :
  wpAny (br G) A (call (.type "enumerate") [.ref a]) (fun x s₁=>wpAny (br G) A (pyIter x) Q E s₁) E s:=by
 obtain⟨es,k,pp,rfl⟩:=rM (G:=G) (A:=A) hn;have hlt:a<s.heap.objs.size:=by obtain⟨o,e,_⟩:=l;exact Heap.lt_size e
 have hsz:vs.size=(rA ds).length:=by unfold rA;rw[dq,List.length_zipIdx,<- r.length];simp
 refine call_enumerate_list l fun h' he hit hz hk=>?_;have W:=(WalksT.enumerate (prog:=G.prog) (w:=G.w) (A:=A) hh (s.heap.objs.size+1) s.heap.objs.size a (Nat.succ_ne_self _) (Nat.ne_of_lt (Nat.lt_succ_of_lt hlt)) (Nat.ne_of_lt hlt) vs).toU;have K:=KTurns.ofWalksU (elts:=es) (k:=k) (pos:=pp) W;have hself:=W.self;rw[hsz]at K;have nw:s.heap.get? (s.heap.objs.size+1)=none:=by
  cases e:s.heap.get? (s.heap.objs.size+1)with
  |none=>rfl
  |some o=>exact absurd (Heap.lt_size e) (Nat.not_lt.mpr (Nat.le_succ _))
 refine wpAny_pyIter_enum he (q _ _ ⟨.all B hk p,by rw[<- hsz,<- jR,r.length];exact hlen,[s.heap.objs.size+1,s.heap.objs.size,a],[s.heap.objs.size+1,s.heap.objs.size],vs.toList,ds,_,_,_,
  ⟨K,hself,fun O' h i v d r' hP e=>?_,fun i h st b hb o e=>?_,fun i h st b hb o e=>?_,fun i h st b hb=>(by
   obtain⟨⟨old,st0⟩,⟨o',e',_⟩,_⟩:=st;rcases bM hb with rfl|hb
   .exact⟨_,st0⟩
   .rcases aV hb with rfl;exact⟨_,e'⟩)⟩, ?_,r.keep (.of hk),fun b hb=>?_,fun b hb=>?_,fun b hb=>?_,fun q=>Bool.noConfusion q⟩)
 .obtain⟨T,vals,rfl,⟨t,x,hx,rfl⟩,hT⟩:=hP;unfold rA at e;rw[List.getElem?_map,List.getElem?_zipIdx]at e;cases e1:ds[i]? with
  |none=>rw[e1]at e;exact nn e
  |some d' =>
   rw[e1]at e;simp only[Option.map_some,Option.some.injEq,Nat.zero_add]at e;subst e;obtain⟨v',e',r''⟩:=r'.get i d' e1;rw[Array.getElem?_toList,hx]at e';obtain rfl:=aC e';exact .tuple_of (by simp) hT (.cons .int (.cons r'' .nil))
 .obtain⟨⟨old,st0⟩,st1,st2⟩:=st;rcases bM hb with rfl|hb
  .exact be (pI st0 e)
  .rcases bM hb with rfl|hb
   .obtain⟨o',e',c,_⟩:=st1;rw[e]at e';obtain rfl:=aC e';exact be c
   .rcases aV hb with rfl
    exact be (oZ st2 e)
 .obtain⟨⟨old,st0⟩,st1,st2⟩:=st;rcases bM hb with rfl|hb
  .obtain⟨_,dd⟩:=vD st0 e;exact gN (pI st0 e) dd (by decide)
  .rcases aV hb with rfl
   obtain⟨o',e',c,dd⟩:=st1;rw[e]at e';obtain rfl:=aC e';exact gN c dd (by decide)
 .obtain⟨o,e,c⟩:=l;exact⟨⟨.none,he⟩,hit,⟨o,hk _ _ e,c⟩⟩
 .rcases bM hb with rfl|hb
  .exact nw
  .rcases aV hb with rfl
   exact ax _
 .rcases bM hb with rfl|hb
  .exact⟨_,he⟩
  .rcases bM hb with rfl|hb
   .obtain⟨o,e,_⟩:=hit;exact⟨_,e⟩
   .rcases aV hb with rfl
    obtain⟨o,e,_⟩:=l;exact⟨o,hk _ _ e⟩
 .rcases bM hb with rfl|hb
  .exact .inl nw
  .rcases bM hb with rfl|hb
   .exact .inl (ax _)
   .rcases aV hb with rfl
    exact .inr (.inl ha)
theorem CH (hh:A.handled=none)(B:aX G s.heap)(p:0<s.toks){v:Value}{d:D}(r:av G.w O s.heap v d)(h:tq d=some ds)
  (hn:ch tg=true)
  {strict:Bool}{Q:bg}{E:bg}(q:∀I s',zK G A false O tg ds strict s I s'->Q (.ref I) s'):wpAny (br G) A (pyIter v) Q E s:=by
 cases d with
 |list xs =>
  obtain rfl:=aC h;obtain⟨a,vs,rfl,ha,l,rr⟩:=r.list_inv;exact rI hh B p hn r.list_len l rr (fun _=>ha) q
 |tuple xs =>
  obtain rfl:=aC h;obtain⟨a,vs,rfl,l,rr⟩:=r.tuple_inv;exact xr hh B p hn r.tuple_len l rr q
 |str x =>
  obtain rfl:=aC h;obtain⟨t,rfl⟩:=r.str_inv;exact CG hh B p hn r.sok q
 |_=>exact nn h
end
end
section
abbrev bw (G:GC)(A:Around)(x:Expr)(env:Env)(own:dK)(O:a9)(ρ:aB)(d:D):Prop:=∀s,di G A env own O ρ s->dW G A O (eval x env) s d
abbrev mC (G:GC)(A:Around)(x:Expr)(env:Env)(own:dK)(O:a9)(ρ:aB)(b:Bool):Prop:=∀s,di G A env own O ρ s->wK G A (isTrue x env (eval x env)) s b
abbrev kZ (G:GC)(A:Around)(xs:dU)(env:Env)(own:dK)(O:a9)(ρ:aB)(ds:List D):Prop:=∀s pos,di G A env own O ρ s->Lk G A O (spliced (backTo pos (starEach xs env))) s ds
section
variable {G:GC}{A:Around}{env:Env}{own:dK}{O:a9}{ρ:aB}{d:D}
theorem Bv:bw G A (.Constant .none k pos) env own O ρ .none:=fun s I Q E q=>wpAny_Constant_none (q _ s (.refl I.base I.pos) .none)
theorem Br:bw G A (.Constant (.bool b) k pos) env own O ρ (.bool b):=fun s I Q E q=>wpAny_Constant_bool (q _ s (.refl I.base I.pos) .bool)
theorem sP:bw G A (.Constant (.int i) k pos) env own O ρ (.int i):=fun s I Q E q=>wpAny_Constant_int (q _ _ ((Ext.refl I.base I.pos).tok (Nat.succ_pos _)) .int)
theorem EO (h:sok (.str x)=true):bw G A (.Constant (.str x) k pos) env own O ρ (.str x):=fun s I Q E q=>wpAny_Constant_str (q _ _ ((Ext.refl I.base I.pos).tok (Nat.succ_pos _)) (.str h))
theorem ER (hn:G.names[n]?=some x)(hk:env.kindOf x=some k)(hkk:k=.local\/k=.cell\/k=.free)(hx:(x==("__classdict__" : Str))=false)(hd:(x==("__debug__" : Str))=false)
  (ho:n∉own.ns)(hg:ρ.get n=some d):bw G A (.Name x pos) env own O ρ d:=fun s I Q E q=>by
 refine wpAny_Name (m8 I hn hk hkk hx hg fun v r=>?_) hd;unfold cG at r;rw[if_neg ho]at r;exact q v s (.refl I.base I.pos) r
theorem im {pos:Pos}{Q:bg}{E:bg}(I:di G A env own O ρ s)(hk:env.kindOf x=some .globalImplicit)(hd:(x==("__debug__" : Str))=false)(hv:G.mg x=some v)(q:Q v s) :
  wpAny (br G) A (eval (.Name x pos) env) Q E s:=by
 refine Name_function_global I.envr.fn hk (loadGlobal_global (mg:=G.mg) ?_ hv q) hd;rw[I.envr.gl];exact I.ok.g.at' fun o e=>I.base.keep _ o e
theorem d8 {pos:Pos}{Q:bg}{E:bg}(I:di G A env own O ρ s)(hk:env.kindOf x=some .globalImplicit)(hd:(x==("__debug__" : Str))=false)(hm:G.mg x=none)(hv:bootBuiltins x=some v)
  (hne:x ≠ "__name__") (q:Q v s):wpAny (br G) A (eval (.Name x pos) env) Q E s:=by
 refine Name_function_global I.envr.fn hk (loadGlobal_builtin (mg:=G.mg) (mb:=G.mb) ?_ hm ?_ ((I.ok.bt x hne).trans hv) q) hd
 .rw[I.envr.gl];exact I.ok.g.at' fun o e=>I.base.keep _ o e
 .rw[I.envr.bi];exact I.ok.b.at' fun o e=>I.base.keep _ o e
theorem EJ (hl:bw G A l env own O ρ a)(hr:bw G A r env own O ρ b)(h:cX o a b=some d):bw G A (.BinOp l o r pos) env own O ρ d:=fun s I Q E q =>
 wpAny_BinOp (hl s I _ _ fun v s1 x1 r1=>hr s1 (I.ext x1) _ _ fun u s2 x2 r2=>mE x2.base x2.pos (I.ext (x1.trans x2)).ov (r1.keep x2.keep) r2 h _ _ fun z s3 x3 r3=>q z s3 ((x1.trans x2).trans x3) r3)
theorem yz (hl:bw G A l env own O ρ (.int i)):bw G A (.UnaryOp .USub l pos) env own O ρ (.int (-i)):=fun s I Q E q =>
 wpAny_UnaryOp (hl s I _ _ fun v s1 x1 r1=>by obtain⟨t,rfl⟩:=r1.int_inv;exact AB x1.base x1.pos _ _ fun z s3 x3 r3=>q z s3 (x1.trans x3) r3)
theorem EM (hl:bw G A l env own O ρ (.int i)):bw G A (.UnaryOp .Invert l pos) env own O ρ (.int (Builtin.bitNot i)):=fun s I Q E q =>
 wpAny_UnaryOp (hl s I _ _ fun v s1 x1 r1=>by obtain⟨t,rfl⟩:=r1.int_inv;exact Ag x1.base x1.pos _ _ fun z s3 x3 r3=>q z s3 (x1.trans x3) r3)
theorem Hz (hl:bw G A l env own O ρ a)(h:eJ a=some b):bw G A (.UnaryOp .Not l pos) env own O ρ (.bool (!b)):=fun s I Q E q =>
 wpAny_UnaryOp (hl s I _ _ fun v s1 x1 r1=>AF x1.base x1.pos r1 h _ _ fun z s3 x3 r3=>q z s3 (x1.trans x3) r3)
theorem EL (hu:A.units+100<cLine)(hm:behindInMarks o r=false)(hl:bw G A l env own O ρ a)(hr:bw G A r env own O ρ b)(h:cY o a b=some d):bw G A (.Compare l [o] [r] pos) env own O ρ d:=fun s I Q E q =>
 wpAny_Compare1 (hl s I _ _ fun v s1 x1 r1=>hr s1 (I.ext x1) _ _ fun u s2 x2 r2=>mG x2.base x2.pos hu (r1.keep x2.keep) r2 h _ _ fun z s3 x3 r3=>q z s3 ((x1.trans x2).trans x3) r3) hm
theorem yx (hc:mC G A c env own O ρ b)(hl:b=true->bw G A l env own O ρ d)(hr:b=false->bw G A r env own O ρ d):bw G A (.IfExp c l r pos) env own O ρ d:=fun s I Q E q =>
 wpAny_IfExp (hc s I _ _ fun s1 x1=>by
  cases b
  .exact hr rfl s1 (I.ext x1) _ _ fun z s3 x3 r3=>q z s3 (x1.trans x3) r3
  .exact hl rfl s1 (I.ext x1) _ _ fun z s3 x3 r3=>q z s3 (x1.trans x3) r3)
theorem yA:kZ G A [] env own O ρ []:=fun s pos I Q E q=>spliced_nil (q [] s (.refl I.base I.pos) .nil)
theorem ur (hx:bw G A x env own O ρ d)(hxs:kZ G A xs env own O ρ ds)(hs:∀env,starEach (x::xs) env=(false,eval x env)::starEach xs env):kZ G A (x::xs) env own O ρ (d::ds):=fun s pos I Q E q=>by rw[hs];exact spliced_cons (hx s I _ _ fun v s1 x1 r1=>hxs s1 pos (I.ext x1) _ _ fun vs s2 x2 r2=>q _ s2 (x1.trans x2) (.cons (r1.keep x2.keep) r2))
noncomputable def bk (x:Expr):Bool:=!(x.ctorIdx==22)
theorem cr (h:bk x=true)(xs:dU)(env:Env):starEach (x::xs) env=(false,eval x env)::starEach xs env:=by cases x <;> first|rfl|exact ff h
theorem Bu (h:kZ G A xs env own O ρ ds)(hl:ds.length<=1000):bw G A (.List xs pos) env own O ρ (.list ds):=fun s I Q E q=>by rw[arm_eval_List];exact aN (wpAny_standAt (aN (h s pos I _ _ fun vs s1 x1 r1=>Da x1.base x1.pos (I.ext x1).ov r1 (by exact rJ ‹_› rfl) _ _ fun z s3 x3 r3=>q z s3 (x1.trans x3) r3)))
theorem EQ (h:kZ G A xs env own O ρ ds)(hl:ds.length<=1000):bw G A (.Tuple xs k pos) env own O ρ (.tuple ds):=fun s I Q E q=>by rw[arm_eval_Tuple];exact aN (wpAny_standAt (aN (h s pos I _ _ fun vs s1 x1 r1=>AD x1.base x1.pos r1 (by exact rJ ‹_› rfl) _ _ fun z s3 x3 r3=>q z s3 (x1.trans x3) r3)))
theorem EP (hs:gD slice=true)(ha:bw G A value env own O ρ a)(hi:bw G A slice env own O ρ i)(h:lr a i=some d):bw G A (.Subscript value slice pos) env own O ρ d:=fun s I Q E q =>
 Subscript_ (ha s I _ _ fun v s1 x1 r1=>hi s1 (I.ext x1) _ _ fun u s2 x2 r2=>A7 x2.base x2.pos hs (r1.keep x2.keep) r2 h _ _ fun z s3 x3 r3=>q z s3 ((x1.trans x2).trans x3) r3)
def Hs (w:World)(O:a9)(h:Heap)(v:Value):Option D->Prop
 |none=>v=.none
 |some d=>av w O h v d
abbrev mA (G:GC)(A:Around)(x:Option Expr)(env:Env)(own:dK)(O:a9)(ρ:aB)(od:Option D):Prop:=∀s,di G A env own O ρ s->∀(Q E:bg),
 (∀v s',Ext G s s'->Hs G.w O s'.heap v od->Q v s')->wpAny (br G) A (evalPart x env) Q E s
theorem AK:mA G A none env own O ρ none:=fun s I Q E q=>bB (q _ s (.refl I.base I.pos) rfl)
theorem AL (h:bw G A x env own O ρ d):mA G A (some x) env own O ρ (some d):=fun s I Q E q=>h s I _ _ fun v s1 x1 r1=>q v s1 x1 r1
theorem iy (x:Hs G.w O h v od)(k:eh h h'):Hs G.w O h' v od:=by
 cases od with
 |none=>exact x
 |some d=>exact av.keep x k
theorem lW {lo hi st:Option Expr}{p:Pos}{o i:Value}:subscripted (.Slice lo hi st p) false o i=operate (match st with|none=>[i,o]|some _=>[o,i]) (getItem o i):=by cases st <;> rfl
theorem EN {lo hi st:Option Expr}{p pos:Pos}{a:D}{l h' t:Option D}(ha:bw G A value env own O ρ a)(h1:mA G A lo env own O ρ l)(h2:mA G A hi env own O ρ h')(h3:mA G A st env own O ρ t)(h:fX a l h' t=some d) :
  bw G A (.Subscript value (.Slice lo hi st p) pos) env own O ρ d:=fun s I Q E q=>by
 refine Subscript_ (ha s I _ _ fun v s1 x1 r1=>wpAny_Slice (h1 s1 (I.ext x1) _ _ fun u2 s2 x2 r2=>h2 s2 (I.ext (x1.trans x2)) _ _ fun u3 s3 x3 r3=>h3 s3 (I.ext ((x1.trans x2).trans x3)) _ _ fun u4 s4 x4 r4=>?_));have hk:∀b o,s4.heap.get? b=some o->(s4.heap.push { cls:=.type "slice",data:=.fields #[u2,u3,u4] }).get? b=some o:=fun b o e=>fO _ e;have x5:=((x1.trans x2).trans x3).trans x4;have B5:=x5.base.all hk;have p2:=iy (od:=l) (iy (od:=l) r2 (x3.trans x4).keep) (.of hk);have p3:=iy (od:=h') (iy (od:=h') r3 x4.keep) (.of hk);have p4:=iy (od:=t) r4 (.of hk);refine tV (lo:=value) (hi:=value) (st:=value) (s:={ s4 with heap:=s4.heap.push { cls:=.type "slice",data:=.fields #[u2,u3,u4] } }) B5 x5.pos ((I.ext x5).ov.keep (.of hk)) (((r1.keep ((x2.trans x3).trans x4).keep)).keep (.of hk)) (vl:=u2) (vh:=u3) (vs:=u4) ?_
  (by cases l <;> exact p2) (by cases h' <;> exact p3) (by cases t <;> exact p4) h lW _ _ fun z s6 x6 r6=>q z s6 (x5.trans (Ext.trans (.all x5.base hk x5.pos) x6)) r6
 exact⟨_,ie _ rfl,rfl,rfl⟩
end
end
section
structure kq (G:GC)(A:Around)(cal:Nat->List D->Option D):Prop where
 go:∀f x ds d,G.names[f]?=some x->cal f ds=some d->∃a o fd,G.mg x=some (.ref a)/\G.h₀.get? a=some o/\o.data=.func fd /\
  ∀O s vs,aX G s.heap->0<s.toks->dB O s.heap->ai G.w O s.heap vs ds->dW G A O (call (.ref a) vs) s d
def g8 (G:GC)(gl:Nat->Option D):Prop:=∀n x d,G.names[n]?=some x->gl n=some d->∃v,G.mg x=some v/\∀O h,av G.w O h v d
noncomputable def Bf.nm:Bf->Str
 |.len => "len" |.sum => "sum" |.max => "max" |.min => "min" |.int => "int" |.chr => "chr" |.divmod => "divmod" |.sorted => "sorted"
theorem Bf.boot (f:Bf):bootBuiltins f.nm=some f.val:=by cases f <;> decide +kernel
theorem Bf.mem (f:Bf):f.nm∈cC:=by cases f <;> decide +kernel
theorem iE (h:x∈cC):x ≠ "__name__":=fun e=>by subst e;revert h;decide +kernel
theorem iD (h:x∈cC):(x==("__debug__" : Str))=false:=by
 cases e:x==("__debug__" : Str)with
 |false=>rfl
 |true=>rw[eC e]at h;revert h;decide +kernel
def ct (xs:dU):Bool:=xs.all bk
theorem cT (h:ct xs=true)(pos:Pos)(env:Env):(backTo pos (starEach xs env)).any (·.1)=false:=by
 induction xs with
 |nil=>rfl
 |cons x r ih =>
  obtain⟨h1,h2⟩:=bH (show(bk x&&ct r)=true from h);rw[cr h1];show(false || (backTo pos (starEach r env)).any (·.1))=false;rw[ih h2];rfl
theorem AN (h:ct xs=true)(pos:Pos)(env:Env):(backTo pos (starEach xs env)).all (fun x=>!x.1)=true:=by
 induction xs with
 |nil=>rfl
 |cons x r ih =>
  obtain⟨h1,h2⟩:=bH (show(bk x&&ct r)=true from h);rw[cr h1];show(true&&(backTo pos (starEach r env)).all (fun x=>!x.1))=true;rw[ih h2];rfl
theorem bc {E:bg}{s:Shared}{f:Value}{xs:dU}{pos:Pos}{env:Env}{Q:Args->Shared->Prop}(hst:ct xs=true)
  (h:wpAny M A (spliced (backTo pos (starEach xs env))) (fun vs s'=>Q ⟨vs,[]⟩ s') E s):wpAny M A (evalArgs f true (backTo pos (starEach xs env)) []) Q E s:=by
 cases xs with
 |nil =>
  show wpAny M A (spliced [] >>= _) Q E s;refine aN (wpAny_mono h (fun vs s' h'=>?_) fun _ _ x=>x);refine aN (bB (wpAny_holding ?_));exact aN (bB (aN (bB (bB h'))))
 |cons x r =>
  obtain⟨h1,h2⟩:=bH (show(bk x&&ct r)=true from hst);rw[cr h1]at h ⊢;exact evalArgs_plain h
section
variable {G:GC}{A:Around}{env:Env}{own:dK}{O:a9}{ρ:aB}{d:D}
theorem Bs (F:kq G A cal)(hn:G.names[f]?=some x)(hk:env.kindOf x=some .globalImplicit)(hd:(x==("__debug__" : Str))=false)
  (hst:ct args=true)(ha:kZ G A args env own O ρ ds)(h:cal f ds=some d):bw G A (.Call (.Name x np) args [] pos) env own O ρ d:=fun s I Q E q=>by
 obtain⟨a,o,fd,h1,h2,h3,h4⟩:=F.go f x ds d hn h;refine wpAny_Call_Name_kw (im I hk hd h1 ?_);refine callWith_function_kw (o:=o) (fd:=fd) (bc hst (ha s pos I _ _ fun vs s1 x1 r1=>⟨⟨x1.base.keep _ _ h2,h3⟩, ?_⟩));exact h4 O s1 vs x1.base x1.pos (I.ext x1).ov r1 _ _ fun v s2 x2 r2=>q v s2 (x1.trans x2) r2
theorem Hx (hh:A.handled=none)(hk:env.kindOf f.nm=some .globalImplicit)
  (hst:ct args=true)(ha:kZ G A args env own O ρ ds)(h:pj f ds=some d):bw G A (.Call (.Name f.nm np) args [] pos) env own O ρ d:=fun s I Q E q=>by
 refine wpAny_Call_Name_kw (d8 I hk (iD f.mem) (I.ok.nb _ f.mem) f.boot (iE f.mem) ?_);have key:∀v,f.val=v->wpAny (br G) A (evalArgs v true (backTo pos (starEach args env)) []) (fun a s₁=>wpAny (br G) A (call v ([]++a.pos) a.kw) Q E s₁) E s:=by
  rintro v rfl
  refine bc hst (ha s pos I _ _ fun vs s1 x1 r1=>?_);exact BA x1.base x1.pos (I.ext x1).ov hh r1 h _ _ fun v s2 x2 r2=>q v s2 (x1.trans x2) r2
 cases f
 case int=>exact PyProof.Rows.callWith_type (cT hst pos env) (key _ rfl)
 all_goals exact Calls.callWith_builtin (cT hst pos env) (key _ rfl)
def gT (e:Expr):Bool:=!(tF e fun f as ks _=>bD f fun _ _=>bK as (bK ks true))
set_option tactic.hygienic true in
theorem ES (h:gT o=true)(n:Str)(env:Env)(w:Sem Value):attributeBase o n env w=w:=by
 rcases o with⟨⟩|⟨⟩
 case Call f as ks p =>
  rcases f with⟨⟩|⟨⟩
  case Name id np =>
   rcases as with⟨⟩|⟨⟩
   .rcases ks with⟨⟩|⟨⟩
    .exact absurd h nP
    .rfl
   .rfl
  all_goals rfl
 all_goals rfl
theorem iq {apos pos:Pos}{args:dU}{s:Shared}{Q E:bg}(hb:gT o=true)(hst:ct args=true)(hl:args.length<30)(hp:(apos.endLine==pos.line)=true)
  (h:wpAny (br G) A (eval o env) (fun u s1=>∀pl,wpAny (br G) A (getMethod u n pl) (fun r s2=>∃id,r=(.builtin id,[u]) /\
   wpAny (br G) A (spliced (backTo pos (starEach args env))) (fun vs s3=>wpAny (br G) A (call (.builtin id) (u::vs)) Q E s3) E s2) E s1) E s) :
  wpAny (br G) A (eval (.Call (.Attribute o n apos) args [] pos) env) Q E s:=by
 rw[arm_eval_Call,ES hb];refine aN (wpAny_mono h (fun ov s₁ h₁=>?_) fun _ _ e=>e);refine aN (wpAny_standAt ?_);have hform:methodCallForm (args.length+([]:List Keyword).length) (backTo pos (starEach args env)) (backToKw pos (keywordEach [] env))=true:=by
  show((backTo pos (starEach args env)).all (fun x=>!x.1)&&([]:List (Option Str × Sem Value)).all (fun x=>x.1.isSome)&&decide (args.length+0+0<30))=true;rw[AN hst]
  simpa using hl
 have hpos:methodCallPos true o env apos pos=pure pos:=by unfold methodCallPos;simp[hp]
 unfold methodCall;rw[hform];refine aN (wpAny_holding (wpAny_mono (h₁ _) (fun r s2 h2=>?_) fun _ _ e=>e));obtain⟨id,rfl,h2⟩:=h2;refine aN (wpAny_of_eq hpos ?_);exact Calls.callWith_builtin (cT hst pos env) (bc hst h2)
theorem Hy (hu:A.units+100<cLine)(hb:gT o=true)(hst:ct args=true)(hl:args.length<30)(hp:(apos.endLine==pos.line)=true)
  (ho:bw G A o env own O ρ a)(ha:kZ G A args env own O ρ ds)(h:ki m a ds=some d):bw G A (.Call (.Attribute o m.name apos) args [] pos) env own O ρ d:=fun s I Q E q =>
 iq hb hst hl hp (ho s I _ _ fun u s1 x1 r1 pl=>CZ hu r1 h pl _ _ fun id hc=>⟨id,rfl,ha s1 pos (I.ext x1) _ _ fun vs s3 x3 r3=>hc s3 vs x3 r3 _ _ fun v s4 x4 r4=>q v s4 ((x1.trans x3).trans x4) r4⟩)
theorem By {x y z:Str}{k1 k2:Nat}{p1 p2 apos pos:Pos}(hb:gT o=true)(hp:(apos.endLine==pos.line)=true)(hyz:(y==z)=false)
  (ho:bw G A o env own O ρ (.str x))(h1:x.length+(x.length+1)*z.length<=16777216)(h2:sok (.str (Txt.replace x y z))=true) :
  bw G A (.Call (.Attribute o "replace" apos) [.Constant (.str y) k1 p1, .Constant (.str z) k2 p2] [] pos) env own O ρ (.str (Txt.replace x y z)):=fun s I Q E q =>
 iq hb rfl (show 2<30 by decide) hp (ho s I _ _ fun u s1 x1 r1 pl=>by
  obtain⟨t,rfl⟩:=r1.str_inv;refine GM.replace ⟨_,rfl, ?_⟩;show wpAny _ _ (spliced [(false,eval (.Constant (.str y) k1 p1) env),(false,eval (.Constant (.str z) k2 p2) env)]) _ _ _;refine spliced_cons (wpAny_Constant_str (spliced_cons (wpAny_Constant_str (spliced_nil ?_))));have hp:=x1.pos;have x2:Ext G s1 { s1 with toks:=s1.toks+1+1 }:=(Ext.refl x1.base hp).tok (Nat.succ_pos _);have S:dW G A O (call (.builtin "str.replace") [.str x t, .str y s1.toks, .str z (s1.toks+1)]) { s1 with toks:=s1.toks+1+1 } (.str (Txt.replace x y z)) :=
   dW.of0 x2.base x2.pos fun Q E q=>SC.replace (Nat.ne_of_gt hp) (Nat.succ_ne_zero _) (Nat.ne_of_lt (Nat.lt_succ_self _)) hyz h1 fun t' k=>q _ _ (.str h2)
  exact S _ _ fun v s3 x3 r3=>q v s3 ((x1.trans x2).trans x3) r3)
end
end
section
section
variable {G:GC}{A:Around}{env:Env}{own:dK}{O:a9}{ρ:aB}{d:D}
noncomputable def su (o:BoolOp)(b:Bool):Bool:=(o==.And&&!b) || (o==.Or&&b)
abbrev ul (G:GC)(A:Around)(o:BoolOp)(xs:dU)(env:Env)(own:dK)(O:a9)(ρ:aB)(d:D):Prop:=∀s pos,di G A env own O ρ s->dW G A O (boolOp pos o (evalEach xs env)) s d
theorem EK (h:ul G A o xs env own O ρ d):bw G A (.BoolOp o xs pos) env own O ρ d:=fun s I Q E q=>by rw[arm_eval_BoolOp];exact h s pos I Q E q
theorem EW (h:bw G A x env own O ρ d):ul G A o [x] env own O ρ d:=fun s pos I Q E q=>h s I Q E q
theorem BE (hx:bw G A x env own O ρ a)(ht:eJ a=some b)(h1:su o b=true->a=d)(h2:su o b=false->ul G A o (y::xs) env own O ρ d) :
  ul G A o (x::y::xs) env own O ρ d:=fun s pos I Q E q=>by
 show wpAny (br G) A (boolOp pos o (eval x env::eval y env::evalEach xs env)) Q E s;refine aN (hx s I _ _ fun v s1 x1 r1=>aN (wpAny_standAt (aN (wpAny_holding (gi x1.base x1.pos r1 ht _ _ fun s2 x2=>?_)))));have fin1:a=d->Q v s2:=fun e=>q v s2 (x1.trans x2) (e▸r1.keep x2.keep);have fin2:su o b=false->wpAny (br G) A (boolOp pos o (evalEach (y::xs) env)) Q E s2:=fun e=>h2 e s2 pos (I.ext (x1.trans x2)) _ _ fun v s3 x3 r3=>q v s3 ((x1.trans x2).trans x3) r3;cases o <;> cases b <;> first|exact bB (fin1 (h1 rfl))|exact fin2 rfl
def oM (G:GC)(A:Around)(env:Env)(own:dK)(O:a9)(ρ:aB)(o:BoolOp):dU->Bool->Prop
 |[],b=>b=(o==.And)
 |x::xs,b=>∃c,mC G A x env own O ρ c/\(su o c=true->b=c)/\(su o c=false->oM G A env own O ρ o xs b)
theorem Bp:∀{xs:dU}{b:Bool},oM G A env own O ρ o xs b->∀s,di G A env own O ρ s->wK G A (allTrue o xs env) s b
 |[],b,h,s,I,Q,E,q=>by have h:b=(o==.And):=h;subst h;exact bB (q s (.refl I.base I.pos))
 |x::xs,b,⟨c,h1,h2,h3⟩,s,I,Q,E,q=>by rw[arm_allTrue_cons];refine aN (h1 s I _ _ fun s1 x1=>?_);have fin1:b=c->Q c s1:=fun e=>e▸q s1 x1;have fin2:su o c=false->wpAny (br G) A (allTrue o xs env) Q E s1:=fun e=>Bp (h3 e) s1 (I.ext x1) _ _ fun s2 x2=>q s2 (x1.trans x2);cases o <;> cases c <;> first|exact bB (fin1 (h2 rfl))|exact fin2 rfl
theorem qG {E:bg}{s:Shared}(h:Q false s):∀xs:dU,
  wpAny (br G) A (forIn xs false fun c r=>if r=true then do let ok <- isTrue c env (eval c env);pure (ForInStep.yield ok)else pure (ForInStep.yield r)) Q E s
 |[]=>bB h
 |x::xs=>by rw[List.forIn_cons];exact aN (bB (qG h xs))
theorem wm:∀{xs:dU}{b:Bool},oM G A env own O ρ .And xs b->∀s,di G A env own O ρ s ->
  wK G A (forIn xs true fun c r=>if r=true then do let ok <- isTrue c env (eval c env);pure (ForInStep.yield ok)else pure (ForInStep.yield r)) s b
 |[],b,h,s,I,Q,E,q=>by have h:b=true:=h;subst h;exact bB (q s (.refl I.base I.pos))
 |x::xs,b,⟨c,h1,h2,h3⟩,s,I,Q,E,q=>by
  rw[List.forIn_cons];refine aN ?_;rw[if_pos rfl];refine aN (h1 s I _ _ fun s1 x1=>bB ?_);cases c with
  |false=>exact qG (by have:=h2 rfl;subst this;exact q s1 x1) xs
  |true=>exact wm (h3 rfl) s1 (I.ext x1) _ _ fun s2 x2=>q s2 (x1.trans x2)
theorem IT (h:mC G A x env own O ρ b):mC G A (.UnaryOp .Not x pos) env own O ρ (!b):=fun s I Q E q=>by exact wpAny_isTrue_Not (h s I _ _ fun s1 x1=>q s1 x1)
theorem IR (h:oM G A env own O ρ o xs b):mC G A (.BoolOp o xs pos) env own O ρ b:=fun s I Q E q=>by exact wpAny_isTrue_BoolOp (Bp h s I Q E q)
theorem Ee (hc:mC G A c env own O ρ a)(hl:a=true->mC G A l env own O ρ b)(hr:a=false->mC G A r env own O ρ b):mC G A (.IfExp c l r pos) env own O ρ b:=fun s I Q E q=>by
 rw[arm_isTrue_IfExp];refine aN (hc s I _ _ fun s1 x1=>?_);cases a
 .exact hr rfl s1 (I.ext x1) _ _ fun s2 x2=>q s2 (x1.trans x2)
 .exact hl rfl s1 (I.ext x1) _ _ fun s2 x2=>q s2 (x1.trans x2)
theorem IS (hu:A.units+100<cLine)(hm:behindInMarks o r=false)(hl:bw G A l env own O ρ a)(hr:bw G A r env own O ρ b)(h:cY o a b=some d)(ht:eJ d=some c) :
  mC G A (.Compare l [o] [r] pos) env own O ρ c:=fun s I Q E q =>
 wpAny_isTrue_Compare1 (hl s I _ _ fun v s1 x1 r1=>hr s1 (I.ext x1) _ _ fun u s2 x2 r2=>mG x2.base x2.pos hu (r1.keep x2.keep) r2 h _ _ fun z s3 x3 r3=>gi x3.base x3.pos r3 ht _ _ fun s4 x4=>q s4 (((x1.trans x2).trans x3).trans x4)) hm
def zj (e:Expr):Bool:=!(ka e fun o _ _=>Dq o .Not true)&&!(e.ctorIdx==0)&&!(e.ctorIdx==5)&&!(e.ctorIdx==15)
set_option tactic.hygienic true in
theorem IU (hp:zj x=true)(h:bw G A x env own O ρ d)(ht:eJ d=some b):mC G A x env own O ρ b:=fun s I Q E q=>by
 refine wpAny_isTrue_value (h s I _ _ fun v s1 x1 r1=>gi x1.base x1.pos r1 ht _ _ fun s2 x2=>q s2 (x1.trans x2)) ?_;cases x <;> first|rfl|(exact ff hp;done)|skip
 rename_i op _ _;cases op <;> first|rfl|exact ff hp
theorem CS {xs:List D}{s:Shared}{Q:bg}{E:bg}(I:di G A env own O ρ s)(hn:G.names[n]?=some x)(hk:env.kindOf x=some k)(hkk:k=.local\/k=.cell\/k=.free)
  (hx:(x==("__classdict__" : Str))=false) (hd:(x==("__debug__" : Str))=false) (ho:n∈own.ns)(hg:ρ.get n=some (.list xs))
  (q:∀a vs,own.at' n=some a->a∈O->xs.length<=16777216->s.heap.PlainList a vs->ai G.w O s.heap vs.toList xs->Q (.ref a) s):wpAny (br G) A (eval (.Name x pos) env) Q E s:=by
 refine wpAny_Name (m8 I hn hk hkk hx hg fun v r=>?_) hd;obtain⟨a,vs,y,rfl,m,z,l,r⟩:=r.lst ho;exact q a vs y m z l r
theorem av.of_scalar (hs:tS d=true)(r:av w O h v d):av w O' h v d:=by
 rcases d with⟨⟩|⟨⟩ <;> first|exact absurd hs nP|skip
 .obtain rfl:=r.none_inv;exact .none
 .obtain rfl:=r.bool_inv;exact .bool
 .obtain⟨t,rfl⟩:=r.int_inv;exact .int
 .have:=r.sok;obtain⟨t,rfl⟩:=r.str_inv;exact .str this
theorem AO (z:xs.length<=16777216)(l:h.PlainList a vs)(r:ai w O h vs.toList xs):av w (O.filter (· != a)) h (.ref a) (.list xs):=
 .list_of z (by simp) l.isList (fun o e=>by obtain⟨n,e'⟩:=l;rw[e]at e';obtain rfl:=aC e';rfl) (r.sub fun b m=>(List.mem_filter.mp m).1)
end
end
section
section
variable {G:GC}{A:Around}{env:Env}{own:dK}{O:a9}{ρ:aB}{d:D}
structure gt (G:GC)(env:Env)(n:Nat)(x:Str):Prop where
 nm:G.names[n]?=some x
 kd:∃k,env.kindOf x=some k/\(k=.local\/k=.cell\/k=.free)
 h1:(x==("__classdict__" : Str))=false
 h2:(x==("__debug__" : Str))=false
theorem jF {xs:List D}{s:Shared}{Q:bg}{E:bg}(N:gt G env n x)(I:di G A env own O ρ s)(ho:n∈own.ns)(hg:ρ.get n=some (.list xs))
  (q:∀a vs,own.at' n=some a->a∈O->xs.length<=16777216->s.heap.PlainList a vs->ai G.w O s.heap vs.toList xs->Q (.ref a) s):wpAny (br G) A (eval (.Name x pos) env) Q E s:=by
 obtain⟨k,hk,hkk⟩:=N.kd;exact CS I N.nm hk hkk N.h1 N.h2 ho hg q
theorem Bx (N:gt G env n x)(ho:n∈own.ns)(hg:ρ.get n=some (.list xs))(hk:env.kindOf "len" = some .globalImplicit) :
  bw G A (.Call (.Name "len" np) [.Name x p2] [] pos) env own O ρ (.int xs.length):=fun s I Q E q=>by
 have hm:("len" : Str)∈cC:=Bf.len.mem;refine wpAny_Call_Name_kw (d8 I hk (iD hm) (I.ok.nb _ hm) Bf.len.boot (iE hm) ?_);refine Calls.callWith_builtin (cT (xs:=[.Name x p2]) rfl pos env) (bc rfl ?_);show wpAny _ _ (spliced [(false,eval (.Name x p2) env)]) _ _ _;refine spliced_cons (jF N I ho hg fun a vs y m z l r=>spliced_nil ?_);have e:=r.length;simp only[jR]at e;have S:dW G A O (call (.builtin "len") [.ref a]) s (.int xs.length):=dW.of0 I.base I.pos fun Q E q=>len_list l.isList (by rw[e];lia) (by rw[e];exact q _ _ .int);exact S _ _ q
theorem Bw (hs:gD slice=true)(N:gt G env n x)(ho:n∈own.ns)(hg:ρ.get n=some (.list xs))(hi:bw G A slice env own O ρ i)(h:lr (.list xs) i=some d) :
  bw G A (.Subscript (.Name x np) slice pos) env own O ρ d:=fun s I Q E q=>by
 refine Subscript_ (jF N I ho hg fun a vs y m z l r=>hi s I _ _ fun u s2 x2 r2=>?_);obtain⟨k,rfl,h⟩:=bj h;obtain⟨j,h1,h2⟩:=Option.bind_eq_some_iff.mp h;obtain⟨t,rfl⟩:=r2.int_inv;have e:=r.length;simp only[jR]at e;obtain⟨v,hv,rv⟩:=(r.keep x2.keep).get j _ h2;exact wi hs (bq l x2.keep).isList (by lia) (by rw[e];exact h1) (by simpa using hv) (q v s2 x2 rv)
theorem zM (F:kq G A cal){np yp pos:Pos}{args:dU}{xs ds:List D}(hn:G.names[f]?=some x)(hk:env.kindOf x=some .globalImplicit)(hd:(x==("__debug__" : Str))=false)
  (hst:ct args=true)(N:gt G env n y)(ho:n∈own.ns)(hg:ρ.get n=some (.list xs))(ha:kZ G A args env own O ρ ds)(h:cal f (.list xs::ds)=some d)(hsc:tS d=true) :
  bw G A (.Call (.Name x np) (.Name y yp::args) [] pos) env own O ρ d:=fun s I Q E q=>by
 obtain⟨a,o,fd,h1,h2,h3,h4⟩:=F.go f x _ d hn h;refine wpAny_Call_Name_kw (im I hk hd h1 ?_);refine callWith_function_kw (o:=o) (fd:=fd) (bc (xs:=.Name y yp::args) hst ?_);show wpAny _ _ (spliced ((false,eval (.Name y yp) env)::backTo pos (starEach args env))) _ _ _;refine spliced_cons (jF N I ho hg fun b vs y m z l r=>ha s pos I _ _ fun us s1 x1 r1=>⟨⟨x1.base.keep _ _ h2,h3⟩, ?_⟩);refine h4 (O.filter (· != b)) s1 _ x1.base x1.pos (fun c m=>(I.ext x1).ov c (List.mem_filter.mp m).1) (.cons (AO z (bq l x1.keep) (r.keep x1.keep)) (r1.sub fun c m=>(List.mem_filter.mp m).1)) _ _ fun v s2 x2 r2=>?_;exact q v s2 (x1.trans x2) (r2.of_scalar hsc)
theorem Value.isStrOf_refl (x:Str)(t:Tok):Value.isStrOf x (.str x t)=true:=by simp[Value.isStrOf]
theorem rP {K:Type}[DecidableEq K]:∀(more acc:List (K × Value)),((acc++more).map (·.1)).Nodup->merged acc more=acc++more
 |[],acc,_=>by simp[merged]
 |kv::more,acc,h=>by
  have e:stored acc kv.1 kv.2=acc++[kv]:=by
   delta stored
   rw[if_neg];intro c;obtain⟨q,hq,e⟩:=List.any_eq_true.mp c;have e:=bX e;rw[List.map_append,List.nodup_append]at h;exact h.2.2 q.1 (List.mem_map_of_mem hq) kv.1 (by simp) e
  show merged (stored acc kv.1 kv.2) more=_;rw[e,rP more (acc++[kv]) (by simpa using h)];simp
def KV (p:Str × Str)(q:Str × Value):Prop:=q.1=p.1/\∃t,q.2=.str p.2 t
inductive Hq:List (Str × Str)->List (Str × Value)->Prop
 |nil:Hq [] []
 |cons {p q ps qs}:KV p q->Hq ps qs->Hq (p::ps) (q::qs)
theorem Hq.keys (x:Hq ps qs):qs.map (·.1)=ps.map (·.1):=by
 induction x with
 |nil=>rfl
 |cons h t ih=>rw[fU,fU,h.1,ih]
theorem xN:∀{keys:List (Option Expr)}{values:dU},(keys.length=kvs.length/\values.length=kvs.length/\∀i:Nat,∀p,kvs[i]?=some p->(∃k pp,keys[i]?=some (some (.Constant (.str p.1) k pp)))/\∃k pp,values[i]?=some (.Constant (.str p.2) k pp)) ->
  ∀pos:Pos,∃pairs:List (Sem Value × Sem Value),(evalEachOpt keys env).zip ((evalEach values env).map fun v=>do let x <- v;standAt pos;pure x)=pairs.map (fun p=>(some p.1,p.2))/\pairs.length=kvs.length /\
   ∀(s:Shared)(Q:List (Value × Value)->Shared->Prop)(E:bg),(∀vs qs tk,Carries (strKind G.prog G.w) vs qs->Hq kvs qs->Q vs { s with toks:=tk })->wpAny (br G) A (evalPairs pairs) Q E s:=by
 induction kvs with
 |nil =>
  intro keys values ⟨h1,h2,_⟩ pos;cases keys <;> cases values <;> simp at h1 h2;exact⟨[],rfl,rfl,fun s Q E q=>bB (q [] [] s.toks trivial .nil)⟩
 |cons p r ih =>
  intro keys values ⟨h1,h2,h3⟩ pos;cases keys with
  |nil=>simp at h1
  |cons ke keys =>
   cases values with
   |nil=>simp at h2
   |cons va values =>
    obtain⟨⟨k,pp,e1⟩,k',pp',e2⟩:=h3 0 p rfl;simp at e1 e2;subst e1 e2;obtain⟨pairs,g1,g2,g3⟩:=ih (keys:=keys) (values:=values) ⟨by simpa using h1,by simpa using h2,fun i q hq=>by simpa using h3 (i+1) q (by simpa using hq)⟩ pos;refine⟨(eval (.Constant (.str p.1) k pp) env,do let x <- eval (.Constant (.str p.2) k' pp') env;standAt pos;pure x)::pairs, ?_,by simp[g2],fun s Q E q=>?_⟩
    .show(some (eval (.Constant (.str p.1) k pp) env),_)::((evalEachOpt keys env).zip ((evalEach values env).map fun v=>do let x <- v;standAt pos;pure x))=_;rw[g1];rfl
    .skip
     refine aN (wpAny_Constant_str (aN (wpAny_holding (aN (wpAny_Constant_str (aN (wpAny_standAt (bB ?_))))))));refine aN (wpAny_holding (g3 _ _ _ fun vs qs tk c kv=>bB ?_));refine q _ ((p.1, .str p.2 (s.toks+1))::qs) tk ⟨?_,rfl,c⟩ (.cons ⟨rfl,_,rfl⟩ kv);exact Value.isStrOf_refl p.1 s.toks
def xd (kvs:List (Str × Str)):Bool:=decide ((kvs.map (·.1)).Nodup)&&decide (0<kvs.length)&&decide (kvs.length<=15)&&sok (.dict (kvs.map fun p=>(.str p.1, .str p.2)))
theorem vU (hp:Pairs (strKind prog w) es qs):∀{ps:List (Str × Str)},Hq ps qs ->
  ReadsAll h (es.map (·.key)) (ps.map fun p=>.str p.1) []/\ReadsAll h (es.map (·.val)) (ps.map fun p=>.str p.2) []:=by
 induction hp with
 |nil=>intro ps kv;cases kv;exact⟨.nil, .nil⟩
 |cons h1 h2 h3 ih =>
  intro ps kv;cases kv with
  |cons k kv =>
   obtain⟨a,b⟩:=ih kv;obtain⟨u,hu⟩:=Value.isStrOf_shape h1;obtain⟨k1,t,k2⟩:=k;refine⟨?_, ?_⟩
   .rw[fU,fU,hu,k1];exact ReadsAll.cons (as:=[]) (.str _ _) a
   .rw[fU,fU,h2,k2];exact ReadsAll.cons (as:=[]) (.str _ _) b
theorem xM (hp:Pairs (strKind prog w) es qs):∀f∈es,∃q∈qs,Value.isStrOf q.1 f.key=true:=by
 induction hp with
 |nil=>intro f hf;cases hf
 |cons a b c ih =>
  intro f hf;rcases bM hf with rfl|hf
  .exact⟨_,dX,a⟩
  .obtain⟨q,m,y⟩:=ih f hf;exact⟨q,dP _ m,y⟩
theorem vT (hp:Pairs (strKind prog w) es qs):(qs.map (·.1)).Nodup->es.Pairwise fun e f=>∀x t u,e.key=.str x t->f.key≠.str x u:=by
 induction hp with
 |nil=>intro _;exact .nil
 |cons h1 h2 h3 ih =>
  intro hn;obtain⟨n1,n2⟩:=List.nodup_cons.mp hn;refine List.pairwise_cons.mpr ⟨fun f hf x t u ex fx=>n1 ?_,ih n2⟩;obtain⟨q,m,y⟩:=xM h3 f hf;have e1:=Value.isStrOf_inj _ _ x h1 (ex▸Value.isStrOf_refl _ _);have e2:q.1=x:=Value.isStrOf_inj f.key q.1 x y (fx▸Value.isStrOf_refl _ _);exact List.mem_map.mpr ⟨q,m,e2.trans e1.symm⟩
theorem Bt (hs:keys.length=kvs.length/\values.length=kvs.length/\∀i:Nat,∀p,kvs[i]?=some p->(∃k pp,keys[i]?=some (some (.Constant (.str p.1) k pp)))/\∃k pp,values[i]?=some (.Constant (.str p.2) k pp))
  (hd:xd kvs=true):bw G A (.Dict keys values pos) env own O ρ (.dict (kvs.map fun p=>(.str p.1, .str p.2))):=fun s I Q E q=>by
 delta xd at hd
 simp only[g9,kh]at hd;obtain⟨⟨⟨d1,d2⟩,d3⟩,d4⟩:=hd;obtain⟨pairs,g1,g2,g3⟩:=xN (G:=G) (A:=A) (env:=env) hs pos;refine wpAny_with_toks (n:=1) I.pos (wpAny_Dict_pairs (knd:=strKind G.prog G.w) g1 (fun e=>by rw[e]at g2;simp at g2;lia) (by lia) (g3 _ _ _ fun vs qs tk c kv=>⟨qs,c, ?_,fun h' hm hs'=>?_⟩))
 .exact⟨_,_,_,ie _ rfl,⟨rfl,rfl,rfl⟩,rfl,fun e he=>by simp at he, .nil,by simp⟩
 .intro p';have hn:(qs.map (·.1)).Nodup:=by rw[kv.keys];exact d1
  rw[rP qs [] (by simpa using hn),List.nil_append]at hm;obtain⟨o,es,ep,e1,e2,e3,e4,e5,e6⟩:=hm;have hk:∀b o,s.heap.get? b=some o->h'.get? b=some o:=fun b o e=>hs'.extBut b o (fun e'=>by rw[e',ax]at e;exact nn e) (fO _ e);have ex:Ext G s { s with heap:=h',toks:=tk+vs.length }:=.all I.base hk p';refine q _ _ ex ?_;obtain⟨r1,r2⟩:=vU (h:=h') e5 kv;have rd:Reads h' (.ref s.heap.objs.size) (.dict (kvs.map fun p=>(.str p.1, .str p.2))) (s.heap.objs.size::[]++[]):=by
   refine .dict e1 e2.1 e3 ?_ ?_
   .rw[fv];exact r1
   .rw[fv];exact r2
  refine⟨_,rd,fun a m=>?_,d4⟩;rcases bM m with rfl|m
  .refine⟨I.ov.new (ax _),fun o' e'=>?_⟩;rw[e1]at e';obtain rfl:=aC e';refine⟨e2.2.1,fun es' n' q'=>?_⟩;rw[e3]at q';cases q';refine⟨?_,e2,fun e he=>?_,vT e5 hn⟩
   .obtain⟨om,_,_,em,_⟩:=I.ok.g;have:mainGlobals<s.heap.objs.size:=Heap.lt_size (I.base.keep _ _ em);have h1:sysModules<mainGlobals:=by decide
    refine beq_eq_false_iff_ne.mpr fun e=>?_;have h2:sysModules<s.heap.objs.size:=Nat.lt_trans h1 this;rw[<- e]at h2;exact Nat.lt_irrefl _ h2
   .obtain⟨k,k1,k2⟩:=e4 e (Array.mem_toList_iff.mp he);obtain⟨t,ht⟩:=Value.isStrOf_shape k1;exact⟨k,t,ht,k2⟩
  .simp at m
end
end
section
section
variable {G:GC}{A:Around}{env:Env}{own:dK}{O:a9}{ρ:aB}{d:D}
theorem j5 (h:G.names.Nodup){n m:Nat}{x:Str}(h1:G.names[n]?=some x)(h2:G.names[m]?=some x):n=m:=by obtain⟨l1,e1⟩:=List.getElem?_eq_some_iff.mp h1;exact(List.getElem?_inj l1 h).mp (h1.trans h2.symm)
theorem gB (h:o.data=.dict es ep):EC o:=⟨fun xs n _ e=>(by rw[h]at e;cases e),fun vs _ e=>(by rw[h]at e;cases e)⟩
theorem lG (h:o.data=.cell v):EC o:=⟨fun xs n _ e=>(by rw[h]at e;cases e),fun vs _ e=>(by rw[h]at e;cases e)⟩
theorem ir (h:o.data=.seq vs n)(hc:o.cls=.type "list"):EC o:=⟨fun xs n e _=>(by rw[hc]at e;exact absurd (Value.type.inj e) (by decide)),fun vs _ e=>(by rw[h]at e;cases e)⟩
theorem Ih (h:ni o):EC o:=by obtain⟨⟨vs,h1⟩,h2,h3,_⟩:=h;exact⟨fun xs n _ e=>(by rw[h1]at e;cases e),fun vs e _=>e.elim h2 h3⟩
theorem aR (hs:Heap.SameBut a h h'):∀b o,b∉[a]->h.get? b=some o->h'.get? b=some o:=fun b o m e=>hs.extBut b o (fun q=>m (by simp[q])) e
theorem dN (k:∀b o,b∉W->h.get? b=some o->h'.get? b=some o):aI W h h':=fun b o m e _=>k b o m e
theorem dB.but (x:dB O h)(k:aI W h h')(n:∀a∈W,∃o,h'.get? a=some o/\gu o):dB O h':=fun a m=>by
 by_cases c:a∈W
 .exact n a c
 .obtain⟨o,e,q⟩:=x a m;exact⟨o,k a o c e q,q⟩
theorem gJ {k:NameKind}{v:Value}{s:Shared}{W:a9}(I:di G A env own O ρ s)(nm:G.names[n]?=some x)(hk:env.kindOf x=some k)(hkk:k=.local\/k=.cell)(r:cG G.w own n O s.heap v d)
  (hW:env.locals∈W/\(env.kindOf x=some .cell->∀c,env.cells.lookup x=some c->c∈W)){Q:Unit->Shared->Prop}{E:bg}(q:∀s',bl G W s s'->(∀vs ds,ai G.w O s.heap vs ds->ai G.w O s'.heap vs ds)->di G A env own O (ρ.set n d) s'->Q () s'):wpAny (br G) A₂ (storeName env x v) Q E s:=by
 obtain⟨m,hm,hmv⟩:=I.envr.ns;have hi:∀{n' y},G.names[n']?=some y->y=x->n'=n:=fun h e=>j5 I.ok.nd (e▸h) nm;have plain_ne:∀{a b vs},s.heap.PlainList a vs->(∃o,s.heap.get? b=some o/\∀vs n,o.data≠.seq vs n)->a∉[b]:=by
  intro a b vs ⟨n,e⟩ ⟨o,e',h⟩ m;rcases aV m with rfl
  rw[e]at e';obtain rfl:=aC e';exact h _ _ rfl
 rcases hkk with rfl|rfl
 .refine wpAny_storeName_local hk hm (fun h' hn' hs'=>?_) (by rw[I.envr.fn];rfl);obtain⟨ol,es,ep,e1,e2,_⟩:=id hm;have ht:bG O [env.locals] s.heap:=fun a ma o e=>by
   rcases aV ma with rfl
   rw[e1]at e;obtain rfl:=aC e;exact⟨gB e2,fun _=>I.envr.lin⟩
  have hkb:aI [env.locals] s.heap h':=dN (aR hs');have B:aX G h':=I.base.but (aR hs') (fun a ma=>by rcases aV ma with rfl;exact I.envr.lfr) fun a ma o e=>(ht a ma o e).1;have ov:dB O h':=I.ov.but hkb fun a ma=>by
   rcases aV ma with rfl
   obtain⟨o,es,ep,e1,e2,_⟩:=hn';exact⟨o,e1, .inr fun vs q=>by rw[e2]at q;cases q⟩
  have hp:∀n a vs,own.at' n=some a->s.heap.PlainList a vs->a∉[env.locals]:=fun n a vs _ l=>plain_ne l ⟨ol,e1,fun vs n q=>by rw[e2]at q;cases q⟩;have cells_ne:∀{c v},s.heap.IsCell c v->c∉[env.locals]:=fun{c v} ⟨o,e,dd⟩ m=>by
   rcases aV m with rfl
   rw[e1]at e;obtain rfl:=aC e;rw[e2]at dd;cases dd
  refine q _ ⟨⟨rfl,rfl⟩,hkb.mono fun a ma=>?_,B,Nat.succ_pos _,fun b mb e=>bA (fun o q=>aR hs' b o (fun mm=>by rcases aV mm with rfl;exact mb hW.1) q) e⟩ (fun vs ds r=>r.but hkb ht) ⟨I.ok,I.hh,B,Nat.succ_pos _,ov,⟨I.envr.fn,I.envr.gl,I.envr.bi,I.envr.lin,I.envr.lfr,I.envr.oin,I.envr.cin,I.envr.inj, ?_,⟨_,hn', ?_⟩, ?_⟩⟩
  .rcases aV ma with rfl;exact hW.1
  .intro y hy;obtain⟨c,v',e,qc⟩:=I.envr.ce y hy;exact⟨c,v',e,hkb.cell (cells_ne qc) qc⟩
  .intro n' y d' h1 h2 h3;rw[aB.get_set]at h3;by_cases hy:y=x
   .have:=hi h1 hy;subst this;rw[if_pos rfl]at h3;obtain rfl:=aC h3;exact⟨v,by simp[hy],r.but hkb ht (hp _)⟩
   .rw[if_neg (fun e=>hy (by rw[e,nm]at h1;exact(aC h1).symm))]at h3;obtain⟨v',e,r'⟩:=hmv n' y d' h1 h2 h3;exact⟨v',by simp[hy,e],r'.but hkb ht (hp _)⟩
  .intro n' y d' h1 h2 h3;have hy:y≠x:=fun e=>by rw[e,hk]at h2;rcases h2 with h2|h2 <;> cases h2
   rw[aB.get_set,if_neg (fun e=>hy (by rw[e,nm]at h1;exact(aC h1).symm))]at h3;obtain⟨c,v',e,qc,r'⟩:=I.envr.cl n' y d' h1 h2 h3;exact⟨c,v',e,hkb.cell (cells_ne qc) qc,r'.but hkb ht (hp _)⟩
 .obtain⟨c,v0,hc,hq⟩:=I.envr.ce x (.inl hk);refine wpAny_storeName_cell I.envr.fn hk hc hq fun h' hn' hs'=>?_;obtain⟨oc,e1,e2⟩:=id hq;have ht:bG O [c] s.heap:=fun a ma o e=>by
   rcases aV ma with rfl
   rw[e1]at e;obtain rfl:=aC e;exact⟨lG e2,fun _=>(I.envr.cin _ _ hc).1⟩
  have hkb:aI [c] s.heap h':=dN (aR hs');have B:aX G h':=I.base.but (aR hs') (fun a ma=>by rcases aV ma with rfl;exact(I.envr.cin _ _ hc).2) fun a ma o e=>(ht a ma o e).1;have ov:dB O h':=I.ov.but hkb fun a ma=>by
   rcases aV ma with rfl
   obtain⟨o,e1,e2⟩:=hn';exact⟨o,e1, .inr fun vs q=>by rw[e2]at q;cases q⟩
  have hp:∀n a vs,own.at' n=some a->s.heap.PlainList a vs->a∉[c]:=fun n a vs _ l=>plain_ne l ⟨oc,e1,fun vs n q=>by rw[e2]at q;cases q⟩;have loc_ne:env.locals∉[c]:=fun ma=>by
   rcases aV ma with e
   obtain⟨o,es,ep,e3,e4,_⟩:=hm;rw[e,e1]at e3;obtain rfl:=aC e3;rw[e2]at e4;cases e4
  refine q _ ⟨⟨rfl,rfl⟩,hkb.mono fun a ma=>?_,B,I.pos,fun b mb e=>bA (fun o q=>aR hs' b o (fun mm=>by rcases aV mm with rfl;exact mb (hW.2 hk _ hc)) q) e⟩ (fun vs ds r=>r.but hkb ht) ⟨I.ok,I.hh,B,I.pos,ov,⟨I.envr.fn,I.envr.gl,I.envr.bi,I.envr.lin,I.envr.lfr,I.envr.oin,I.envr.cin,I.envr.inj, ?_,⟨m,hkb.ns loc_ne hm, ?_⟩, ?_⟩⟩
  .rcases aV ma with rfl;exact hW.2 hk _ hc
  .intro y hy;obtain⟨c',v',e,qc⟩:=I.envr.ce y hy;by_cases hcc:c'=c
   .subst hcc;exact⟨_,_,e,hn'⟩
   .exact⟨c',v',e,hkb.cell (by simpa using hcc) qc⟩
  .intro n' y d' h1 h2 h3;have hy:y≠x:=fun e=>by rw[e,hk]at h2;cases h2
   rw[aB.get_set,if_neg (fun e=>hy (by rw[e,nm]at h1;exact(aC h1).symm))]at h3;obtain⟨v',e,r'⟩:=hmv n' y d' h1 h2 h3;exact⟨v',e,r'.but hkb ht (hp _)⟩
  .intro n' y d' h1 h2 h3;rw[aB.get_set]at h3;by_cases hy:y=x
   .have:=hi h1 hy;subst this;rw[if_pos rfl]at h3;obtain rfl:=aC h3;exact⟨c,v,hy▸hc,hn',r.but hkb ht (hp _)⟩
   .rw[if_neg (fun e=>hy (by rw[e,nm]at h1;exact(aC h1).symm))]at h3;obtain⟨c',v',e,qc,r'⟩:=I.envr.cl n' y d' h1 h2 h3;have hcc:c'∉[c]:=fun ma=>by
     rcases aV ma with rfl
     exact hy (I.envr.inj _ _ _ e hc)
    exact⟨c',v',e,hkb.cell hcc qc,r'.but hkb ht (hp _)⟩
inductive oL (G:GC)(env:Env)(own:dK):dU->aH->Prop
 |nil:oL G env own [] []
 |cons {x pos n k es ns}:G.names[n]?=some x->env.kindOf x=some k->(k=.local\/k=.cell)->n∉own.ns->oL G env own es ns->oL G env own (.Name x pos::es) (n::ns)
def Hu (env:Env)(G:GC)(W:a9)(ns:aH):Prop:=env.locals∈W/\∀n∈ns,∀x c,G.names[n]?=some x->env.kindOf x=some .cell->env.cells.lookup x=some c->c∈W
theorem iV (hn:n∉own.ns)(r:av w O h v d):cG w own n O h v d:=by unfold cG;rw[if_neg hn];exact r
theorem nj (I:di G A env own O ρ s)(nm:G.names[n]?=some x)(hk:env.kindOf x=some k)(hkk:k=.local\/k=.cell)(hno:n∉own.ns)(r:av G.w O s.heap v d)
  (hW:Hu env G W [n]){Q:Unit->Shared->Prop}{E:bg}(q:∀s',bl G W s s'->(∀vs ds,ai G.w O s.heap vs ds->ai G.w O s'.heap vs ds)->di G A env own O (ρ.set n d) s'->Q () s'):wpAny (br G) A (assign (.Name x pos) env v) Q E s :=
 wpAny_assign_Name (gJ I nm hk hkk (iV hno r) ⟨hW.1,fun hk c hc=>hW.2 n (by simp) x c nm hk hc⟩ q)
theorem wQ:∀{es:dU}{ns:aH},oL G env own es ns->∀{ρ:aB}{vs:eU}{ds:List D}{s:Shared},di G A env own O ρ s->ai G.w O s.heap vs ds->ds.length=ns.length->Hu env G W ns ->
  ∀{Q:Unit->Shared->Prop}{E:bg},(∀s',bl G W s s'->(∀vs ds,ai G.w O s.heap vs ds->ai G.w O s'.heap vs ds)->di G A env own O (bx ρ ns ds) s'->Q () s') ->
  wpAny (br G) A (assignInOrder ((assignEach es env).map (·.2)) vs) Q E s:=by
 intro es ns h
 induction h with
 |nil =>
  intro ρ vs ds s I r hl hW Q E q;obtain rfl:ds=[]:=List.length_eq_zero_iff.mp hl;exact assignInOrder_nil (q s (.refl I.base I.pos) (fun _ _ r=>r) I)
 |cons h1 h2 h3 h4 h5 ih =>
  intro ρ vs ds s I r hl hW Q E q;cases ds with
  |nil=>simp at hl
  |cons d ds =>
   obtain⟨v,vs,rfl,r1,r2⟩:=r.cons_inv;refine assignInOrder_cons (nj (W:=W) I h1 h2 h3 h4 r1 ⟨hW.1,fun m hm=>hW.2 m (by rcases aV hm with rfl;simp)⟩ fun s1 x1 k1 I1=>?_);exact ih I1 (k1 _ _ r2) (by simpa using hl) ⟨hW.1,fun m hm=>hW.2 m (dP _ hm)⟩ fun s2 x2 k2 I2=>q s2 (x1.trans x2) (fun vs ds r=>k2 _ _ (k1 _ _ r)) I2
inductive cQ (G:GC)(env:Env)(own:dK):Expr->aH->Prop
 |name {x pos n}:oL G env own [.Name x pos] [n]->cQ G env own (.Name x pos) [n]
 |tup {es k pos ns}:oL G env own es ns->2<=ns.length->cQ G env own (.Tuple es k pos) ns
set_option tactic.hygienic true in
theorem Ec (h:oL G env own es ns):(assignEach es env).length=ns.length/\(assignEach es env).findIdx? (·.1)=none:=by
 induction h with
 |nil=>exact⟨rfl,rfl⟩
 |cons h1 h2 h3 h4 h5 ih =>
  rename_i x pos n k es ns;have e:assignEach (.Name x pos::es) env=(false,assign (.Name x pos) env)::assignEach es env:=rfl;rw[e];refine⟨by simp[ih.1], ?_⟩;rw[List.findIdx?_cons,ih.2];rfl
set_option tactic.hygienic true in
theorem ft (h:cQ G env own tg ns)(I:di G A env own O ρ s)(r:av G.w O s.heap v d)(hb:bE ρ ns d=some ρ')(hW:Hu env G W ns)
  {Q:Unit->Shared->Prop}{E:bg}(q:∀s',bl G W s s'->(∀vs ds,ai G.w O s.heap vs ds->ai G.w O s'.heap vs ds)->di G A env own O ρ' s'->Q () s'):wpAny (br G) A (assign tg env v) Q E s:=by
 cases h with
 |name h =>
  cases h with
  |cons h1 h2 h3 h4 h5 => 
   have hb:some (aB.set ρ _ d)=some ρ':=hb;obtain rfl:=aC hb;exact nj I h1 h2 h3 h4 r hW q
 |tup h h2 =>
  rename_i es k pos;have key:∃xs,d=.tuple xs/\xs.length=ns.length/\ρ'=bx ρ ns xs:=by
   rcases rg hb with⟨n,_,_⟩|⟨_,xs,_,hl,e⟩
   .simp at h2
   .exact⟨xs,rfl,hl,e⟩
  obtain⟨xs,rfl,hl,rfl⟩:=key;obtain⟨a,vs,rfl,lt,rr⟩:=r.tuple_inv;have e:=rr.length;simp only[jR]at e;refine wpAny_assign_Tuple I.hh lt ((Ec h).1.trans (hl.symm.trans e.symm)) (Ec h).2 fun h' hk=>?_;have hk':∀b o,s.heap.get? b=some o->h'.get? b=some o:=fun b o e=>hk b o (fun q=>by rw[q,ax]at e;exact nn e) e;have x0:Ext G s { s with heap:=h' }:=.all (t:=s.toks) I.base hk' I.pos;refine wQ h (I.ext x0) (rr.keep x0.keep) hl hW fun s1 x1 k1 I1=>q s1 (x0.sext.trans x1) (fun vs ds r=>k1 _ _ (r.keep x0.keep)) I1
end
end
section
theorem iF (f:Str × NameKind->List (Str × Addr)->Sem (ForInStep (List (Str × Addr))))
  (hf:∀name kind cells,f (name,kind) cells=if kind==.free then(do let a <- cellOf env name;pure (.yield ((name,a)::cells)))else pure (.yield cells)) :
  ∀(names:List (Str × NameKind))(acc:List (Str × Addr)),(∀p∈names,p.2=.free->∃c,env.cells.lookup p.1=some c) ->
   ∃cl,forIn names acc f=pure cl/\(∀p∈cl,p∈acc\/(env.cells.lookup p.1=some p.2/\(p.1, .free)∈names))/\(∀p∈acc,p∈cl)/\∀p∈names,p.2=.free->∃c,(p.1,c)∈cl
 |[],acc,_=>⟨acc,by rw[List.forIn_nil],fun p m=>.inl m,fun p m=>m,by simp⟩
 |(name,kind)::r,acc,h=>by
  rw[List.forIn_cons,hf];by_cases hk:kind=.free
  .subst hk;obtain⟨c,hc⟩:=h (name, .free) dX rfl;have e:cellOf env name=pure c:=by unfold cellOf;rw[hc]
   obtain⟨cl,e1,e2,e3,e4⟩:=iF f hf r ((name,c)::acc) fun p m=>h p (dP _ m);refine⟨cl, ?_,fun p m=>?_,fun p m=>e3 p (dP _ m),fun p m hp=>?_⟩
   .simp -iota only[beq_self_eq_true,if_true,e,pure_bind];exact e1
   .rcases e2 p m with m|m
    .rcases bM m with rfl|m
     .exact .inr ⟨hc,dX⟩
     .exact .inl m
    .exact .inr ⟨m.1,dP _ m.2⟩
   .rcases bM m with rfl|m
    .exact⟨c,e3 _ dX⟩
    .exact e4 p m hp
  .obtain⟨cl,e1,e2,e3,e4⟩:=iF f hf r acc fun p m=>h p (dP _ m);refine⟨cl, ?_,fun p m=>(e2 p m).imp id fun q=>⟨q.1,dP _ q.2⟩,e3,fun p m hp=>?_⟩
   .have:(kind==NameKind.free)=false:=by simpa using hk
    simp -iota only[this,Bool.false_eq_true,if_false,pure_bind];exact e1
   .rcases bM m with rfl|m
    .exact absurd hp hk
    .exact e4 p m hp
theorem w8 (h:∀p∈scope.names,p.2=.free->∃c,env.cells.lookup p.1=some c) :
  ∃cl,closureFor scope env=pure cl/\(∀p∈cl,env.cells.lookup p.1=some p.2/\(p.1, .free)∈scope.names)/\∀p∈scope.names,p.2=.free->∃c,(p.1,c)∈cl:=by
 obtain⟨cl,e1,e2,e3,e4⟩:=iF (env:=env) (fun x cells=>if x.2==.free then(do let a <- cellOf env x.1;pure (.yield ((x.1,a)::cells)))else pure (.yield cells)) (fun _ _ _=>rfl) scope.names [] h;refine⟨cl, ?_,fun p m=>by rcases e2 p m with m|m;cases m;exact m,e4⟩;unfold closureFor;rw[<- bind_pure (forIn scope.names [] _)]at e1;rw[<- e1]
theorem cm:∀(names:List (Str × NameKind))(n:Nat) (acc:List (Str × Addr)),cellsFrom n names acc=cellsFrom n names []++acc
 |[],n,acc=>rfl
 |(name,kind)::r,n,acc=>by
  unfold cellsFrom;split
  .rw[cm r (n+1) ((name,n)::acc),cm r (n+1) [(name,n)]];simp
  .exact cm r n acc
set_option tactic.hygienic true in
theorem dm:∀(names:List (Str × NameKind))(n:Nat) (x:Str)(c:Addr),(x,c)∈cellsFrom n names []->(x, .cell)∈names/\n<=c
 |[],n,x,c,m=>by cases m
 |(name,kind)::r,n,x,c,m=>by
  unfold cellsFrom at m;split at m
  .rename_i hk;rw[cm]at m;rcases dx m with m|m
   .obtain⟨a,b⟩:=dm r (n+1) x c m;exact⟨dP _ a,Nat.le_of_succ_le b⟩
   .rcases aV m with e
    cases e;exact⟨by rw[eC hk];exact dX,gC _⟩
  .obtain⟨a,b⟩:=dm r n x c m;exact⟨dP _ a,b⟩
set_option tactic.hygienic true in
theorem cb:∀(names:List (Str × NameKind))(n:Nat) (x:Str),(x, .cell)∈names->∃c,(x,c)∈cellsFrom n names []
 |[],n,x,m=>by cases m
 |(name,kind)::r,n,x,m=>by
  unfold cellsFrom;split
  .rename_i hk;rw[cm];rcases bM m with e|m
   .cases e;exact⟨n,kK _ (by simp)⟩
   .obtain⟨c,hc⟩:=cb r (n+1) x m;exact⟨c,mv _ hc⟩
  .rename_i hk;rcases bM m with e|m
   .cases e;exact absurd (by rfl:(NameKind.cell==NameKind.cell)=true) hk
   .exact cb r n x m
theorem cg:∀{l:List (Str × α)}{n:Str}{c:α},(n,c)∈l->∃c',l.lookup n=some c'
 |(k,v)::r,n,c,h=>by
  rw[List.lookup_cons];cases hb:n==k with
  |true=>exact⟨_,rfl⟩
  |false =>
   rcases bM h with e|h
   .cases e;simp at hb
   .exact cg h
theorem uI {E:bg}{s:Shared}{scope:Scope}{globals:Addr}{cl:List (Str × Addr)}{qual:Str}{outer:Env}{Q:Env->Shared->Prop}
  (q:Q { scope:=scope,locals:=s.heap.objs.size,globals:=globals,cells:=cellsFrom (s.heap.objs.size+1) scope.names cl,qual:=qual,func:=none,code:=outer.code,frame:=outer.frame,builtins:=outer.builtins }
   { s with heap:=pushCells (s.heap.push { cls:=.type "dict",data:=.dict #[] }) scope.names }) :
  wpAny M A (newFunctionEnv scope globals cl [] qual none .none (some outer)) Q E s:=by
 simp only[newFunctionEnv,Option.isSome_some,if_true];refine aN (wpAny_alloc ?_);refine aN (wpAny_layCells _ (fun name kind cells=>by cases hkc:kind==NameKind.cell <;> simp[hkc]) _ _ _ _ ?_);rw[show({ s with heap:=s.heap.push { cls:=.type "dict",data:=.dict #[] } }:Shared).heap.objs.size=s.heap.objs.size+1 from Heap.size_push ..];exact aN (bB (bB q))
noncomputable def ko (names sc:List (Str × NameKind)):List (Str × NameKind):=names.map fun p=>if p.2==.free&&sc.lookup p.1==some .cell then(p.1, .cell)else p
theorem fA (h:env.scope.kind=.function):(relabel scope env).names=ko scope.names env.scope.names:=by unfold relabel ko;dsimp only;refine List.map_congr_left fun p _=>?_;obtain⟨n,k⟩:=p;dsimp only;rw[h];simp[Env.kindOf]
theorem gX (sc:List (Str × NameKind))(x:Str):∀names:List (Str × NameKind),(ko names sc).lookup x=(names.lookup x).map fun k=>if k==.free&&sc.lookup x==some .cell then .cell else k
 |[]=>rfl
 |(n,k)::r=>by
  show List.lookup x ((if k==.free&&sc.lookup n==some .cell then(n,NameKind.cell)else(n,k))::ko r sc)=_;have ih:=gX sc x r;by_cases c:x=n
  .subst c;by_cases c2:(k==.free&&sc.lookup x==some .cell)=true
   .rw[if_pos c2,List.lookup_cons_self,List.lookup_cons_self];show _=some (if _ then _ else _);rw[if_pos c2]
   .rw[if_neg c2,List.lookup_cons_self,List.lookup_cons_self];show _=some (if _ then _ else _);rw[if_neg c2]
  .have hb:(x==n)=false:=by simpa using c
   by_cases c2:(k==.free&&sc.lookup n==some .cell)=true
   .rw[if_pos c2];simp[List.lookup_cons,hb,ih]
   .rw[if_neg c2];simp[List.lookup_cons,hb,ih]
noncomputable def H7 (nm:List Str)(T:aH)(x:Str):Bool:=T.any fun n=>nm[n]?==some x
def eS (nm:List Str)(sc names:List (Str × NameKind))(T:aH)(p:Str × NameKind):Bool:=match p.2 with
 |.free=>sc.lookup p.1==some .cell || sc.lookup p.1==some .free
 |.local=>names.lookup p.1==some .local&&(p.1==(".0" : Str) || H7 nm T p.1)
 |.cell=>names.lookup p.1==some .cell&&H7 nm T p.1
 |_=>true
def fB (nm:List Str)(sc names:List (Str × NameKind))(T:aH):Bool:=names.all (eS nm sc names T)&&!nm.contains (".0" : Str)
theorem aB.get_del (ρ:aB)(T:aH)(n:Nat):(aB.del ρ T).get n=if T.contains n then none else ρ.get n:=by
 induction ρ with
 |nil=>simp[aB.del,aB.get]
 |cons p r ih =>
  unfold aB.del at *;rw[List.filter_cons];by_cases c:T.contains p.1=true
  .simp only[c,Bool.not_true,Bool.false_eq_true,if_false];rw[ih,aB.get_cons];by_cases e:n=p.1
   .subst e;simp only[c,if_true]
   .simp[e]
  .have c':T.contains p.1=false:=by simpa using c
   simp only[c',Bool.not_false,if_true];rw[aB.get_cons,ih,aB.get_cons];by_cases e:n=p.1
   .subst e;simp only[c',if_true];simp
   .simp[e]
section
variable {G:GC}{A:Around}{env:Env}{own:dK}{O:a9}{ρ:aB}{d:D}
theorem av.news:∀{N:a9},av w O h v d->(∀a∈N,h.get? a=Option.none)->av w (N++O) h v d
 |[],r,_=>r
 |a::N,r,k=>(r.news (N:=N) fun b m=>k b (dP _ m)).new (k a dX)
theorem ai.news:∀{N:a9},ai w O h vs ds->(∀a∈N,h.get? a=Option.none)->ai w (N++O) h vs ds
 |[],r,_=>r
 |a::N,r,k=>(r.news (N:=N) fun b m=>k b (dP _ m)).new (k a dX)
set_option tactic.hygienic true in
theorem cG.news (r:cG w own n O h v d)(k:∀a∈N,h.get? a=none):cG w own n (N++O) h v d:=by
 unfold cG at *;split at r
 .rename_i q;rw[if_pos q];obtain⟨a,vs,xs,y,e,m,q,z,l,r⟩:=r;exact⟨a,vs,xs,y,e,kK _ m,q,z,l,r.news k⟩
 .rename_i q;rw[if_neg q];exact r.news k
theorem fJ {h:Heap}(q:h.objs.size<=a):h.get? a=none:=by
 cases e:h.get? a with
 |none=>rfl
 |some o=>exact absurd (Heap.lt_size e) (Nat.not_lt.mpr q)
theorem zT {scope:Scope}{D:Addr}{h3 h4:Heap}{cenv:Env}(I:di G A env own O ρ s)(hs:fB G.names env.scope.names scope.names T=true)(hk:scope.kind=.function)
  (cl1:∀p∈cl,env.cells.lookup p.1=some p.2/\(p.1, .free)∈scope.names)(cl2:∀p∈scope.names,p.2=.free->∃c,(p.1,c)∈cl)
  (hD:s.heap.get? D=none)(k3:∀b o,s.heap.get? b=some o->h3.get? b=some o)(hD3:D<h3.objs.size)(hle:s.heap.objs.size<=h3.objs.size)(e4:h4=pushCells (h3.push { cls:=.type "dict",data:=.dict #[] }) scope.names)
  (hc:cenv.scope=relabel scope env/\cenv.locals=h3.objs.size/\cenv.globals=env.globals/\cenv.cells=cellsFrom (h3.objs.size+1) scope.names cl/\cenv.builtins=env.builtins) :
  ∃N:a9,(∀a∈N,h3.objs.size<=a)/\h3.objs.size∈N /\
   (∀x c,(x, .cell)∈scope.names->cenv.cells.lookup x=some c->c∈N) /\ 
   fM G cenv own (N++D::O) (ρ.del T) h4/\h4.Ns h3.objs.size (fun _=>none)/\(∀x c,cenv.cells.lookup x=some c->c≠D)/\(∀a∈N,∃o,h4.get? a=some o/\gu o):=by
 obtain⟨c1,c2,c3,c4,c5⟩:=hc;have k4:∀b o,h3.get? b=some o->h4.get? b=some o:=fun b o e=>by rw[e4];exact pushCells_keeps _ _ _ _ (fO _ e)
 have ok:=cellsFrom_ok scope.names (h3.push { cls:=.type "dict",data:=.dict #[] }) (h3.objs.size+1) [] ⟨fun _ _ hm=>(nomatch hm),List.Pairwise.nil⟩ (by rw[Heap.size_push];exact gC _);rw[Heap.size_push,<- e4]at ok;rw[cm]at c4;obtain⟨so,dot⟩:=bH hs;have so:∀p∈scope.names,eS G.names env.scope.names scope.names T p=true:=bQ so;have dot:(".0" : Str)∉G.names:=by simpa using dot
 let oc:=cellsFrom (h3.objs.size+1) scope.names []
 have hoc:∀x c,(x,c)∈oc->h4.IsCell c none/\h3.objs.size+1<=c/\(x, .cell)∈scope.names:=fun x c m=>⟨(ok.empty x c m).1,(ok.empty x c m).2,(dm _ _ _ _ m).1⟩;have hcell:∀x c,cenv.cells.lookup x=some c->(x,c)∈oc\/(x,c)∈cl:=fun x c e=>by rw[c4]at e;exact dx (mem_of_lookup e)
 have free_kind:∀x,(x,NameKind.free)∈scope.names->env.kindOf x=some .cell\/env.kindOf x=some .free:=fun x m=>by
  have:=so _ m
  simpa [eS,Env.kindOf]using this
 have cl_lt:∀x c,(x,c)∈cl->c<s.heap.objs.size:=fun x c m=>by obtain⟨o,e,_⟩:=I.ov c (I.envr.cin _ _ (cl1 _ m).1).1;exact Heap.lt_size e
 have tg_in:∀n x,G.names[n]?=some x->H7 G.names T x=true->T.contains n=true:=fun n x e q=>by
  obtain⟨m,hm,e'⟩:=List.any_eq_true.mp q;have:=j5 I.ok.nd e (eC e');subst this
  simpa using hm
 have fr:∀a,h3.objs.size<=a->s.heap.get? a=none:=fun a q=>fJ (az hle q);have base_fr:∀a,s.heap.get? a=none->G.h₀.get? a=none:=fun a q=>by
  cases e:G.h₀.get? a with
  |none=>rfl
  |some o=>rw[I.base.keep _ _ e]at q;cases q
 have kk:∀b o,s.heap.get? b=some o->h4.get? b=some o:=fun b o e=>k4 b o (k3 b o e);have names_eq:∀x,cenv.kindOf x=(scope.names.lookup x).map fun k=>if k==.free&&env.scope.names.lookup x==some .cell then .cell else k:=by intro x;show cenv.scope.names.lookup x=_;rw[c1,fA I.envr.fn,gX]
 have hns:h4.Ns h3.objs.size (fun _=>none):=by rw[e4];exact(Heap.Ns.new h3 (.type "dict")).keeps (pushCells_keeps _ _)
 have hN:∀a∈h3.objs.size::oc.map (·.2),h3.objs.size<=a:=fun a m=>by
  rcases bM m with rfl|m
  .exact gC _
  .obtain⟨p,hp,rfl⟩:=gO m;exact Nat.le_of_succ_le (hoc p.1 p.2 hp).2.1
 have grow:∀a∈(h3.objs.size::oc.map (·.2))++[D],s.heap.get? a=none:=fun a m=>by
  rcases dx m with m|m
  .exact fr a (hN a m)
  .rcases aV m with rfl;exact hD
 have assoc:((h3.objs.size::oc.map (·.2))++[D])++O=(h3.objs.size::oc.map (·.2))++D::O:=by simp
 have inl:∀a,a∈O->a∈(h3.objs.size::oc.map (·.2))++D::O:=fun a m=>kK _ (dP _ m);have hinj:∀x y c,cenv.cells.lookup x=some c->cenv.cells.lookup y=some c->x=y:=fun x y c ex ey=>by
  rcases hcell _ _ ex with mx|mx <;> rcases hcell _ _ ey with my|my
  .exact name_of_addr ok.apart mx my
  .have h1:=(hoc _ _ mx).2.1;have h2:=cl_lt _ _ my;exact absurd h2 (Nat.not_lt.mpr (az hle (Nat.le_of_succ_le h1)))
  .have h1:=(hoc _ _ my).2.1;have h2:=cl_lt _ _ mx;exact absurd h2 (Nat.not_lt.mpr (az hle (Nat.le_of_succ_le h1)))
  .exact I.envr.inj _ _ _ (cl1 _ mx).1 (cl1 _ my).1
 refine⟨h3.objs.size::oc.map (·.2),hN,dX,fun x c m e=>?_,⟨?_, ?_, ?_, ?_, ?_, ?_, ?_,hinj, ?_,⟨_,c2▸hns, ?_⟩, ?_⟩,hns,fun x c e q=>?_,fun a m=>?_⟩
 .obtain⟨c0,h0⟩:=cb _ (h3.objs.size+1) _ m;obtain⟨c',e'⟩:=cg (l:=oc) h0;rw[c4,List.lookup_append]at e;have e:(oc.lookup x).or (cl.lookup x)=some c:=e;rw[e']at e;obtain rfl:=aC e;exact dP _ (List.mem_map_of_mem (f:=(·.2)) (mem_of_lookup e'))
 .rw[c1];exact hk
 .rw[c3];exact I.envr.gl
 .rw[c5];exact I.envr.bi
 .rw[c2];exact mv _ dX
 .rw[c2];exact base_fr _ (fr _ (gC _))
 .exact fun n a e=>inl a (I.envr.oin n a e)
 .intro x c e;rcases hcell _ _ e with m|m
  .exact⟨mv _ (dP _ (List.mem_map_of_mem (f:=(·.2)) m)),base_fr _ (fr _ (Nat.le_of_succ_le (hoc _ _ m).2.1))⟩
  .have:=I.envr.cin _ _ (cl1 _ m).1;exact⟨inl _ this.1,this.2⟩
 .intro x hx;have:∃c,(x,c)∈oc++cl:=by
   rw[names_eq]at hx;cases e:scope.names.lookup x with
   |none=>rw[e]at hx;simp at hx
   |some k =>
    have mk:=mem_of_lookup e;rw[e]at hx;cases k with
    |cell=>obtain⟨c,hc⟩:=cb _ (h3.objs.size+1) _ mk;exact⟨c,mv _ hc⟩
    |free=>obtain⟨c,hc⟩:=cl2 _ mk rfl;exact⟨c,kK _ hc⟩
    |«local»=>simp at hx
    |globalExplicit=>simp at hx
    |globalImplicit=>simp at hx
  obtain⟨c,hc⟩:=this;obtain⟨c',e'⟩:=cg (l:=cenv.cells) (by rw[c4];exact hc);rcases hcell _ _ e' with m|m
  .exact⟨c',none,e',(hoc _ _ m).1⟩
  .obtain⟨c'',v,e2,q⟩:=I.envr.ce x (free_kind _ (cl1 _ m).2);rw[(cl1 _ m).1]at e2;obtain rfl:=aC e2;exact⟨_,v,e',q.keeps kk⟩
 .intro n x d' h1 h2 h3';rw[names_eq]at h2;cases e:scope.names.lookup x with
  |none=>rw[e]at h2;simp at h2
  |some k =>
   have mk:=mem_of_lookup e;rw[e]at h2;have hkl:k=.local:=by
    cases k with
    |free=>simp only[Option.map_some,Option.some.injEq]at h2;split at h2 <;> cases h2
    |cell=>simp at h2
    |«local»=>rfl
    |globalExplicit=>simp at h2
    |globalImplicit=>simp at h2
   subst hkl;have q:=so _ mk;simp only[eS,g9,Bool.or_eq_true,beq_iff_eq]at q;rcases q.2 with q|q
   .exact absurd (Ib (q▸h1)) dot
   .rw[aB.get_del,tg_in n x h1 q]at h3';simp at h3'
 .intro n x d' h1 h2 h3';rw[aB.get_del]at h3';have hT:T.contains n=false:=by
   cases c:T.contains n with
   |false=>rfl
   |true=>rw[c]at h3';simp at h3'
  rw[hT]at h3';have h3':ρ.get n=some d':=by simpa using h3'
  rw[names_eq]at h2;have hmem:(x,NameKind.free)∈scope.names:=by
   cases e:scope.names.lookup x with
   |none=>rw[e]at h2;simp at h2
   |some k =>
    have mk:=mem_of_lookup e;rw[e]at h2;cases k with
    |free=>exact mk
    |cell =>
     have q:=so _ mk;simp only[eS,g9]at q;have:=tg_in n x h1 q.2;rw[hT]at this;exact ff this
    |«local»=>simp at h2
    |globalExplicit=>simp at h2
    |globalImplicit=>simp at h2
  obtain⟨c,hc⟩:=cl2 _ hmem rfl;obtain⟨c',e'⟩:=cg (l:=cenv.cells) (by rw[c4];exact kK _ hc);rcases hcell _ _ e' with m|m
  .have q:=so _ (hoc _ _ m).2.2;simp only[eS,g9]at q;have:=tg_in n x h1 q.2;rw[hT]at this;exact ff this
  .obtain⟨c2',v,e2,q,r⟩:=I.envr.cl n x d' h1 (free_kind _ hmem) h3';rw[(cl1 _ m).1]at e2;obtain rfl:=aC e2;refine⟨_,v,e',q.keeps kk, ?_⟩;have:=(r.news grow).keep (.of kk);rw[assoc]at this;exact this
 .subst q;rcases hcell _ _ e with m|m
  .exact absurd hD3 (Nat.not_lt.mpr (Nat.le_of_succ_le (hoc _ _ m).2.1))
  .obtain⟨o,e',_⟩:=I.ov c (I.envr.cin _ _ (cl1 _ m).1).1;rw[hD]at e';exact nn e'
 .rcases bM m with rfl|m
  .obtain⟨o,es,ep,e,dd,_⟩:=hns;exact⟨o,e, .inr fun vs q=>by rw[dd]at q;cases q⟩
  .obtain⟨p,hp,rfl⟩:=gO m;obtain⟨o,e,dd⟩:=(hoc p.1 p.2 hp).1;exact⟨o,e, .inr fun vs q=>by rw[dd]at q;cases q⟩
theorem fM.news (x:fM G env own O ρ h)(k:∀a∈N,h.get? a=none):fM G env own (N++O) ρ h where
 fn:=x.fn
 gl:=x.gl
 bi:=x.bi
 lin:=kK _ x.lin
 lfr:=x.lfr
 oin:=fun n a e=>kK _ (x.oin n a e)
 cin:=fun y c e=>⟨kK _ (x.cin y c e).1,(x.cin y c e).2⟩
 inj:=x.inj
 ce:=x.ce
 ns:=let⟨m,a,b⟩:=x.ns;⟨m,a,fun n y d h1 h2 h3=>let⟨v,e,r⟩:=b n y d h1 h2 h3;⟨v,e,r.news k⟩⟩
 cl:=fun n y d h1 h2 h3=>let⟨c,v,e,q,r⟩:=x.cl n y d h1 h2 h3;⟨c,v,e,q,r.news k⟩
end
end
section
noncomputable def Ea (ifs:dU)(env:Env):Sem Bool:=forIn ifs true fun c r=>if r=true then do let ok <- isTrue c env (eval c env);pure (ForInStep.yield ok)else pure (ForInStep.yield r)
inductive CK where
 |list (elt:Expr)|set (elt:Expr)
noncomputable def CK.expr (c:CK)(gens:List Comprehension)(scope:Scope)(pos:Pos):Expr:=match c with
 |.list elt=>.ListComp elt gens scope pos
 |.set elt=>.SetComp elt gens scope pos
theorem CK.clauses (c:CK)(gens:List Comprehension)(scope:Scope)(pos:Pos):clausesOf (c.expr gens scope pos)=gens:=by cases c <;> rfl
noncomputable def CK.emit (c:CK)(D:Addr)(env:Env):Sem Unit:=match c with
 |.list elt=>eval elt env >>= fun x=>call (.builtin "list.append") [.ref D,x] >>= fun _=>pure ()
 |.set elt=>eval elt env >>= fun v=>standAt elt.pos >>= fun _=>call (.builtin "set.add") [.ref D,v] >>= fun _=>pure ()
def js (c:CK)(gens:List Comprehension)(scope:Scope)(pos:Pos)(k:Nat)(D:Addr)(env:Env):Sem Unit:=
 match gens[k+1]? with
 |some g'=>eval g'.iter env >>= fun x=>standAt g'.iter.pos >>= fun _=>foldedSetIterable g'.iter env x >>= fun x=>holding [x] (pyIter x) >>= fun it =>
  runOwn (.compStart (c.expr gens scope pos) (k+1) it (.ref D) env) env >>= fun _=>pure ()
 |none=>c.emit D env
theorem uF {A:Around}{E:bg}{s:Shared}{c:CK}{gens:List Comprehension}{scope:Scope}{pos:Pos}{k:Nat}{target iter:Expr}{ifs:dU}{it:Value}{D:Addr}{env:Env}{Q:Fin->Shared->Prop}
  (hg:gens[k]?=some ⟨target,iter,ifs,0⟩)(hg':∀g',gens[k+1]?=some g'->g'.is_async=0)
  (h:wpAny M A (pyNext it) (fun r s1=>match r with
   |none=>Q (.done .next) s1
   |some v=>wpAny M A (letOwnedTupleGo target it v) (fun _ s2=>wpAny M A (assign target env v) (fun _ s3=>wpAny M A (Ea ifs env) (fun ok s4 =>
     if ok=true then wpAny M A (js c gens scope pos k D env) (fun _ s5=>wpAny M A (again (.compLoop (c.expr gens scope pos) k it (.ref D) env)) Q E s5) E s4
     else wpAny M A (again (.compLoop (c.expr gens scope pos) k it (.ref D) env)) Q E s4) E s3) E s2) E s1) E s) :
  wpAny M A (compTurn (c.expr gens scope pos) k it (.ref D) env) Q E s:=by
 have e0:((0:Int) != 0)=false:=rfl;have main:∀(emit:Sem Unit),emit=c.emit D env->wpAny M A (do
   let some g:=gens[k]?|unsupported "internal:comprehension-depth"
   standAt (if g.is_async != 0 then(c.expr gens scope pos).pos else g.iter.pos)
   match<- if g.is_async != 0 then asyncNext it else pyNext it with
   |none=>pure (.done .next)
   |some v =>
    letOwnedTupleGo g.target it v
    assign g.target env v
    let mut ok:=true
    for c in g.ifs do
     if ok then ok <- isTrue c env (eval c env)
    if ok then
     match gens[k+1]? with
     |some g' =>
      let x <- eval g'.iter env
      standAt g'.iter.pos
      let x <- if g'.is_async != 0 then foldedIterable g'.iter x else foldedSetIterable g'.iter env x
      let _ <- runOwn (.compStart (c.expr gens scope pos) (k+1) (<- holding [x] (if g'.is_async != 0 then asyncIter x else pyIter x)) (.ref D) env) env
     |none=>emit
    again (.compLoop (c.expr gens scope pos) k it (.ref D) env)) Q E s:=by
  rintro emit rfl
  rw[hg];simp -iota only[e0,Bool.false_eq_true,if_false];refine aN (wpAny_standAt (aN (wpAny_mono h (fun r s1 h1=>?_) fun _ _ e=>e)));cases r with
  |none=>exact bB h1
  |some v =>
   refine aN (wpAny_mono h1 (fun _ s2 h2=>aN (wpAny_mono h2 (fun _ s3 h3=>aN (wpAny_mono h3 (fun ok s4 h4=>?_) fun _ _ e=>e)) fun _ _ e=>e)) fun _ _ e=>e);cases ok with
   |false=>exact aN (bB h4)
   |true =>
    have h4:wpAny M A (js c gens scope pos k D env) (fun _ s5=>wpAny M A (again (.compLoop (c.expr gens scope pos) k it (.ref D) env)) Q E s5) E s4:=h4;unfold js at h4;cases e:gens[k+1]? with
    |none =>
     rw[e]at h4;exact aN h4
    |some g' =>
     rw[e]at h4;have e1:(g'.is_async != 0)=false:=by rw[hg' _ e];rfl
     simp only[if_true,e1,Bool.false_eq_true,if_false];have h5:=aN h4
     simpa only[bind_assoc,pure_bind]using h5
 cases c with
 |list elt=>exact main _ rfl
 |set elt=>exact main _ rfl
theorem CK.under_start {A:Around}(c:CK):A.under (.compStart (c.expr gens scope pos) k it acc env)=A:=by cases c <;> rfl
theorem CK.under_loop {A:Around}(c:CK):A.under (.compLoop (c.expr gens scope pos) k it acc env)=A:=by cases c <;> rfl
theorem CK.den_start (c:CK) :
  (model prog w).den (.compStart (c.expr gens scope pos) k it acc env)=(compStart (c.expr gens scope pos) k it acc env).onRaise (fun x=>do noteFrame x env;standAt theWindowsPlace):=by cases c <;> rfl
theorem CK.den_loop (c:CK) :
  (model prog w).den (.compLoop (c.expr gens scope pos) k it acc env)=(compTurn (c.expr gens scope pos) k it acc env).onRaise (fun x=>do noteFrame x env;theTreesLotGoes x):=by cases c <;> rfl
theorem jc {R:Result->Shared->Prop}{s:Shared}{c:CK}{gens:List Comprehension}{scope:Scope}{pos:Pos}{k:Nat}{g:Comprehension}{it acc:Value}{env:Env}
  (hg:gens[k]?=some g)(ha:g.is_async=0)
  (h0:codeAny (model prog w) A (.compLoop (c.expr gens scope pos) k it acc env) R s)
  (h:wpAny (model prog w) A (pyIter it) (fun it' s'=>codeAny (model prog w) A (.compLoop (c.expr gens scope pos) k it' acc env) R s')
   (notedBy (model prog w) A env fun x s'=>R (.error x) s') s) :
  codeAny (model prog w) A (.compStart (c.expr gens scope pos) k it acc env) R s:=by
 refine codeAny_of_tree ?_;rw[c.den_start,c.under_start];refine wpAny_notedAt ?_;unfold compStart;have e1:((clausesOf (c.expr gens scope pos))[k]?).elim false (·.is_async != 0)=false:=by rw[c.clauses,hg];show(g.is_async != 0)=false;rw[ha];rfl
 rw[e1];refine aN (wpAny_askSetting (wpAny_ite_split (fun _=>?_) fun _=>?_))
 .first
   |exact aN (bB (bB (And.intro rfl h0)))
   |exact bB (And.intro rfl h0)
 .refine aN (wpAny_rule ?_);have e2:(clausesOf (c.expr gens scope pos))[k]?=some g:=by rw[c.clauses];exact hg
  rw[e2];exact aN (wpAny_standAt (aN (wpAny_mono h (fun it' s' h'=>bB (And.intro rfl h')) fun _ _ x=>x)))
theorem iP:∀{xs:List D},bf xs=true->∀d∈xs,a8 d=true
 |[],_,_,m=>nomatch m
 |x::xs,h,d,m=>by
  obtain⟨h1,h2⟩:=bH (h:(a8 x&&bf xs)=true);rcases bM m with rfl|m
  .exact h1
  .exact iP h2 d m
theorem jz:∀{kvs:List (PyData × PyData)},oA kvs=true->bf (kvs.map (·.1))=true/\bf (kvs.map (·.2))=true
 |[],_=>⟨rfl,rfl⟩
 |(k,v)::r,h=>by obtain⟨h1,h2⟩:=bH (h:(a8 k&&a8 v&&oA r)=true);obtain⟨h3,h4⟩:=bH h1;obtain⟨h5,h6⟩:=jz h2;exact⟨kY ⟨h3,h5⟩,kY ⟨h4,h6⟩⟩
def oN (O W:a9)(h:Heap):Prop:=∀a∈W,∀o,h.get? a=some o->LD o->a∈O
theorem xR (hk:aI W h h')(hn:oN O W h)(r:Reads h v d as):a8 d=true->(∀a∈as,a∉O)->Reads h' v d as:=
 Reads.rec (motive_1:=fun v d as _=>a8 d=true->(∀a∈as,a∉O)->Reads h' v d as) (motive_2:=fun vs ds as _=>bf ds=true->(∀a∈as,a∉O)->ReadsAll h' vs ds as)
  (fun _ _=>.none) (fun b _ _=>.bool b) (fun i t _ _=>.int i t) (fun x t _ _=>.str x t)
  (fun h1 h2 h3 _ ih t q=>.list (hk _ _ (fun m=>q _ dX (hn _ m _ h1 (.inl (.inl h2)))) h1 (.inl (by rw[h2];nofun))) h2 h3 (ih t fun a m=>q a (dP _ m)))
  (fun _ _ _ _ _ t=>Bool.noConfusion t)
  (fun h1 h2 h3 _ _ ih1 ih2 t q=>.dict (hk _ _ (fun m=>q _ dX (hn _ m _ h1 (.inl (.inr h2)))) h1 (.inl (by rw[h2];nofun))) h2 h3 (ih1 (jz t).1 fun a m=>q a (dP _ (mv _ m))) (ih2 (jz t).2 fun a m=>q a (dP _ (kK _ m))))
  (fun _ _=>.nil) (fun _ _ ih1 ih2 t q=>.cons (ih1 (bH t).1 fun a m=>q a (mv _ m)) (ih2 (bH t).2 fun a m=>q a (kK _ m))) r
section
variable {w:World}{O:a9}{h h':Heap}{W:a9}
theorem av.butT (r:av w O h v d)(hk:aI W h h')(hn:oN O W h)(ht:a8 d=true):av w O h' v d:=
 let⟨as,x,y,z⟩:=r
 ⟨as,xR hk hn x ht fun a m=>(y a m).1,fun b m=>⟨(y b m).1,(y b m).2.same (fun o e=>let⟨o',e',c⟩:=db x b m;by rw[e]at e';obtain rfl:=aC e';exact hk b o (fun q=>(y b m).1 (hn b q o e (.inl c))) e (jK c)) (let⟨o,e,_⟩:=db x b m;⟨o,e⟩)⟩,z⟩
theorem ai.butT:∀{vs:eU},ai w O h vs ds->aI W h h'->oN O W h->(∀d∈ds,a8 d=true)->ai w O h' vs ds:=by
 induction ds with
 |nil=>intro vs r _ _ _;rw[r.nil_inv];exact .nil
 |cons d ds ih =>
  intro vs r hk hn ht;obtain⟨u,us,rfl,r1,r2⟩:=r.cons_inv;exact .cons (r1.butT hk hn (ht d dX)) (ih r2 hk hn fun d m=>ht d (dP _ m))
set_option tactic.hygienic true in
theorem cG.butT (x:cG w own n O h v d)(k:aI W h h')(hn:oN O W h)(ht:a8 d=true)(ho:∀a vs,own.at' n=some a->h.PlainList a vs->a∉W):cG w own n O h' v d:=by
 unfold cG at *;split at x
 .rename_i q;rw[if_pos q];obtain⟨a,vs,xs,y,e,m,rfl,z,l,r⟩:=x;exact⟨a,vs,xs,y,e,m,rfl,z,k.plain (ho a _ y l) l,r.butT k hn (iP ht)⟩
 .rename_i q;rw[if_neg q];exact av.butT x k hn ht
theorem fM.butT (x:fM G env own O ρ h)(k:aI W h h')(hn:oN O W h)(ht:∀n d,ρ.get n=some d->a8 d=true)(hl:env.locals∉W)(hc:∀y c,env.cells.lookup y=some c->c∉W)
  (ho:∀n a vs,own.at' n=some a->h.PlainList a vs->a∉W):fM G env own O ρ h' where
 fn:=x.fn
 gl:=x.gl
 bi:=x.bi
 lin:=x.lin
 lfr:=x.lfr
 oin:=x.oin
 cin:=x.cin
 inj:=x.inj
 ce:=fun y hy=>let⟨c,v,e,q⟩:=x.ce y hy;⟨c,v,e,k.cell (hc _ _ e) q⟩
 ns:=let⟨m,a,b⟩:=x.ns;⟨m,k.ns hl a,fun n y d h1 h2 h3=>let⟨v,e,r⟩:=b n y d h1 h2 h3;⟨v,e,r.butT k hn (ht n d h3) (ho n)⟩⟩
 cl:=fun n y d h1 h2 h3=>let⟨c,v,e,q,r⟩:=x.cl n y d h1 h2 h3;⟨c,v,e,k.cell (hc _ _ e) q,r.butT k hn (ht n d h3) (ho n)⟩
end
theorem aB.get_of_del {ρ:aB}(h:(ρ.del T).get n=some d):ρ.get n=some d:=by
 rw[aB.get_del]at h;by_cases c:T.contains n=true
 .rw[if_pos c]at h;exact nn h
 .rw[if_neg c]at h;exact h
theorem Bm.plain (h:Bm false o):ni o:=h.resolve_right fun q=>Bool.noConfusion q.1
theorem ni.turn (hw:∀b∈wr,∀o,h.get? b=some o->ni o):bG O wr h:=fun a m o e=>⟨Ih (hw a m o e),fun l=>by
 obtain⟨⟨_,h1⟩,_,_,h4,h5⟩:=hw a m o e;rcases l with(l|l)|⟨_,_,_,l⟩
 .exact absurd l h4
 .exact absurd l h5
 .rw[h1]at l;cases l⟩
theorem Bm.turn (hw:∀b∈wr,∀o,h.get? b=some o->Bm z o):oN O wr h:=fun a m o e l=>by
 rcases hw a m o e with⟨⟨_,h1⟩,_,_,h4,h5⟩|⟨_,c,_,_,h1⟩
 .rcases l with(l|l)|⟨_,_,_,l⟩
  .exact absurd l h4
  .exact absurd l h5
  .rw[h1]at l;cases l
 .rcases l with(l|l)|⟨_,_,_,l⟩
  .exact absurd (Value.type.inj (c.symm.trans l)) (by decide)
  .exact absurd (Value.type.inj (c.symm.trans l)) (by decide)
  .rw[h1]at l;cases l
section
variable {G:GC}{A:Around}{env:Env}{own:dK}{O:a9}{ρ:aB}{z:Bool}
theorem di.iterZ (I:di G A env own O ρ s)(hw:∀b∈wr,∀o,s.heap.get? b=some o->Bm z o)(hz:z=true->∀n d,ρ.get n=some d->a8 d=true)(hO:∀b∈wr,b∉O)(h0:∀b∈wr,G.h₀.get? b=none)
  (k:∀b o,b∉wr->s.heap.get? b=some o->h'.get? b=some o)(p:0<tk):di G A env own O ρ { s with heap:=h',toks:=tk }/\bl G wr s { s with heap:=h',toks:=tk }/\∀vs ds,(z=true->∀d∈ds,a8 d=true)->ai G.w O s.heap vs ds->ai G.w O h' vs ds:=by
 have kb:aI wr s.heap h':=dN k;have B:aX G h':=⟨fun b o e=>k b o (fun q=>by rw[h0 b q]at e;exact nn e) (I.base.keep b o e),I.base.memo.keep fun b o vs e q f=>k b o (fun r=>(by
  rcases hw b r o e with⟨_,h2,h3,_⟩|⟨_,_,xs,n,d⟩
  .exact q.elim h2 h3
  .rw[f]at d;cases d)) e⟩
 have ov:dB O h':=fun a m=>by obtain⟨o,e,q⟩:=I.ov a m;exact⟨o,k a o (fun m'=>hO a m' m) e,q⟩
 have l1:env.locals∉wr:=fun m=>hO _ m I.envr.lin;have l2:∀y c,env.cells.lookup y=some c->c∉wr:=fun y c e m=>hO _ m (I.envr.cin y c e).1;have l3:∀n a vs,own.at' n=some a->s.heap.PlainList a vs->a∉wr:=fun n a vs e _ m=>hO _ m (I.envr.oin n a e);have sx:bl G wr s { s with heap:=h',toks:=tk }:=⟨⟨rfl,rfl⟩,kb,B,p,fun b m e=>bA (fun o q=>k b o m q) e⟩;cases z with
 |false =>
  have t:bG O wr s.heap:=ni.turn fun b m o e=>(hw b m o e).plain;exact⟨⟨I.ok,I.hh,B,p,ov,I.envr.but kb t l1 l2 l3⟩,sx,fun vs ds _ r=>r.but kb t⟩
 |true =>
  have t:oN O wr s.heap:=Bm.turn hw;exact⟨⟨I.ok,I.hh,B,p,ov,I.envr.butT kb t (hz rfl) l1 l2 l3⟩,sx,fun vs ds q r=>r.butT kb t (q rfl)⟩
end
end
section
section
variable {prog:Program}{w:World}{A:Around}{E:bg}{s:Shared}
theorem jh.size (ho:h.get? a=some o)(hd:o.data=.set es ep t)(x:jh w h a ss):es.size=ss.length:=by
 obtain⟨o',es',ep',t',ho',_,hd',_,hp,_,_,_,_⟩:=x;rw[ho]at ho';obtain rfl:=aC ho';rw[hd]at hd';injection hd' with e1 e2 e3
 subst e1;have:=hp.length_eq;unfold wq at this;rw[dq,jR]at this;exact this
theorem K8.of (x:K8 w es):ElemsOf (PySem.strKind prog w) es:=fun e m=>by obtain⟨k,tk,h1,h2⟩:=x e m;exact⟨⟨k,by rw[h1];exact Value.isStrOf_refl k tk,h2⟩,by rw[h1];rfl⟩
theorem Ek (hel:ElemsOf (PySem.strKind prog w) es)(x:Str):(wq es).any (· == x)=es.any fun e=>(PySem.strKind prog w).is x e.2:=by
 delta wq
 rw[List.any_map,Bool.eq_iff_iff,List.any_eq_true,List.any_eq_true];refine exists_congr fun e=>and_congr_right fun m=>?_;obtain⟨⟨k,hk,_⟩,_⟩:=hel e m;obtain⟨t,ht⟩:=Value.isStrOf_shape hk;show(strOf e.2==x)=true↔Value.isStrOf x e.2=true;rw[ht];exact Iff.rfl
theorem tu (t:SetTable)(es:Array (Int × Value))(h:Int)(x:Value):(layNew t es h x).2.1.led=t.led/\((layNew t es h x).2.1.plain=t.plain\/(layNew t es h x).2.1.plain=false):=by
 delta layNew
 cases t.freeSlot h with
 |none=>exact⟨rfl, .inr rfl⟩
 |some p =>
  obtain⟨slot,wd⟩:=p;dsimp only
  delta SetTable.orStandIn
  by_cases c:(t.put slot).1.fits (SetTable.insertAt es (t.put slot).2 (h,x)).size=true
  .rw[if_pos c];exact⟨rfl, .inl rfl⟩
  .rw[if_neg c];exact⟨rfl, .inr rfl⟩
theorem xv {led plain:Bool}{hs:Array Int}{t:SetTable}{ord:Array Nat}(h:SetTable.laid mask finger moves led plain hs=some (t,ord)):t.led=led/\t.plain=plain:=by
 delta SetTable.laid at h
 cases e:SetTable.layClean mask hs with
 |none=>rw[e]at h;exact nn h
 |some owner =>
  rw[e]at h;have h:=aC h;rw[<- (Prod.mk.inj h).1];exact⟨rfl,rfl⟩
theorem qq (t:SetTable)(es:Array (Int × Value))(wanted:Nat):(relayAll t es wanted).2.1.led=t.led/\((relayAll t es wanted).2.1.plain=t.plain\/(relayAll t es wanted).2.1.plain=false):=by
 delta relayAll
 cases e:t.relaid (es.map (·.1)) wanted with
 |none=>exact⟨rfl, .inr rfl⟩
 |some p =>
  obtain⟨t',ord⟩:=p;obtain⟨k1,k2⟩:=xv e;dsimp only;by_cases c:(coversAll ord es.size&&t'.fits (ord.filterMap (es[·]?)).size)=true
  .rw[if_pos c];exact⟨k1, .inl k2⟩
  .rw[if_neg c];exact⟨rfl, .inr rfl⟩
theorem FU (h:∀o:Obj,o.isFreed=false->jh w (s.heap.push o) s.heap.objs.size []->Q (.ref s.heap.objs.size) { s with heap:=s.heap.push o }):wpAny (model prog w) A (newSet (.type "set")) Q E s:=by
 refine aN (aN (wpAny_askSetting (bB ?_)));exact aN (wpAny_alloc (bB (h _ rfl ⟨_,#[],0,_,ie _ rfl,⟨rfl,rfl,rfl⟩,rfl,(fun e m=>nomatch m), .nil,by decide,rfl,(by
  cases e:w.params.followText "set-order" with
  |true=>exact .inl rfl
  |false=>exact .inr (by show(!w.params.followText "set-order")=true;rw[e];rfl)), .inl rfl⟩)))
theorem DO (hS:jh w s.heap a ss)(hroom:ss.length+1<scanBound)
  (h:∀h' b,Heap.SameBut a s.heap h'->jh w h' a (jM ss x)->Q b { s with heap:=h' }):wpAny (model prog w) A (setAddHashed a (.str x tk) ((PySem.strKind prog w).hash x)) Q E s:=by
 have hsize:=fun{o es ep t} ho hd=>jh.size (o:=o) (es:=es) (ep:=ep) (t:=t) ho hd hS;obtain⟨o,es,ep,t,ho,hex,hd,he0,hp,hb,hf,hl,hpl⟩:=hS;have hel:=he0.of (prog:=prog);have hn:=hsize ho hd;have hkey:(PySem.strKind prog w).is x (.str x tk)=true:=Value.isStrOf_refl x tk;have hany:ss.any (· == x)=es.toList.any fun e=>(PySem.strKind prog w).is x e.2:=by rw[<- Ek hel,hp.any_eq]
 unfold setAddHashed setAddHashedIn;refine wpAny_holding (aN (wpAny_setState_of ho hd hf ?_));refine wpAny_ite_split (fun _=>?_) fun c=>absurd (byScan_of rfl hb hel) c;unfold setAddByScan;refine aN (aN (wpAny_rule (aN (wpAny_setScan_of hkey ho hd hf hel ?_))));cases hr:List.findIdx? (fun e=>(PySem.strKind prog w).is x e.2) es.toList with
 |some j =>
  have c:ss.any (· == x)=true:=by rw[hany,List.any_eq_true];obtain⟨hj,hpj,_⟩:=List.findIdx?_eq_some_iff_getElem.mp hr;exact⟨_,List.getElem_mem hj,hpj⟩
  have:=h s.heap false (Heap.SameBut.refl a s.heap) (by unfold jM;rw[if_pos c];exact⟨o,es,ep,t,ho,hex,hd,he0,hp,hb,hf,hl,hpl⟩);exact bB (bB this)
 |none =>
  have c:¬ ss.any (· == x)=true:=by
   rw[hany,List.any_eq_true]
   rintro ⟨e,m,q⟩
   have:=List.findIdx?_eq_none_iff.mp hr e m;rw[q]at this;exact ff this.symm
  have hgw:∀(b:Bool){s₁:Shared}{Q':Unit->Shared->Prop},Q' () s₁->wpAny (model prog w) A (match b with|true=>rule "set.scan.the-table-gave-way" |false=>pure ()) Q' E s₁ :=
   fun b s₁ Q' hq=>by cases b;exact bB hq;exact wpAny_rule hq
  have hperm:=layNew_perm t es ((PySem.strKind prog w).hash x) (.str x tk);have hfits:=layNew_fits t es ((PySem.strKind prog w).hash x) (.str x tk);have hkeep:=tu t es ((PySem.strKind prog w).hash x) (.str x tk);generalize hL:layNew t es ((PySem.strKind prog w).hash x) (.str x tk)=L at hperm hfits hkeep ⊢;obtain⟨es1,t1,wd,gave⟩:=L;dsimp only at hperm hfits hkeep ⊢;rw[Array.toList_push]at hperm;have hel1:ElemsOf (PySem.strKind prog w) es1.toList:=(hel.push hkey rfl).perm hperm;have he1:K8 w es1.toList:=fun e m=>(dx (hperm.mem_iff.mp m)).elim (he0 e) fun m=>by rw[aV m];exact⟨x,tk,rfl,rfl⟩
  have hs1:es1.size=ss.length+1:=by rw[<- jR,hperm.length_eq,lla,jR,hn];rfl
  have hp1:(wq es1.toList).Perm (jM ss x):=by unfold jM;rw[if_neg c];refine(hperm.map _).trans ?_;rw[List.map_append];exact hp.append_right _
  have hb1:es1.size<scanBound:=hs1▸hroom;have tail:∀t2:SetTable,t2.fits es1.size=true->t2.led=t.led->t2.plain=false->wpAny (model prog w) A (do
    storeSet a es1 t2
    if(!wd&&t2.tooFull)=true then do
      (match(relayAll t2 es1 (SetTable.grown es1.size)).2.2 with|true=>rule "set.scan.the-table-gave-way" |false=>pure ())
      storeSet a (relayAll t2 es1 (SetTable.grown es1.size)).1 (relayAll t2 es1 (SetTable.grown es1.size)).2.1
      pure (some true)
     else pure (some true)) (fun r s'=>wpAny (model prog w) A (match r with|some added=>pure added|none=>setAddHashedIn a (.str x tk) ((PySem.strKind prog w).hash x) 99999) Q E s') E s:=fun t2 f2 l2 p2=>by
   refine aN (wpAny_storeSet_of ho hd ?_ (fits_of_scanBound hb1));obtain⟨ho1,_⟩:=SetOf_store (knd:=PySem.strKind prog w) (S':=fun k=>es1.toList.any fun e=>(PySem.strKind prog w).is k e.2) ho hex hd hel1 (fun k=>List.any_eq_true) hb1 f2;have hsb1:=Heap.SameBut.update s.heap a (Obj.putSet es1 t2);by_cases g:(!wd&&t2.tooFull)=true
   .rw[if_pos g];have hp2:=relayAll_perm t2 es1 (SetTable.grown es1.size);have hf2:=relayAll_fits t2 es1 (SetTable.grown es1.size);have hk2:=qq t2 es1 (SetTable.grown es1.size);generalize hR:relayAll t2 es1 (SetTable.grown es1.size)=R at hp2 hf2 hk2 ⊢;obtain⟨es2,t3,gave2⟩:=R;dsimp only at hp2 hf2 hk2 ⊢;have hel2:ElemsOf (PySem.strKind prog w) es2.toList:=hel1.perm hp2;have hz2:es2.size=es1.size:=by rw[<- jR,hp2.length_eq,jR]
    have hb2:es2.size<scanBound:=hz2▸hb1;refine aN (hgw _ (aN (wpAny_storeSet_of ho1 rfl ?_ (fits_of_scanBound hb2))));obtain⟨ho2,_⟩:=SetOf_store (knd:=PySem.strKind prog w) (S':=fun k=>es2.toList.any fun e=>(PySem.strKind prog w).is k e.2) ho1 hex rfl hel2 (fun k=>List.any_eq_true) hb2 hf2;exact bB (bB (h _ true (hsb1.trans (Heap.SameBut.update _ a _)) ⟨_,es2,_,t3,ho2,hex,rfl,fun e m=>he1 e (hp2.mem_iff.mp m),(hp2.map _).trans hp1,hb2,hf2,hl.imp id fun q=>hk2.1.trans (l2.trans q), .inr (hk2.2.elim (fun q=>q.trans p2) id)⟩))
   .rw[if_neg g];exact bB (bB (h _ true hsb1 ⟨_,es1,_,t2,ho1,hex,rfl,he1,hp1,hb1,f2,hl.imp id fun q=>l2.trans q, .inr p2⟩))
  refine aN (hgw _ ?_);by_cases g:t1.plain=true
  .rw[if_pos g];refine aN ?_;rw[hashByValue_scannable 8 rfl];refine bB ?_;exact tail _ (SetTable.fits_plain_off hfits) hkeep.1 rfl
  .rw[if_neg g];exact aN (bB (tail t1 hfits hkeep.1 (Bool.not_eq_true _▸g)))
end
end
section
theorem slot_seti_next:Slot "set_iterator" "__next__" "set_iterator.__next__":=
 .of (owner:="set_iterator") (n:="__next__") (by rw[typeLookup_type,builtinLookup_eq_fast];kernel_rfl) (by decide +kernel) (by decide +kernel) (by decide +kernel) (.inl (by decide +kernel)) (by rw[isSubtype_type];kernel_rfl)
theorem jJ:Slot "set_iterator" "__iter__" "set_iterator.__iter__":=
 .of (owner:="set_iterator") (n:="__iter__") (by rw[typeLookup_type,builtinLookup_eq_fast];kernel_rfl) (by decide +kernel) (by decide +kernel) (by decide +kernel) (.inl (by decide +kernel)) (by rw[isSubtype_type];kernel_rfl)
theorem i8:entryFor table "set_iterator.__next__" = some Builtin.«set_iterator.__next__»:=entryFor_of_tree (by kernel_rfl)
theorem jk (a:Value):argsOk "set_iterator.__next__" ⟨[a],[]⟩:=by unfold argsOk;kernel_rfl
theorem nQ:entryFor table "set_iterator.__iter__" = some Builtin.«dict_keyiterator.__iter__»:=entryFor_alias (id':="dict_keyiterator.__iter__") (by kernel_rfl) rfl (by decide +kernel) (by kernel_rfl)
theorem oS (a:Value):argsOk "set_iterator.__iter__" ⟨[a],[]⟩:=by unfold argsOk;kernel_rfl
theorem pg:entryFor table "set.__iter__" = some Builtin.«frozenset.__iter__»:=entryFor_alias (id':="frozenset.__iter__") (by kernel_rfl) rfl (by decide +kernel) (by kernel_rfl)
section
variable {prog:Program}{w:World}{A:Around}{E:bg}{s:Shared}
noncomputable abbrev qx (first:Value)(i:Nat)(S:Addr)(n ep:Nat):Obj:={ cls:=.type "set_iterator",data:=.fields #[first,rawInt i, .ref S,rawInt n,rawInt ep] }
theorem kH:∀(l:List α)(i:Nat) (h:i<l.length),(l[i]::l.eraseIdx i).Perm l
 |x::r,0,_=>.refl _
 |x::r,i+1,h=>(List.Perm.swap ..).trans ((kH r i (Nat.lt_of_succ_lt_succ h)).cons x)
theorem zG:∀(n:Nat) (xs:List α){s:Shared}{Q:List α->Shared->Prop},n=xs.length->(∀ys dr,ys.Perm xs->Q ys { s with drawn:=dr })->wpAny (model prog w) A (drawOrder n xs) Q E s
 |0,xs,s,Q,e,h=>by obtain rfl:xs=[]:=List.length_eq_zero_iff.mp e.symm;exact bB (h [] s.drawn .nil)
 |n+1,[],_,_,e,_=>nomatch e
 |n+1,x::r,s,Q,e,h=>by refine aN (fun Γ p hΓ=>?_);unfold choose;rw[Sem.wp_choose];refine⟨Nat.succ_ne_zero _, ?_⟩;have hi:=Nat.mod_lt ((model prog w).w.draws .order (s.drawn.get .order)) (Nat.succ_pos r.length);generalize (model prog w).w.draws .order (s.drawn.get .order) % (r.length+1)=i at hi;refine bB (M:=model prog w) (A:=A) ?_ Γ p hΓ;rw[List.getElem?_eq_getElem (show i<(x::r).length from hi)];refine aN (zG n ((x::r).eraseIdx i) (by rw[List.length_eraseIdx,if_pos (show i<(x::r).length from hi)];exact Nat.succ.inj e) fun ys dr p=>bB ?_);exact h _ dr ((p.cons _).trans (kH (x::r) i hi))
structure mB (h:Heap)(S:Addr)(es:Array (Int × Value))(ep:Nat)(t:SetTable):Prop where
 ob:∃o,h.get? S=some o/\o.data=.set es ep t
 fit:t.fits es.size=true
theorem mB.at (x:mB h S es ep t)(e:∀o,h.get? S=some o->h'.get? S=some o):mB h' S es ep t:=
 let⟨o,ho,hd⟩:=x.ob;⟨⟨o,e o ho,hd⟩,x.fit⟩
noncomputable def Lb (nx:Nat)(first:Value):Value:=match first with|.int _ _=>rawInt nx|_=>first
def wJ (prog:Program)(w:World)(s:Shared)(S:Addr)(first:Value)(i ep:Nat)(es:Array (Int × Value))(x:Value)(nx:Nat):Prop:=
 (∃slot:Nat,first=rawInt slot/\∀{A':Around}{E':bg}{Q':Option (Value × Nat)->Shared->Prop},Q' (some (x,nx)) s->wpAny (model prog w) A' (setNext S slot i ep) Q' E' s) \/
  ∃T o c,∃vs:Array Value,∃p:Nat,∃hh:Int,first=.ref T/\s.heap.get? T=some o/\o.data=.seq vs c/\vs[i]?=some (rawInt p)/\es[p]?=some (hh,x)
def wG (prog:Program)(w:World)(s:Shared)(S:Addr)(first:Value)(i ep:Nat):Prop:=
 (∃slot:Nat,first=rawInt slot/\∀{A':Around}{E':bg}{Q':Option (Value × Nat)->Shared->Prop},Q' none s->wpAny (model prog w) A' (setNext S slot i ep) Q' E' s) \/
  ∃T o c,∃vs:Array Value,first=.ref T/\s.heap.get? T=some o/\o.data=.seq vs c/\vs[i]?=none
theorem Gq (hi:s.heap.get? I=some (qx first i S n ep))(hS:mB s.heap S es ep t)(hn:es.size=n)
  (hx:wJ prog w s S first i ep es x nx)
  (hQ:∀h',(∀b o,b≠I->s.heap.get? b=some o->h'.get? b=some o)->(h'.get? I=some (qx (Lb nx first) (i+1) S n ep))->Q (some x) { s with heap:=h' }):wpAny (model prog w) A (pyNext (.ref I)) Q E s:=by
 obtain⟨o,ho,hd⟩:=hS.ob;have hT:s.TypeIs (.ref I) "set_iterator":=⟨_,hi,rfl⟩;unfold pyNext;refine aN (wpAny_attempt (wpAny_callSpecial?_slot (name:=Str.ofString "__next__") hT slot_seti_next (wpAny_call_entry slot_seti_next hT i8 ?_ (jk _))));unfold Builtin.«set_iterator.__next__»;refine aN (bB ?_);refine aN (wpAny_fieldsOf hi rfl ?_);refine aN (wpAny_setEntries_of ho hd hS.fit ?_);dsimp only;rw[if_neg (show¬ ((es.size:Int) != (n:Int))=true by rw[hn];simp)];have fin:∀(h1:Heap)(y:Value),(∀b o,b≠I->s.heap.get? b=some o->h1.get? b=some o)->h1.get? I=some (qx y i S n ep)->y=Lb nx first ->
   ∀{E':bg},wpAny (model prog w) A.in1 (setField (.ref I) 1 (rawInt (i+1)) >>= fun _=>ret x) (fun f s'=>∃v,f=.done (.ret v)/\wpAny (model prog w) A (pure (some v)) Q E s') E' { s with heap:=h1 }:=fun h1 y k e ey E'=>by
  refine aN (wpAny_setField_rec (s:={ s with heap:=h1 }) e (by simp) fun h2 e2 sb=>bB ⟨x,rfl,bB (hQ h2 (fun b o m q=>sb.extBut b o m (k b o m q)) ?_)⟩);subst ey;exact e2
 rcases hx with⟨slot,rfl,H⟩|⟨T,o',c,vs,p,hh,rfl,hT',hd',hv,he⟩
 .show wpAny _ _ (setNext S (slot:Int).toNat (i:Int).toNat (ep:Int).toNat >>= _) _ _ _;rw[kj,kj,kj];refine aN (H ?_);refine aN (wpAny_setField_rec hi (by simp) fun h1 e1 sb=>?_);exact fin h1 (rawInt nx) (fun b o m q=>sb.extBut b o m q) e1 rfl
 .show wpAny _ _ (seqItems? (.ref T) >>= _) _ _ _;refine aN (wpAny_seqItems hT' hd' ?_);dsimp only;rw[kj,hv];show wpAny _ _ (setNextDrawn S (p:Int).toNat (ep:Int).toNat >>= _) _ _ _;rw[kj,kj];refine aN ?_;unfold setNextDrawn;refine aN (wpAny_setState_of ho hd hS.fit ?_);dsimp only;rw[if_neg (show¬ (ep != ep)=true by simp),he];exact bB (fin s.heap (.ref T) (fun _ _ _ q=>q) hi rfl)
theorem zt {h1:Heap}{Q:Option Value->Shared->Prop}{P:PySem.Fin->Shared->Prop}(hh:A.handled=none)(k:∀b o,b≠I->s.heap.get? b=some o->h1.get? b=some o)
  (hQ:∀h',(∀b o,b≠I->s.heap.get? b=some o->h'.get? b=some o)->Q none { s with heap:=h' }) :
  wpAny (model prog w) A.in1 (newExc (.type "StopIteration") [] >>= fun e=>raiseNew e) P (fun e s'=>wpAny (model prog w) A (do if<- isInstance e (.type "StopIteration")then pure none else throw e) Q E s') { s with heap:=h1 }:=by
 refine aN ?_;simp only[newExc,newTuple];refine aN (wpAny_newObj_type ?_ (by size_fits));refine aN (m:=firstArgMember _ _) (wpAny_of_eq (a:=Value.none) (by first|rfl|(simp only[firstArgMember];rfl)) ?_);refine wpAny_newObj_type ?_ (by size_fits);refine aN (wpAny_handled ?_);rw[show A.in1.handled=none from hh];refine aN (bB (wpAny_throw ?_));refine aN (wpAny_isInstance (T:="StopIteration") (b:=true) ⟨_,ie _ rfl,rfl⟩ isSubtype_stop ?_);exact bB (hQ _ fun b o m e=>fO _ (fO _ (k b o m e)))
theorem Gp {i n ep:Nat}{es:Array (Int × Value)}{t:SetTable}{Q:Option Value->Shared->Prop}(hh:A.handled=none)(hi:s.heap.get? I=some (qx first i S n ep))(hS:mB s.heap S es ep t)(hn:es.size=n)
  (hx:wG prog w s S first i ep)
  (hQ:∀h',(∀b o,b≠I->s.heap.get? b=some o->h'.get? b=some o)->Q none { s with heap:=h' }):wpAny (model prog w) A (pyNext (.ref I)) Q E s:=by
 obtain⟨o,ho,hd⟩:=hS.ob;have hT:s.TypeIs (.ref I) "set_iterator":=⟨_,hi,rfl⟩;unfold pyNext;refine aN (wpAny_attempt (wpAny_callSpecial?_slot (name:=Str.ofString "__next__") hT slot_seti_next (wpAny_call_entry slot_seti_next hT i8 ?_ (jk _))));unfold Builtin.«set_iterator.__next__»;refine aN (bB ?_);refine aN (wpAny_fieldsOf hi rfl ?_);refine aN (wpAny_setEntries_of ho hd hS.fit ?_);dsimp only;rw[if_neg (show¬ ((es.size:Int) != (n:Int))=true by rw[hn];simp)];rcases hx with⟨slot,rfl,H⟩|⟨T,o',c,vs,rfl,hT',hd',hv⟩
 .show wpAny _ _ (setNext S (slot:Int).toNat (i:Int).toNat (ep:Int).toNat >>= _) _ _ _;rw[kj,kj,kj];refine aN (H ?_);refine aN (wpAny_setField_rec hi (by simp) fun h1 e1 sb=>?_);exact zt hh (fun b o m q=>sb.extBut b o m q) hQ
 .show wpAny _ _ (seqItems? (.ref T) >>= _) _ _ _;refine aN (wpAny_seqItems hT' hd' ?_);dsimp only;rw[kj,hv];refine aN (wpAny_setField_rec hi (by simp) fun h1 e1 sb=>?_);refine aN (wpAny_setField_rec (s:={ s with heap:=h1 }) e1 (by simp) fun h2 e2 sb2=>?_);exact zt (s:=s) hh (fun b o m q=>sb2.extBut b o m (sb.extBut b o m q)) hQ
theorem lV (hby:w.params.followText "set-order" = true)(hS:mB s.heap S es ep t)(h:Q (((pickOrder (w.params.setOrder S ep) es)[i]?).map fun e=>(e.2,slot)) s) :
  wpAny (model prog w) A (setNext S slot i ep) Q E s:=by
 obtain⟨o,ho,hd⟩:=hS.ob;unfold setNext;refine aN (wpAny_setState_of ho hd hS.fit ?_);unfold setsByText;refine aN (aN (wpAny_askSetting (bB ?_)));dsimp only;rw[if_pos (show(model prog w).w.params.followText "set-order" = true from hby),if_neg (show¬ (ep != ep)=true by simp)];refine aN ?_;unfold setWalk;refine aN (wpAny_setState_of ho hd hS.fit ?_);unfold setsByText;refine aN (aN (wpAny_askSetting (bB ?_)));dsimp only;rw[if_pos (show(model prog w).w.params.followText "set-order" = true from hby)];refine aN (wpAny_askSetting (bB ?_));exact bB h
theorem jI (hby:w.params.followText "set-order" = false)(hS:mB s.heap S es ep t)(hl:t.led=true)(h1:es.size<=1)
  (h:Q (match es[SetTable.below t.place slot]?,t.place[SetTable.below t.place slot]? with|some (_,x),some j=>some (x,j+1)|_,_=>none) s) :
  wpAny (model prog w) A (setNext S slot i ep) Q E s:=by
 obtain⟨o,ho,hd⟩:=hS.ob;unfold setNext;refine aN (wpAny_setState_of ho hd hS.fit ?_);unfold setsByText;refine aN (aN (wpAny_askSetting (bB ?_)));dsimp only;rw[if_neg (show¬ (model prog w).w.params.followText "set-order" = true by rw[show(model prog w).w.params.followText "set-order" = false from hby];exact nP)];refine wpAny_ite_split (fun c=>absurd (show(!t.plain&&decide (es.size > 1))=true from c) (by rw[fH (Nat.not_lt.mpr h1),Bool.and_false];exact nP)) (fun _=>?_);refine aN ?_;show wpAny _ _ (if(!t.led&&!es.isEmpty)=true then unsupported "set:maker-not-led" else pure ()) _ _ _;rw[hl];exact bB (bB h)
theorem AM {α:Type}{next:Nat->Nat}{n k:Nat}{l:List α}{out:Array α}{x:α}(h:l[next k % l.length]?=some x):pickOrder.go next (n+1) k l out=pickOrder.go next n (k+1) (l.eraseIdx (next k % l.length)) (out.push x):=by show(match l[next k % l.length]? with|some x=>pickOrder.go next n (k+1) (l.eraseIdx (next k % l.length)) (out.push x)|none=>out)=_;rw[h]
theorem lS (next:Nat->Nat):∀(n k:Nat) (l:List α)(out:Array α),n=l.length->(pickOrder.go next n k l out).toList.Perm (out.toList++l)
 |0,k,l,out,e=>by obtain rfl:l=[]:=List.length_eq_zero_iff.mp e.symm;rw[List.append_nil];exact .refl _
 |n+1,k,[],out,e=>nomatch e
 |n+1,k,x::l,out,e=>by have hi:next k % (x::l).length<(x::l).length:=Nat.mod_lt _ (Nat.succ_pos _);rw[AM (List.getElem?_eq_getElem hi)];generalize next k % (x::l).length=i at hi ⊢;refine(lS next n (k+1) ((x::l).eraseIdx i) _ (by rw[List.length_eraseIdx,if_pos hi];exact Nat.succ.inj e)).trans ?_;rw[Array.toList_push,List.append_assoc];exact(kH (x::l) i hi).append_left _
theorem qj (next:Nat->Nat)(xs:Array α):(pickOrder next xs).toList.Perm xs.toList:=by unfold pickOrder;exact(lS next xs.size 0 xs.toList #[] (jR).symm).trans (.of_eq rfl)
inductive yu (prog:Program)(w:World)(A:Around)(S:Addr)(ss:List Str)(s:Shared):bg
 |mk (I:Addr)(s':Shared)(fp:a9)(vals:eU)(St:Nat->Heap->Prop)(hn:s.heap.get? I=none)(hfp:∀b∈fp,b=S\/s.heap.get? b=none)(hfe:∀b∈fp,∃o,s'.heap.get? b=some o)(W:Walks prog w A I fp [I] vals.length (fun i v=>vals[i]?=some v) St)(st:St 0 s'.heap)
  (hv:∃ts,StrsAre vals ts/\ts.Perm ss)(hk:∀b o,s.heap.get? b=some o->s'.heap.get? b=some o)(hs:s'.gens=s.gens/\s'.os=s.os/\s'.toks=s.toks):yu prog w A S ss s (.ref I) s'
theorem ng {es es':List (Int × Value)}(hel:ElemsOf (PySem.strKind prog w) es)(hp:(wq es).Perm ss)(p:es'.Perm es):∃ts,StrsAre (es'.map (·.2)) ts/\ts.Perm ss:=by
 refine⟨wq es', ?_,(p.map _).trans hp⟩;unfold wq;have e:(es'.map fun e=>strOf e.2)=(es'.map (·.2)).map strOf:=by rw[fv];rfl
 rw[e];refine strsAre_map _ fun v m=>?_;obtain⟨e,me,rfl⟩:=gO m;obtain⟨⟨k,hk,_⟩,_⟩:=hel e (p.mem_iff.mp me);obtain⟨t,ht⟩:=Value.isStrOf_shape hk;exact⟨k,t,ht⟩
theorem AZ (ho:s.heap.get? I=some o)(hc:o.cls=.type "set_iterator")(h:Q (.ref I) s):wpAny (model prog w) A (pyIter (.ref I)) Q E s:=by have hT:s.TypeIs (.ref I) "set_iterator":=⟨o,ho,hc⟩;refine wpAny_pyIter_slot hT jJ (wpAny_call_entry jJ hT nQ ?_ (oS _));show wpAny _ _ (ret (.ref I)) _ _ s;exact bB ⟨_,rfl, "set_iterator",_,hT,slot_seti_next.lookup,h⟩
theorem wx {es:Array (Int × Value)}{t:SetTable}{fp:a9}{vals:eU}(F:Nat->Value)(X:Heap->Prop)(hh:A.handled=none)(hI:I∈fp)(hS:S∈fp)(hIS:S≠I)(hn:es.size=n)
  (hX:∀h h',X h->(∀b∈fp,b≠I->∀o,h.get? b=some o->h'.get? b=some o)->X h')
  (Hi:∀(i:Nat) (x:Value)(s:Shared),vals[i]?=some x->mB s.heap S es ep t->X s.heap->∃nx,F (i+1)=Lb nx (F i)/\wJ prog w s S (F i) i ep es x nx)
  (Hd:∀s:Shared,mB s.heap S es ep t->X s.heap->wG prog w s S (F vals.length) vals.length ep) :
  Walks prog w A I fp [I] vals.length (fun i v=>vals[i]?=some v) (fun i h=>h.get? I=some (qx (F i) i S n ep)/\mB h S es ep t/\X h) where
 sub:=fun b hb=>by rw[aV hb];exact hI
 frame:=fun i h h' st hk=>⟨hk I hI _ st.1,st.2.1.at (hk S hS),hX h h' st.2.2 fun b m _ o e=>hk b m o e⟩
 item:=fun i s Q E hi st hQ=>by obtain⟨x,hx⟩:∃x,vals[i]?=some x:=⟨_,List.getElem?_eq_getElem hi⟩;obtain⟨nx,e1,e2⟩:=Hi i x s hx st.2.1 st.2.2;refine Gq st.1 st.2.1 hn e2 fun h' k1 k2=>hQ x h' s.toks hx ⟨e1▸k2,st.2.1.at fun o e=>k1 S o hIS e,hX _ _ st.2.2 fun b _ m o e=>k1 b o m e⟩ fun b o m e=>k1 b o (fun q=>m (List.mem_singleton.mpr q)) e
 done:=fun s Q E st hQ=>Gp hh st.1 st.2.1 hn (Hd s st.2.1 st.2.2) fun h' k=>hQ h' s.toks fun b o m e=>k b o (fun q=>m (List.mem_singleton.mpr q)) e
 self:=fun i s Q E st hQ=>AZ st.1 rfl hQ
theorem oy (f:α->β)(l:List α)(i:Nat)(h:(l.map f)[i]?=some x):∃a,l[i]?=some a/\f a=x:=by rw[List.getElem?_map]at h;exact Option.map_eq_some_iff.mp h
theorem xg {t:SetTable}(h:t.fits n=true):t.place.size=n:=by unfold SetTable.fits at h;exact eC (bH h).1
theorem re (j k:Nat):SetTable.below #[j] k=if j<k then 1 else 0:=by show(if 0<1 then(if #[j].getD ((0+1) / 2) k<k then SetTable.below.go #[j] k 0 ((0+1) / 2+1) 1 else SetTable.below.go #[j] k 0 0 ((0+1) / 2))else 0)=_;rw[if_pos Nat.one_pos];rfl
theorem AR (es:Array (Int × Value)):((List.range es.size).map fun i=>es[i]?.getD (0, .none))=es.toList:=by refine List.ext_getElem (by simp) fun i h1 h2=>?_;simp at h1;simp[h1]
theorem xP (hh:A.handled=none){S:Addr}{ss:List Str}{Q:bg}(hS:jh w s.heap S ss)(h:∀v s',yu prog w A S ss s v s'->Q v s'):wpAny (model prog w) A (pyIter (.ref S)) Q E s:=by
 obtain⟨o,es,ep,t,ho,hex,hd,he0,hp,hb,hf,hl,hpl⟩:=hS;have hel:=he0.of (prog:=prog);have hT:s.TypeIs (.ref S) "set":=⟨o,ho,hex.1⟩;have hSl:=Heap.lt_size ho;have D:mB s.heap S es ep t:=⟨⟨o,ho,hd⟩,hf⟩;refine wpAny_pyIter_slot hT PySem.F.slot_set_iter (wpAny_call_entry PySem.F.slot_set_iter hT pg ?_ (PySem.F.args_set_iter_1 _));unfold Builtin.«frozenset.__iter__» Builtin.Frozenset.slot0 Builtin.Frozenset.sizeOf setDrawn;refine aN (aN (bB (bB ?_)));refine aN (aN (wpAny_setEntries_of ho hd hf (bB ?_)));refine aN (aN (wpAny_setState_of ho hd hf ?_));unfold setsByText;refine aN (aN (wpAny_askSetting (bB (bB ?_))));dsimp only;have hge:∀b,s.heap.objs.size<=b->s.heap.get? b=none:=fun b q=>fJ q;have tail:∀(first:Value)(s1:Shared),s1.heap.get? S=some o->yu prog w A S ss s (.ref s1.heap.objs.size) { s1 with heap:=s1.heap.push (qx first 0 S es.size ep) } ->
   wpAny (model prog w) A.in1 (do let e <- setEpoch S;let v <- newFields "set_iterator" [first,rawInt 0, .ref S,rawInt es.size,rawInt e];ret v) (fun fin s'=>∃v,fin=.done (.ret v)/\∃T' r,s'.TypeIs v T'/\typeLookup (.type T') (Str.ofString "__next__")=pure (some r)/\Q v s') E s1:=fun first s1 k it=>by
  refine aN (wpAny_setEpoch_of k hd hf ?_);refine aN (wpAny_newObj_type (bB ⟨_,rfl, "set_iterator",_,⟨_,ie _ rfl,rfl⟩,slot_seti_next.lookup,h _ _ it⟩))
 have k1:∀ob:Obj,∀b o',s.heap.get? b=some o'->(s.heap.push ob).get? b=some o':=fun ob b o' e=>fO _ e;have plain:∀(vals:eU)(F:Nat->Value),(∃ts,StrsAre vals ts/\ts.Perm ss)->F 0=rawInt 0 ->
   (∀(i:Nat) (x:Value)(s:Shared),vals[i]?=some x->mB s.heap S es ep t->∃nx,F (i+1)=Lb nx (F i)/\wJ prog w s S (F i) i ep es x nx)->(∀s:Shared,mB s.heap S es ep t->wG prog w s S (F vals.length) vals.length ep) ->
   yu prog w A S ss s (.ref s.heap.objs.size) { s with heap:=s.heap.push (qx (rawInt 0) 0 S es.size ep) }:=fun vals F hv e0 Hi Hd=>by
  refine .mk _ _ [s.heap.objs.size,S] vals _ (ax _) (fun b m=>?_) (fun b m=>?_) (wx F (fun _=>True) hh dX (.tail _ (.head _)) (Nat.ne_of_lt hSl) rfl (fun _ _ _ _=>trivial) (fun i x s e d _=>Hi i x s e d) fun s d _=>Hd s d) ⟨by rw[e0];exact ie _ rfl,D.at fun o e=>k1 _ S o e,trivial⟩ hv (k1 _) ⟨rfl,rfl,rfl⟩
  .rcases bM m with rfl|m
   .exact .inr (ax _)
   .exact .inl (aV m)
  .rcases bM m with rfl|m
   .exact⟨_,ie _ rfl⟩
   .rw[aV m];exact⟨o,k1 _ S o ho⟩
 cases hby:w.params.followText "set-order" with
 |true =>
  rw[if_neg (show¬ (!(model prog w).w.params.followText "set-order" && _)=true by rw[show(model prog w).w.params.followText "set-order" = true from hby];exact nP)];refine aN (bB (tail _ s ho ?_));have pp:=qj (w.params.setOrder S ep) es;refine plain ((pickOrder (w.params.setOrder S ep) es).toList.map (·.2)) (fun _=>rawInt 0) (ng hel hp pp) rfl (fun i x s' e d=>⟨0,rfl, .inl ⟨0,rfl,fun{A' E' Q'} q=>lV hby d ?_⟩⟩) fun s' d=>.inl ⟨0,rfl,fun{A' E' Q'} q=>lV hby d ?_⟩
  .obtain⟨e1,e2,e3⟩:=oy _ _ _ e;rw[<- Array.getElem?_toList,e2];subst e3;exact q
  .rw[<- Array.getElem?_toList,Ao (by rw[dq];exact gC _)];exact q
 |false =>
  by_cases h1:es.size<=1
  .refine wpAny_ite_split (fun c=>absurd (show(!(model prog w).w.params.followText "set-order" && (!t.plain&&decide (es.size > 1)))=true from c) (by rw[fH (Nat.not_lt.mpr h1),Bool.and_false,Bool.and_false];exact nP)) fun _=>?_;refine aN (bB (tail _ s ho ?_));have led:=hl.resolve_left (by rw[hby];exact nP);have hpl:=xg hf;have none_at:∀k,es.size<=k->es[k]?=none:=fun k q=>Array.getElem?_eq_none q;refine plain (es.toList.map (·.2)) (fun i=>if i=0 then rawInt 0 else rawInt ((t.place.getD 0 0+1:Nat):Int)) (ng hel hp (.refl _)) rfl (fun i x s' e d=>?_) fun s' d=>?_
   .obtain⟨⟨hh',x'⟩,e2,e3⟩:=oy _ _ _ e;subst e3;have hi:i<es.size:=by rw[<- jR];exact(List.getElem?_eq_some_iff.mp e2).1
    obtain rfl:i=0:=Nat.lt_one_iff.mp (iu hi h1);obtain⟨j0,hj⟩:=Array.size_eq_one_iff.mp (hpl.trans (Nat.le_antisymm h1 hi));refine⟨t.place.getD 0 0+1,rfl, .inl ⟨0,rfl,fun{A' E' Q'} q=>jI hby d led h1 ?_⟩⟩;rw[hj,re,if_neg (Nat.not_lt_zero _),<- Array.getElem?_toList,e2];rw[hj]at q;exact q
   .rw[dq,jR];rcases Nat.eq_zero_or_pos es.size with z|z
    .rw[z];refine .inl ⟨0,rfl,fun{A' E' Q'} q=>jI hby d led h1 ?_⟩;rw[none_at _ (by rw[z];exact nv _)];exact q
    .have z:=Nat.le_antisymm h1 z;obtain⟨j0,hj⟩:=Array.size_eq_one_iff.mp (hpl.trans z);rw[z,hj];refine .inl ⟨j0+1,rfl,fun{A' E' Q'} q=>jI hby d led h1 ?_⟩;rw[hj,re,if_pos (Nat.lt_succ_self _),none_at _ (Nat.le_of_eq z)];exact q
  .have h1:=Nat.lt_of_not_le h1;have hpl:=hpl.resolve_left (Nat.ne_of_gt (Nat.lt_of_succ_lt h1));refine wpAny_ite_split (fun _=>?_) fun c=>absurd (show(!(model prog w).w.params.followText "set-order" && (!t.plain&&decide (es.size > 1)))=true by rw[show(model prog w).w.params.followText "set-order" = false from hby,hpl,eD h1];rfl) c;refine aN (zG es.size (List.range es.size) (List.length_range).symm fun ys dr p=>?_);have hys:ys.length=es.size:=p.length_eq.trans List.length_range;refine aN (wpAny_newTuple ?_ (by rw[dq,hys];exact fits_of_scanBound hb));generalize htup:({ cls:=.type "tuple",data:=.seq (ys.map fun i:Nat=>rawInt i).toArray }:Obj)=tup;have hfr:tup.isFreed=false:=by rw[<- htup];rfl
   have hsz:(s.heap.push tup).objs.size=s.heap.objs.size+1:=Heap.size_push ..;have hp2:(ys.map fun i=>es[i]?.getD (0, .none)).Perm es.toList:=(p.map _).trans (.of_eq (AR es));refine tail _ { s with drawn:=dr,heap:=s.heap.push tup } (k1 _ S o ho) ?_;refine .mk _ _ [(s.heap.push tup).objs.size,s.heap.objs.size,S] ((ys.map fun i=>es[i]?.getD (0, .none)).map (·.2)) _ (hge _ (by show _<=(s.heap.push tup).objs.size;rw[hsz];exact Nat.le_succ _)) (fun b m=>?_) (fun b m=>?_)
    (wx (fun _=>.ref s.heap.objs.size) (fun h=>h.get? s.heap.objs.size=some tup) hh dX (.tail _ (.tail _ (.head _))) (by rw[hsz];exact Nat.ne_of_lt (Nat.lt_succ_of_lt hSl)) rfl (fun h h' x k=>k _ (.tail _ (.head _)) (by rw[hsz];exact Nat.ne_of_lt (Nat.lt_succ_self _)) _ x) (fun i x s' e d X=>?_) fun s' d X=>?_)
    ⟨ie _ rfl,D.at fun o e=>fO _ (k1 _ S o e),fO _ (ie _ hfr)⟩ (ng hel hp hp2) (fun b o' e=>fO _ (k1 _ b o' e)) ⟨rfl,rfl,rfl⟩
   .rcases bM m with rfl|m
    .exact .inr (hge _ (by rw[hsz];exact Nat.le_succ _))
    .rcases bM m with rfl|m
     .exact .inr (ax _)
     .exact .inl (aV m)
   .rcases bM m with rfl|m
    .exact⟨_,ie _ rfl⟩
    .rcases bM m with rfl|m
     .exact⟨_,fO _ (ie _ hfr)⟩
     .rw[aV m];exact⟨o,fO _ (k1 _ S o ho)⟩
   .obtain⟨⟨hh',x'⟩,e2,e3⟩:=oy _ _ _ e;subst e3;obtain⟨q,e4,e5⟩:=oy _ _ _ e2;have hq:q<es.size:=List.mem_range.mp (p.mem_iff.mp (Ib e4));rw[Array.getElem?_eq_getElem hq]at e5;refine⟨0,rfl, .inr ⟨_,tup,0,(ys.map fun i:Nat=>rawInt i).toArray,q,hh',rfl,X,by rw[<- htup], ?_,by rw[Array.getElem?_eq_getElem hq];exact congrArg some e5⟩⟩;rw[List.getElem?_toArray,List.getElem?_map,e4];rfl
   .refine .inr ⟨_,tup,0,(ys.map fun i:Nat=>rawInt i).toArray,rfl,X,by rw[<- htup], ?_⟩;rw[List.getElem?_toArray,Ao (by rw[dq,dq,dq];exact gC _)]
theorem Ct (hT:s.TypeIs (.ref r) "set")(h:Q false s):wpAny (model prog w) A (Builtin.List.listLengthHint (.ref r)) Q E s:=by
 unfold Builtin.List.listLengthHint;refine aN (wpAny_specialOf hT PySem.F.slot_set_len.lookup ?_);generalize hid:("set.__len__" : String)=id0
 wp_delta
 rw[show splitId id0=some ("set", "__len__")from by subst hid;decide +kernel];subst hid;refine aN (wpAny_isInstance (T:="set") (b:=true) hT (by rw[isSubtype_type];kernel_rfl) ?_);refine wpAny_ite_split (fun hab=>absurd hab (by decide)) (fun _=>?_);refine wpAny_ite_split (fun _=>?_) (fun hab=>absurd (by decide +kernel) hab);refine aN (wpAny_typeOf hT ?_);exact bB h
theorem uE (hh:A.handled=none)(hS:jh w s.heap S ss)(hl:ss.length<=1000)
  (h:∀vals s',(∃ts,StrsAre vals ts/\ts.Perm ss)->(∀b o,s.heap.get? b=some o->s'.heap.get? b=some o)->(s'.gens=s.gens/\s'.os=s.os/\s.toks<=s'.toks)->Q vals s'):wpAny (model prog w) A (collect (.ref S)) Q E s:=by
 obtain⟨o,ho,hc,hds,hdn⟩:=hS.obj;have hSl:=Heap.lt_size ho;have hh1:A.in1.handled=none:=hh;unfold collect;refine aN (wpAny_runValue (codeAny_builtin entry_proto_collect' ?_));rw[Around.under_plainId PySem.F.plain_proto_collect _];show wpAny _ A.in1 (newList [] >>= fun l=>again (.builtin "list.__iadd__" ⟨[l, .ref S],[]⟩)) _ _ s;refine aN (wpAny_newObj_type ?_);refine bB ⟨plainId_quiet PySem.F.plain_list_iadd _,codeAny_builtin entry_list_iadd' ?_⟩;rw[Around.under_plainId PySem.F.plain_list_iadd _];show wpAny _ A.in1 (Builtin.List.listExtendWith (.ref s.heap.objs.size) (.ref S) (.ref s.heap.objs.size)) _ _ _;have hL:(s.heap.push { cls:=.type "list",data:=.seq ([]:eU).toArray }).get? s.heap.objs.size=some { cls:=.type "list",data:=.seq #[] }:=ie _ rfl;generalize hH1:s.heap.push { cls:=.type "list",data:=.seq ([]:eU).toArray }=h1 at hL ⊢;have k1:∀b o,s.heap.get? b=some o->h1.get? b=some o:=fun b o e=>by rw[<- hH1];exact fO _ e
 have hS1:jh w h1 S ss:=hS.at (k1 S);have hLS:s.heap.objs.size≠S:=Nat.ne_of_gt hSl;unfold Builtin.List.listExtendWith;refine aN (wpAny_typeOf (T:="set") ⟨o,k1 S o ho,hc⟩ ?_);have e1:Builtin.List.listSameRef (.ref s.heap.objs.size) (.ref S)=false:=by simp[Builtin.List.listSameRef,hLS]
 have e2:(Value.type "set" == Value.type "list")=false:=by decide
 have e3:(Value.type "set" == Value.type "tuple")=false:=by decide
 simp -iota only[e1,e2,e3,Bool.or_false,Bool.false_eq_true,if_false];refine aN (xP (A:=A.in1) (s:={ s with heap:=h1 }) hh hS1 fun v s2 it=>?_);obtain⟨I,s2,fp,vals,St,hIn,hfp,hfe,W,st,hv,hk,hs⟩:=it;have hT2:s2.TypeIs (.ref S) "set":=⟨o,hk S o (k1 S o ho),hc⟩;refine aN (wpAny_holding (Ct hT2 ?_));have hL2:=hk _ _ hL;have hlen:vals.length=ss.length:=by obtain⟨ts,q1,q2⟩:=hv;rw[q1.len_eq,q2.length_eq]
 have hLf:s.heap.objs.size∉fp:=fun m=>by
  rcases hfp _ m with q|q
  .exact hLS q
  .rw[show h1.get? s.heap.objs.size=none from q]at hL;exact nn hL
 have key:∀(s3:Shared)(c₁:Nat),St 0 s3.heap->(∀b o,s.heap.get? b=some o->s3.heap.get? b=some o)->s3.gens=s.gens/\s3.os=s.os/\s.toks<=s3.toks->s3.heap.get? s.heap.objs.size=some { cls:=.type "list",data:=.seq #[] c₁ } ->
   codeAny (model prog w) A (.builtin "list.extend.loop" ⟨[.ref s.heap.objs.size, .ref I, .ref s.heap.objs.size],[]⟩) (fun r s'=>match r with
    |.ok (.ret v)=>wpAny (model prog w) A (match v with
     |.ref a=>do
      let o <- load a
      match o.data with
      |.seq xs _=>pure xs.toList
      |_=>unsupported "internal:collect"
     |_=>unsupported "internal:collect") Q E s'
    |.ok _=>False
    |.error e=>E e s') s3:=fun s3 c₁ st3 k3 e3 hL3=>by
  refine codeAny_extend_loopS W.toS (by rw[hlen];exact fits_of_scanBound (fy hl (by decide))) _ hLf _ vals.length 0 s3 #[] c₁ rfl (nv _) st3 hL3 (ItemsOf.nil _) fun s' acc' c' hm hL' hacc=>?_;refine aN (wpAny_load hL' (bB ?_));have ea:acc'.toList=vals:=by
   refine List.ext_getElem? fun j=>?_;rw[Array.getElem?_toList];cases e:acc'[j]? with
   |some x=>exact(hacc.2 j x e).symm
   |none=>exact(Ao (by rw[<- hacc.1];exact Array.getElem?_eq_none_iff.mp e)).symm
  rw[ea];refine h vals s' hv (fun b o e=>hm.heap b o (fun m=>?_) (k3 b o e)) ⟨hm.gens.trans e3.1,hm.os.trans e3.2.1,az e3.2.2 hm.toks⟩;rcases bM m with rfl|m
  .rw[ax]at e;exact nn e
  .rw[aV m]at e;have:=k1 _ _ e;rw[show h1.get? I=none from hIn]at this;exact nn this
 have k2:∀b o,s.heap.get? b=some o->s2.heap.get? b=some o:=fun b o e=>hk b o (k1 b o e);have e2:s2.gens=s.gens/\s2.os=s.os/\s.toks<=s2.toks:=⟨hs.1,hs.2.1,Nat.le_of_eq hs.2.2.symm⟩;refine wpAny_ite_split (fun _=>?_) (fun _=>bB ⟨plainId_quiet PySem.F.plain_extend_loop _,key s2 _ st k2 e2 hL2⟩);refine aN (wpAny_rule ?_);refine aN ?_;show wpAny _ _ (updateSeq s.heap.objs.size (·.push .none) >>= fun _=>updateSeq s.heap.objs.size (·.pop)) _ _ _;refine aN (wpAny_updateSeq hL2 rfl ?_);have hL3:=Heap.get?_update_self (Obj.mapSeq (·.push Value.none)) hL2 rfl;refine wpAny_updateSeq (hz:=by seq_fits) hL3 rfl ?_;have hL4:=Heap.get?_update_self (Obj.mapSeq (·.pop)) hL3 rfl;have oth:∀b o,b≠s.heap.objs.size->s2.heap.get? b=some o->((s2.heap.update s.heap.objs.size (Obj.mapSeq (·.push Value.none))).update s.heap.objs.size (Obj.mapSeq (·.pop))).get? b=some o:=fun b o n e =>
  (Heap.get?_update_other _ _ n.symm).trans ((Heap.get?_update_other _ _ n.symm).trans e)
 refine bB ⟨plainId_quiet PySem.F.plain_extend_loop _,key _ _ (W.frame 0 _ _ st fun b m o e=>oth b o (fun q=>hLf (q▸m)) e) (fun b o e=>oth b o (Nat.ne_of_lt (Heap.lt_size e)) (k2 b o e)) e2 hL4⟩
theorem yb (hh:A.handled=none)(hS:jh w s.heap S ss)(hl:ss.length<64)
  (h:∀D s' (out:Array Value) e,StrsAre out.toList (iz ss)->s.heap.get? D=none->s'.heap.get? D=some (seqObj "list" out e)->(∀b o,s.heap.get? b=some o->s'.heap.get? b=some o)->(s'.gens=s.gens/\s'.os=s.os/\s.toks<=s'.toks)->Q (.ref D) s') :
  wpAny (model prog w) A (call (.builtin "sorted") [.ref S]) Q E s:=by
 refine Calls.call_function_entry kind_sorted plain_sorted entry_sorted (args_sorted1 _) ?_;unfold Builtin.«sorted»;refine aN (m:=checkCount "sorted" 1 1 _) (bB ?_);refine aN (uE (A:=A.in1) hh hS (az (gp hl) (by decide)) fun vals s1 hv k e=>?_);obtain⟨ts,h1,h2⟩:=hv;have hlen:vals.length<64:=by rw[h1.len_eq,h2.length_eq];exact hl
 refine aN (wpAny_newList ?_ (az (gp hlen) (by decide)));have hoL:(s1.heap.push (seqObj "list" vals.toArray 0)).get? s1.heap.objs.size=some (seqObj "list" vals.toArray 0):=ie _ rfl;have fr:s.heap.get? s1.heap.objs.size=none:=bA (fun o e=>k _ o e) (ax _);refine aN (wpAny_holding (wpAny_call_entry slot_list_sort ⟨_,hoL,rfl⟩ entry_list_sort (list_sort_treeK PyProof.Rows.strKind_oneLt hoL h1.keysOf (fun v₁ v₂ rest q=>keyKind_strs (by rw[<- q];exact h1)) hlen fun st' a1 a2=>⟨_,rfl, ?_⟩) (args_list_sort _)));obtain⟨ss',b1,b2,b3⟩:=sorted_out_str h1 a1 a2;obtain⟨e',he⟩:=sortedHeap_at (vs:=vals) (out:=(arrOf st').map (·.2)) hoL;rw[wb (b2.trans h2) b3]at b1;refine bB ⟨_,rfl,h _ _ _ e' b1 fr he (fun b o q=>?_) e⟩;have lt:=Heap.lt_size (k b o q);rw[sortedHeap_old (Nat.ne_of_lt lt) (by rw[Heap.size_push];exact Nat.lt_succ_of_lt lt)];exact fO _ (k b o q)
end
end
section
theorem A5 (l:List Str)(d:D):(qC l d).length<=l.length+1:=by
 cases d with
 |str x =>
  show(if l.any (· == x)then l else l++[x]).length<=_;by_cases c:l.any (· == x)=true
  .rw[if_pos c];exact Nat.le_succ _
  .rw[if_neg c,lla];exact gC _
 |_=>exact Nat.le_succ _
theorem mY:∀(pre:List D)(l:List Str),(pre.foldl qC l).length<=l.length+pre.length
 |[],_=>gC _
 |d::pre,l=>az (mY pre _) (by rw[nR];have:=A5 l d;lia)
section
variable {G:GC}{c:CK}{O:a9}{h h':Heap}{Dd:Addr}{pre:List D}
def bz (G:GC)(c:CK)(O:a9)(h:Heap)(Dd:Addr)(pre:List D):Prop:=match c with
 |.list _=>∃vs:Array Value,h.PlainList Dd vs/\ai G.w O h vs.toList pre
 |.set _=>jh G.w h Dd (kT pre)/\pre.all hZ=true
noncomputable def pQ (c:CK):Nat:=match c with
 |.list _=>16777216
 |_=>1000
theorem bz.obj (x:bz G c O h Dd pre):∃o,h.get? Dd=some o/\EC o/\gu o:=by
 cases c with
 |list elt=>obtain⟨vs,⟨n,e⟩,_⟩:=x;exact⟨_,e,ir rfl rfl, .inl nofun⟩
 |set elt =>
  obtain⟨o,e,c,⟨es,ep,t,d⟩,_⟩:=x.1.obj;exact⟨o,e,⟨fun xs n _ q=>(by rw[d]at q;cases q),fun vs _ q=>(by rw[d]at q;cases q)⟩, .inl (by rw[c];nofun)⟩
theorem bz.move (x:bz G c O h Dd pre)(e:∀o,h.get? Dd=some o->h'.get? Dd=some o)(r:∀vs,ai G.w O h vs pre->ai G.w O h' vs pre):bz G c O h' Dd pre:=by
 cases c with
 |list elt=>obtain⟨vs,⟨n,q⟩,y⟩:=x;exact⟨vs,⟨n,e _ q⟩,r _ y⟩
 |set elt=>exact⟨x.1.at e,x.2⟩
theorem bz.sub (x:bz G c O h Dd pre)(k:∀a∈O',a∈O):bz G c O' h Dd pre:=by
 cases c with
 |list elt=>obtain⟨vs,q,y⟩:=x;exact⟨vs,q,y.sub k⟩
 |set elt=>exact x
theorem bz.keep (x:bz G c O h Dd pre)(k:eh h h'):bz G c O h' Dd pre:=by obtain⟨o,e,_,q⟩:=x.obj;exact x.move (fun o' e'=>by rw[e]at e';obtain rfl:=aC e';exact k _ _ e q) fun vs r=>r.keep k
theorem bz.but (x:bz G c O h Dd pre)(k:aI W h h')(hn:bG O W h)(m:Dd∉W):bz G c O h' Dd pre:=by obtain⟨o,e,_,q⟩:=x.obj;exact x.move (fun o' e'=>by rw[e]at e';obtain rfl:=aC e';exact k _ _ m e q) fun vs r=>r.but k hn
end
end
section
section
variable {G:GC}{A:Around}{z:Bool}{env:Env}{own:dK}{O:a9}{ρ:aB}{d:D}
theorem di.iter (I:di G A env own O ρ s)(hw:∀b∈wr,∀o,s.heap.get? b=some o->Bm false o)(hO:∀b∈wr,b∉O)(h0:∀b∈wr,G.h₀.get? b=none)
  (k:∀b o,b∉wr->s.heap.get? b=some o->h'.get? b=some o)(p:0<tk):di G A env own O ρ { s with heap:=h',toks:=tk }/\bG O wr s.heap/\bl G wr s { s with heap:=h',toks:=tk }:=by
 obtain⟨a,b,_⟩:=I.iterZ (z:=false) hw (fun q=>Bool.noConfusion q) hO h0 k p;exact⟨a,ni.turn fun b m o e=>(hw b m o e).plain,b⟩
def lk (G:GC)(A:Around)(c:CK)(gens:List Comprehension)(scope:Scope)(pos:Pos)(k:Nat)(ifs:dU)(Dd:Addr)(env:Env)(K:Shared->Prop)(E:bg)(s:Shared):Prop:=
 wpAny (br G) A (Ea ifs env) (fun ok s4=>if ok=true then wpAny (br G) A (js c gens scope pos k Dd env) (fun _ s5=>K s5) E s4 else K s4) E s
def sG (G:GC)(A:Around)(c:CK)(body:(Shared->Prop)->(Value->Shared->Prop)->Shared->Prop)(env:Env)(own:dK)(O W:a9)(Dd:Addr)(ρ:aB)(out:List D):Prop:=
 ∀(s:Shared)(pre:List D),di G A env own O ρ s->bz G c O s.heap Dd pre->pre.length+out.length<=pQ c ->
  ∀(K:Shared->Prop)(E:bg),(∀s',bl G W s s'->di G A env own O ρ s'->bz G c O s'.heap Dd (pre++out)->K s')->body K E s
theorem nu (h:eQ f (x::xs)=some out):∃a b,f x=some a/\eQ f xs=some b/\out=a++b:=
 au h fun a h1 h=>au h fun b h2 h=>⟨a,b,h1,h2,(aC h).symm⟩
inductive GP (G:GC)(A:Around)(c:CK)(env:Env)(own:dK)(O wW:a9)(Dd:Addr)(ρ:aB)(St:Nat->Heap->Prop)(f:D->Option (List D))(ds es out pre:List D)(vs:eU)(s:Shared)(n:Nat)(s':Shared):Prop
 |mk (i:Nat) (a b:List D)(hi:i<=ds.length)(hn:n=ds.length+1-i)(hgb:eQ f (ds.drop i)=some b)(hab:out=a++b)(sx:bl G wW s s')(Iv':di G A env own O ρ s')(st':St i s'.heap)(rv':ai G.w O s'.heap vs es)
  (ac':bz G c O s'.heap Dd (pre++a))
theorem zU {tg:aH}{I Dd:Addr}{fp wr WC W:a9}{ds es:List D}{vs:eU}{St:Nat->Heap->Prop}{P Md:Nat->Value->Heap->Prop}
  {f:D->Option (List D)}{out pre:List D}{s:Shared}{R:Result->Shared->Prop}
  (hg:gens[k]?=some ⟨target,iter,ifs,0⟩)(hg':∀g',gens[k+1]?=some g'->g'.is_async=0)
  (ht:cQ G env own target tg)(hno:∀n∈tg,ρ.get n=none)(hWC:Hu env G WC tg)(hDW:Dd∉WC)(hsub:∀a∈WC,a∈W)
  (it:sI G A z target I fp wr ds vs es St P Md)(st:St 0 s.heap)(rv:ai G.w O s.heap vs es)(hfp:∀b∈fp,b∉W)(hwO:∀b∈wr,b∉O)(hw0:∀b∈wr,G.h₀.get? b=none)(hfe:∀b∈fp,∃o,s.heap.get? b=some o)
  (hDO:Dd∈O)(hWO:∀a∈W,a∈O)(hWM:∀s pre,di G A env own O ρ s->bz G c O s.heap Dd pre->bG O W s.heap)
  (hbody:∀x ρ' a,x∈ds->bE ρ tg x=some ρ'->f x=some a->sG G A c (lk G A c gens scope pos k ifs Dd env) env own O W Dd ρ' a)(hf:eQ f ds=some out)(hf':∀x∈ds,(f x).isSome->∃ρ',bE ρ tg x=some ρ')
  (hsub':∀x ρ',bE ρ tg x=some ρ'->∀n d,ρ.get n=some d->ρ'.get n=some d)
  (hz:z=true->(∀n d,ρ.get n=some d->a8 d=true)/\(∀d∈es,a8 d=true)/\∀d∈pre++out,a8 d=true)
  (Iv:di G A env own O ρ s)(ac:bz G c O s.heap Dd pre)(hlen:pre.length+out.length<=pQ c)
  (q:∀s',bl G (wr++W) s s'->di G A env own O ρ s'->bz G c O s'.heap Dd (pre++out)->R (.ok .next) s') :
  codeAny (br G) A (.compLoop (c.expr gens scope pos) k (.ref I) (.ref Dd) env) R s:=by
 have T:=it.turns;refine codeAny_loop (by cases c <;> rfl)
  (GP G A c env own O (wr++W) Dd ρ St f ds es out pre vs s) (fun n s' hI=>?_) (ds.length+1)
  ⟨0,[],out,nv _,rfl,by simpa using hf,rfl, .refl Iv.base Iv.pos,Iv,st,rv,by simpa using ac⟩
 obtain⟨i,a,b,hi,rfl,hgb,hab,sx,Iv',st',rv',ac'⟩:=hI;rw[c.den_loop,c.under_loop];refine wpAny_noted (uF hg hg' ?_);by_cases hlt:i<ds.length
 .refine wpAny_with_toks (n:=1) Iv'.pos (T.item i _ _ _ hlt st' fun v h1 tk hMd hk1 p1=>?_);refine wpAny_with_toks (n:=1) p1 (T.go i v _ _ _ hMd fun h2 hP st2 hk2 p2=>?_);have hk:∀b o,b∉wr->s'.heap.get? b=some o->h2.get? b=some o:=fun b o m e=>hk2 b o m (hk1 b o m e);obtain⟨Iv2,sx2,t2⟩:=Iv'.iterZ (fun b m=>it.wrc i _ st' b m) (fun q=>(hz q).1) hwO hw0 hk p2;have rv2:ai G.w O h2 vs es:=t2 _ _ (fun q=>(hz q).2.1) rv';have hDwr:Dd∉wr:=fun m=>hwO _ m hDO;have ac2:bz G c O h2 Dd (pre++a):=ac'.move (fun o e=>hk _ o hDwr e) fun vs=>t2 _ _ fun q d m=>(hz q).2.2 d (by rw[hab,<- List.append_assoc];exact mv _ m);have hx:ds[i]?=some ds[i]:=List.getElem?_eq_getElem hlt;have ri:=it.item O h2 i v _ rv2 hP hx;have hdrop:ds.drop i=ds[i]::ds.drop (i+1):=List.drop_eq_getElem_cons hlt;rw[hdrop]at hgb;obtain⟨a1,b1,hfa,hgb1,rfl⟩:=nu hgb;have hmem:ds[i]∈ds:=List.getElem_mem hlt;obtain⟨ρ',hb⟩:=hf' _ hmem (by rw[hfa];rfl);refine ft ht Iv2 ri hb hWC fun s3 x3 k3 Iv3=>?_;have frame:∀(t t':Shared),(∀j,St j t.heap->aI W t.heap t'.heap->St j t'.heap):=fun t t' j hst hkb =>
   T.frame j _ _ hst fun b hb o e=>hkb b o (hfp b hb) e (it.solid j _ hst b hb o e)
  have st3:=frame { s' with heap:=h2,toks:=tk } s3 _ st2 (x3.keep.mono hsub);have rv3:=k3 _ _ rv2;have ac3:bz G c O s3.heap Dd (pre++a):=by obtain⟨o,e,_,sd⟩:=ac2.obj;exact ac2.move (fun o' e'=>by rw[e]at e';obtain rfl:=aC e';exact x3.keep _ _ hDW e sd) fun vs r=>k3 _ _ r
  have hl1:out.length=a.length+(a1.length+b1.length):=by rw[hab];simp
  have hbd:=hbody _ ρ' a1 hmem hb hfa s3 (pre++a) Iv3 ac3 (by rw[lla];exact az (Nat.le_of_eq (Nat.add_assoc _ _ _)) (az (Nat.add_le_add_left (by rw[hl1];exact Nat.add_le_add_left (je _ _) _) _) hlen));have fin:∀s5,bl G W s3 s5->di G A env own O ρ' s5->bz G c O s5.heap Dd (pre++a++a1) ->
    (∃m,m<ds.length+1-i/\GP G A c env own O (wr++W) Dd ρ St f ds es out pre vs s m s5):=fun s5 x5 Iv5 ac5=>by
   have tW:bG O W s3.heap:=hWM s3 (pre++a) ⟨Iv3.ok,Iv3.hh,Iv3.base,Iv3.pos,Iv3.ov,Iv3.envr.weaken (hsub' _ _ hb)⟩ ac3;refine⟨ds.length+1-(i+1),Nat.sub_lt_sub_left (Nat.lt_succ_of_lt hlt) (Nat.lt_succ_self i),i+1,a++a1,b1,hlt,rfl,hgb1,by rw[hab];simp, ?_,⟨Iv5.ok,Iv5.hh,Iv5.base,Iv5.pos,Iv5.ov,Iv5.envr.weaken (hsub' _ _ hb)⟩,frame s3 s5 _ st3 x5.keep,rv3.but x5.keep tW,by simpa using ac5⟩;exact sx.trans (((sx2.mono fun a m=>mv _ m).trans (x3.mono fun a m=>kK _ (hsub a m))).trans (x5.mono fun a m=>kK _ m))
  exact hbd _ _ fun s5 x5 Iv5 ac5=>bB ⟨by cases c <;> rfl,fin s5 x5 Iv5 ac5⟩
 .have hi':i=ds.length:=Nat.le_antisymm hi (Nat.not_lt.mp hlt);subst hi';have hb0:b=[]:=by rw[List.drop_length]at hgb;obtain rfl:=aC hgb;rfl
  subst hb0;refine wpAny_with_toks (n:=1) Iv'.pos (T.done _ _ _ st' fun h1 tk hk p1=>?_);obtain⟨Iv2,sx2,t2⟩:=Iv'.iterZ (fun b m=>it.wrc _ _ st' b m) (fun q=>(hz q).1) hwO hw0 hk p1;have hDwr:Dd∉wr:=fun m=>hwO _ m hDO;rw[List.append_nil]at hab;subst hab;exact q _ (sx.trans (sx2.mono fun a m=>mv _ m)) Iv2 (ac'.move (fun o e=>hk _ o hDwr e) fun vs=>t2 _ _ fun q=>(hz q).2.2)
end
end
section
section
variable {w:World}{O:a9}{h:Heap}
theorem ai.split:∀{xs ys:List D}{us vs:eU},us.length=xs.length->ai w O h (us++vs) (xs++ys)->ai w O h us xs/\ai w O h vs ys
 |[],ys,us,vs,e,r=>by obtain rfl:=List.length_eq_zero_iff.mp e;exact⟨.nil,r⟩
 |x::xs,ys,[],vs,e,r=>by cases e
 |x::xs,ys,u::us,vs,e,r=>by obtain⟨a,b⟩:=ai.split (Nat.succ.inj e) (ai.tail r);exact⟨.cons (ai.head r) a,b⟩
end
theorem EH {P:Addr->Prop}{a b c d:Addr}(ha:P a)(hb:P b)(hc:P c)(hd:P d):∀x∈[a,b,c,d],P x:=
 List.forall_mem_cons.mpr ⟨ha,List.forall_mem_cons.mpr ⟨hb,List.forall_mem_cons.mpr ⟨hc,List.forall_mem_cons.mpr ⟨hd,fun _ m=>nomatch m⟩⟩⟩⟩
theorem Hw {P:Addr->Prop}{a b c d e f g:Addr}(ha:P a)(hb:P b)(hc:P c)(hd:P d)(he:P e)(hf:P f)(hg:P g):∀x∈[a,b,c,d,e,f,g],P x:=
 List.forall_mem_cons.mpr ⟨ha,List.forall_mem_cons.mpr ⟨hb,List.forall_mem_cons.mpr ⟨hc,EH hd he hf hg⟩⟩⟩
theorem gw {h:Heap}{a:Addr}{o:Obj}(e:h.get? a=some o){P:Obj->Prop}(k:P o):∀o',h.get? a=some o'->P o':=fun o' e'=>aC (e.symm.trans e')▸k
section
variable {G:GC}{A:Around}{O:a9}{s:Shared}{tg:Expr}{n:Nat}{l1 l2:Addr}{us vs:Array Value}{xs ys:List D}
theorem FH (hh:A.handled=none)(B:aX G s.heap)(p:0<s.toks)(hn:wI tg=true){strict:Bool}{h':Heap}{a b:Value}(e0:s.heap.objs.size=n)(q1:s.heap.IsList l1 us)(q2:s.heap.IsList l2 vs)(r1:ai G.w O s.heap us.toList xs)(r2:ai G.w O s.heap vs.toList ys)
  (o1:strict=true->l1∉O)(o2:strict=true->l2∉O)(hz:IsZip h' (n+4) (n+2) (n+3) .none)(hTI:IsPair h' (n+2) (.ref n) (.ref (n+1))) (hTO:IsPair h' (n+3) a b)(h1:h'.IsListIter n l1 0)(h2:h'.IsListIter (n+1) l2 0)(hk:∀b o,s.heap.get? b=some o->h'.get? b=some o)
  (nt:∀d∈xs++ys,a8 d=true)(hlen:xs.length<=16777216):zK G A true O tg ((xs.zip ys).map fun p=>.tuple [p.1,p.2]) strict s (n+4) { s with heap:=h' }:=by
 obtain⟨es,k,pp,rfl⟩:=rM (G:=G) (A:=A) hn;have a1:l1<n:=by obtain⟨_,e,_⟩:=q1;exact e0▸Heap.lt_size e
 have a2:l2<n:=by obtain⟨_,e,_⟩:=q2;exact e0▸Heap.lt_size e
 have W:=(WalksT.zip2 (prog:=G.prog) (w:=G.w) hh (n+4) (n+2) (n+3) n (n+1) l1 l2 (PyProof.Rows.zipApart_new a1 a2) us vs).toU;have e:min us.size vs.size=((xs.zip ys).map fun p=>PyData.tuple [p.1,p.2]).length:=by rw[dq,List.length_zip,<- r1.length,<- r2.length,jR,jR]
 have hl:((xs.zip ys).map fun p=>PyData.tuple [p.1,p.2]).length<=16777216:=by rw[dq,List.length_zip];exact az (Nat.min_le_left _ _) hlen
 rw[e]at W;have fr:∀{k},s.heap.get? (n+k)=none:=fun{k}=>fJ (e0▸je _ _);refine⟨.all B hk p,hl,_,_,us.toList++vs.toList,xs++ys,_,_,_,⟨KTurns.ofWalksU (elts:=es) (k:=k) (pos:=pp) W,W.self,fun O' h i v d r' hP e=>?_,fun i h st=>?_,fun i h st=>?_,fun i h st=>?_⟩,
  ⟨hz,hTI,⟨_,_,hTO⟩,h1,h2,q1.at fun o e=>hk _ o e,q2.at fun o e=>hk _ o e⟩,(r1.append r2).keep (.of hk),EH fr fr (fr (k:=0)) fr, ?_,Hw (.inl fr) (.inl fr) (.inl fr) (.inl (fr (k:=0))) (.inl fr) (.inr (.inl o1)) (.inr (.inl o2)),fun _=>nt⟩
 .obtain⟨T,vals,rfl,⟨x,y,hx,hy,rfl⟩,hT⟩:=hP;rw[List.getElem?_map]at e;obtain⟨pr,hp,rfl⟩:=Option.map_eq_some_iff.mp e;obtain⟨g1,g2⟩:=List.getElem?_zip_eq_some.mp hp;obtain⟨ra,rb⟩:=ai.split r1.length r';obtain⟨v1,e1,k1⟩:=ra.get i _ g1;obtain⟨v2,e2,k2⟩:=rb.get i _ g2;rw[Array.getElem?_toList]at e1 e2;refine .tuple_of (Nat.le_of_ble_eq_true rfl) hT ?_;exact .cons (aC (hx.symm.trans e1)▸k1) (.cons (aC (hy.symm.trans e2)▸k2) .nil)
 .obtain⟨c1,c2,⟨_,_,c3⟩,⟨_,c4,d4,_⟩,⟨_,c5,d5,_⟩,⟨_,c6,d6,_⟩,⟨_,c7,d7,_⟩⟩:=st;exact Hw (gw c1 (be rfl)) (gw c2 (be rfl)) (gw c3 (be rfl)) (gw c4 (be d4)) (gw c5 (be d5)) (gw c6 (be d6)) (gw c7 (be d7))
 .obtain⟨c1,_,⟨_,_,c3⟩,⟨_,c4,d4,f4⟩,⟨_,c5,d5,f5⟩,_⟩:=st;exact EH (gw c1 (gN rfl rfl (by decide))) (gw c3 (.inr ⟨rfl,rfl,_,_,rfl⟩)) (gw c4 (gN d4 f4 (by decide))) (gw c5 (gN d5 f5 (by decide)))
 .obtain⟨c1,_,⟨_,_,c3⟩,⟨_,c4,_⟩,⟨_,c5,_⟩,_⟩:=st;exact EH ⟨_,c1⟩ ⟨_,c3⟩ ⟨_,c4⟩ ⟨_,c5⟩
 .obtain⟨_,c4,_⟩:=h1;obtain⟨_,c5,_⟩:=h2;obtain⟨_,c6,_⟩:=q1;obtain⟨_,c7,_⟩:=q2;exact Hw ⟨_,hz⟩ ⟨_,hTI⟩ ⟨_,hTO⟩ ⟨_,c4⟩ ⟨_,c5⟩ ⟨_,hk _ _ c6⟩ ⟨_,hk _ _ c7⟩
end
end
section
section
variable {G:GC}{A:Around}{z:Bool}{env:Env}{own:dK}{O:a9}{ρ:aB}{d:D}{tg:Expr}{ds:List D}
theorem zK.after (x:Ext G s s1)(g:zK G A z O tg ds strict s1 I s'):zK G A z O tg ds strict s I s':=
 ⟨x.trans g.ext,g.len,let⟨fp,wr,vs,es,St,P,Md,a,b,c,d,e,f,i⟩:=g.it;⟨fp,wr,vs,es,St,P,Md,a,b,c,fun b m=>x.back b (d b m),e,fun b m=>(f b m).imp (x.back b) id,i⟩⟩
def i0 (G:GC)(A:Around)(z:Bool)(iter:Expr)(env:Env)(own:dK)(O:a9)(ρ:aB)(tg:Expr)(ds:List D)(strict:Bool):Prop:=∀s,di G A env own O ρ s->Ht G A z O tg (eval iter env) s ds strict
theorem Kl (h:bw G A iter env own O ρ d)(hd:tq d=some ds)(hn:ch tg=true):i0 G A false iter env own O ρ tg ds strict:=fun s I Q E q =>
 h s I _ _ fun v s1 x1 r1=>CH I.hh x1.base x1.pos r1 hd hn fun I' s' g=>q I' s' (g.after x1)
theorem Gu (N:gt G env n x)(ho:n∈own.ns)(hg:ρ.get n=some (.list ds))(hn:ch tg=true):i0 G A false (.Name x pos) env own O ρ tg ds false:=fun s I Q E q =>
 jF N I ho hg fun a vs y m z l r=>rI I.hh I.base I.pos hn z l.isList r (fun h=>by exact ff h) q
theorem Gv (hk:env.kindOf "reversed" = some .globalImplicit)(hst:bk iter=true)(h:bw G A iter env own O ρ (.list ds))(hn:wH tg=true):i0 G A false (.Call (.Name "reversed" np) [iter] [] pos) env own O ρ tg ds.reverse strict:=fun s I Q E q=>by
 have hm:("reversed" : Str)∈cC:=by decide +kernel
 refine wpAny_Call_Name_kw (d8 I hk (iD hm) (I.ok.nb _ hm) (show bootBuiltins "reversed" = some (.type "reversed") by decide +kernel) (iE hm) ?_);refine PyProof.Rows.callWith_type (cT (xs:=[iter]) (show(bk iter&&true)=true by rw[hst];rfl) pos env) (bc (show(bk iter&&true)=true by rw[hst];rfl) ?_);rw[cr hst];refine spliced_cons (h s I _ _ fun v s1 x1 r1=>spliced_nil ?_);have hl:=r1.list_len;obtain⟨a,vs,rfl,ha,l,rr⟩:=r1.list_inv;exact CF I.hh x1.base x1.pos hn hl l rr (fun _=>ha) fun I' s' g=>q I' s' (g.after x1)
theorem D0 (hk:env.kindOf "enumerate" = some .globalImplicit)(hst:bk iter=true)(h:bw G A iter env own O ρ (.list ds))(hn:wI tg=true):i0 G A false (.Call (.Name "enumerate" np) [iter] [] pos) env own O ρ tg (rA ds) strict:=fun s I Q E q=>by
 have hm:("enumerate" : Str)∈cC:=by decide +kernel
 refine wpAny_Call_Name_kw (d8 I hk (iD hm) (I.ok.nb _ hm) (show bootBuiltins "enumerate" = some (.type "enumerate") by decide +kernel) (iE hm) ?_);refine PyProof.Rows.callWith_type (cT (xs:=[iter]) (show(bk iter&&true)=true by rw[hst];rfl) pos env) (bc (show(bk iter&&true)=true by rw[hst];rfl) ?_);rw[cr hst];refine spliced_cons (h s I _ _ fun v s1 x1 r1=>spliced_nil ?_);have hl:=r1.list_len;obtain⟨a,vs,rfl,ha,l,rr⟩:=r1.list_inv;exact Ah I.hh x1.base x1.pos hn hl l rr (fun _=>ha) fun I' s' g=>q I' s' (g.after x1)
theorem Ez {es ds:List D}(h:zip2 es=some ds):∃xs ys,es=[.list xs, .list ys]/\(∀d∈xs++ys,a8 d=true)/\ds=(xs.zip ys).map fun p=>.tuple [p.1,p.2]:=by obtain⟨x,y,rfl,h⟩:=o8 h;obtain⟨xs,rfl,h⟩:=d9 h;obtain⟨ys,rfl,h⟩:=d9 h;exact fj (P:=fun ds=>∃us vs,[PyData.list xs,PyData.list ys]=[PyData.list us,PyData.list vs]/\(∀d∈us++vs,a8 d=true)/\ds=(us.zip vs).map fun p=>.tuple [p.1,p.2]) h fun c=>⟨xs,ys,rfl,bQ c,rfl⟩
theorem Gw {args:dU}{np pos:Pos}{es ds:List D}(hk:env.kindOf "zip" = some .globalImplicit)(hst:ct args=true)(h:kZ G A args env own O ρ es)(hz:zip2 es=some ds)(hn:wI tg=true){strict:Bool} :
  i0 G A true (.Call (.Name "zip" np) args [] pos) env own O ρ tg ds strict:=fun s I Q E q=>by
 have hm:("zip" : Str)∈cC:=by decide +kernel
 refine wpAny_Call_Name_kw (d8 I hk (iD hm) (I.ok.nb _ hm) (show bootBuiltins "zip" = some (.type "zip") by decide +kernel) (iE hm) ?_);refine PyProof.Rows.callWith_type (cT hst pos env) (bc hst (h s pos I _ _ fun vs s1 x1 r1=>?_));show wpAny (br G) A (call (.type "zip") vs) _ E s1;obtain⟨xs,ys,rfl,nt,rfl⟩:=Ez hz;obtain⟨v1,v2,rfl,p1,p2⟩:=r1.two;have l1:=p1.list_len;obtain⟨a1,w1,rfl,o1,q1,c1⟩:=p1.list_inv;obtain⟨a2,w2,rfl,o2,q2,c2⟩:=p2.list_inv;exact call_zip_2 q1 q2 fun h' z1 z2 z3 z4 z5 _ k=>wpAny_pyIter_zip z1 (q _ _ (zK.after x1 (FH I.hh x1.base x1.pos hn rfl q1 q2 c1 c2 (fun _=>o1) (fun _=>o2) z1 z2 z3 z4 z5 k nt l1)))
theorem A3 (hk:env.kindOf "range" = some .globalImplicit)(hst:ct args=true)(h:kZ G A args env own O ρ es)(hr:oe es=some ds)(hn:wH tg=true):i0 G A false (.Call (.Name "range" np) args [] pos) env own O ρ tg ds strict:=fun s I Q E q=>by
 have hm:("range" : Str)∈cC:=by decide +kernel
 refine wpAny_Call_Name_kw (d8 I hk (iD hm) (I.ok.nb _ hm) (show bootBuiltins "range" = some (.type "range") by decide +kernel) (iE hm) ?_);refine PyProof.Rows.callWith_type (cT hst pos env) (bc hst (h s pos I _ _ fun vs s1 x1 r1=>?_));show wpAny (br G) A (call (.type "range") vs) _ E s1;have hk':∀o,∀b o',s1.heap.get? b=some o'->(s1.heap.push o).get? b=some o':=fun o b o' e=>fO _ e;obtain⟨x,rfl,hr⟩:=hF hr;obtain⟨b,rfl,hr⟩:=bj hr;obtain⟨v,rfl,r⟩:=r1.one;obtain⟨t,rfl⟩:=r.int_inv;refine call_range_1 ?_;have x2:Ext G s1 { s1 with heap:=s1.heap.push { cls:=.type "range",data:=.fields #[.int 0 s1.toks, .int b t, .int 1 (s1.toks+1)] },toks:=s1.toks+1+1 }:=.all x1.base (hk' _) (Nat.succ_pos _);exact xq I.hh x2.base x2.pos hn (IsRange.new _ _ _ _ _ _ _) hr fun I' s' g=>q I' s' (g.after (x1.trans x2))
end
end
section
section
variable {G:GC}{A:Around}{z:Bool}{env:Env}{own:dK}{O WC:a9}{ρ:aB}{d:D}{Dd:Addr}{c:CK}{elt:Expr}{gens:List Comprehension}{scope:Scope}{pos:Pos}{k:Nat}{out:List D}
theorem qI (I:di G A env own O ρ s)(h:∀a∈W,a=env.locals\/∃x,(env.kindOf x=some .cell\/env.kindOf x=some .free)/\env.cells.lookup x=some a):bG O W s.heap:=fun a ma o e=>by
 rcases h a ma with rfl|⟨x,hx,hc⟩
 .obtain⟨m,⟨o',es,ep,e1,e2,_⟩,_⟩:=I.envr.ns;rw[e1]at e;obtain rfl:=aC e;exact⟨gB e2,fun _=>I.envr.lin⟩
 .obtain⟨c,v,e3,⟨o',e1,e2⟩⟩:=I.envr.ce x hx;rw[hc]at e3;obtain rfl:=aC e3;rw[e1]at e;obtain rfl:=aC e;exact⟨lG e2,fun _=>(I.envr.cin _ _ hc).1⟩
structure iZ (G:GC)(env:Env)(own:dK)(O WC:a9)(Dd:Addr):Prop where
 dO:Dd∈O
 d0:G.h₀.get? Dd=none
 dl:env.locals≠Dd
 dc:∀x c,env.cells.lookup x=some c->c≠Dd
 dw:∀n a,own.at' n=some a->a≠Dd
 wO:∀a∈WC,a∈O
 wD:Dd∉WC
 wc:∀a∈WC,a=env.locals\/∃x,(env.kindOf x=some .cell\/env.kindOf x=some .free)/\env.cells.lookup x=some a
theorem iZ.turn (a:iZ G env own O WC Dd)(s:Shared)(pre:List D)(I:di G A env own O ρ s)(h:bz G c O s.heap Dd pre):bG O (Dd::WC) s.heap:=fun b m o e=>by
 rcases bM m with rfl|m
 .obtain⟨o',e',mu,_⟩:=h.obj;rw[e']at e;obtain rfl:=aC e;exact⟨mu,fun _=>a.dO⟩
 .exact qI I a.wc b m o e
abbrev fW (G:GC)(A:Around)(c:CK)(gens:List Comprehension)(scope:Scope)(pos:Pos)(k:Nat)(env:Env)(own:dK)(O WC:a9)(Dd:Addr)(ρ:aB)(out:List D):Prop:=
 sG G A c (fun K E s=>wpAny (br G) A (js c gens scope pos k Dd env) (fun _ s5=>K s5) E s) env own O (Dd::WC) Dd ρ out
theorem iZ.put (a:iZ G env own O WC Dd)(I:di G A env own O ρ s)(x1:Ext G s s1)(ac:bz G c O s1.heap Dd pre)(hs':Heap.SameBut Dd s1.heap h')(tk':0<tk)(ho:∃o,h'.get? Dd=some o/\gu o) :
  bl G (Dd::WC) s { s1 with heap:=h',toks:=tk }/\di G A env own O ρ { s1 with heap:=h',toks:=tk }/\aI [Dd] s1.heap h'/\bG O [Dd] s1.heap:=by
 have I1:=I.ext x1;obtain⟨o0,e0,mu,_⟩:=ac.obj;have ht:bG O [Dd] s1.heap:=fun b m o e=>by
  rcases aV m with rfl
  rw[e0]at e;obtain rfl:=aC e;exact⟨mu,fun _=>a.dO⟩
 have kb:aI [Dd] s1.heap h':=dN (aR hs');have B:aX G h':=x1.base.but (aR hs') (fun b m=>by rcases aV m with rfl;exact a.d0) fun b m o e=>(ht b m o e).1;have sx:bl G (Dd::WC) s1 { s1 with heap:=h',toks:=tk }:=⟨⟨rfl,rfl⟩,kb.mono fun b m=>by rcases aV m with rfl;exact dX,B,tk',fun b m e=>bA (fun o q=>aR hs' b o (fun mm=>m (by rcases aV mm with rfl;exact dX)) q) e⟩;refine⟨x1.sext.trans sx,⟨I.ok,I.hh,B,tk',I1.ov.but kb fun b m=>?_,I1.envr.but kb ht (fun m=>a.dl (aV m)) (fun y c e m=>a.dc y c e (aV m)) fun n b _ e _ m=>a.dw n b e (aV m)⟩,kb,ht⟩;rcases aV m with rfl
 exact ho
theorem Ae (a:iZ G env own O WC Dd)(hg:gens[k+1]?=none)(he:bw G A elt env own O ρ d):fW G A (.list elt) gens scope pos k env own O WC Dd ρ [d]:=fun s pre I ac hl K E q=>by unfold js;rw[hg];obtain⟨vs,pl,rp⟩:=id ac;have e1:=rp.length;simp only[jR]at e1;have hl:pre.length+1<=16777216:=hl;refine aN (he s I _ _ fun v s1 x1 r1=>aN (wpAny_list_append_plain (bq pl x1.keep) (fun h' pl' hs'=>bB ?_) (by rw[bh,e1];exact gp ‹_›)));obtain⟨sx,I',kb,ht⟩:=a.put (c:=.list elt) I x1 (ac.keep x1.keep) hs' x1.pos (let⟨n,e⟩:=pl';⟨_,e, .inl nofun⟩);refine q _ sx I' ⟨vs.push v,pl', ?_⟩;rw[Array.toList_push];exact((rp.keep x1.keep).but kb ht).append (.cons (r1.but kb ht) .nil)
theorem EV (ht:oM G A env own O ρ .And ifs b)(h1:b=true->fW G A c gens scope pos k env own O WC Dd ρ out)(h2:b=false->out=[]) :
  sG G A c (lk G A c gens scope pos k ifs Dd env) env own O (Dd::WC) Dd ρ out:=fun s pre I ac hl K E q=>by
 unfold lk;refine wm ht s I _ _ fun s1 x1=>?_;cases b with
 |true=>exact h1 rfl s1 pre (I.ext x1) (ac.keep x1.keep) hl K E fun s' x' I' ac'=>q s' (x1.sext.trans x') I' ac'
 |false =>
  have:=h2 rfl;subst this;exact q s1 x1.sext (I.ext x1) (by rw[List.append_nil];exact ac.keep x1.keep)
noncomputable def jA (e:Expr):Bool:=!(e.ctorIdx==7)
theorem jY (h:jA e=true)(env:Env)(x:Value):foldedSetIterable e env x=pure x:=by cases e <;> first|rfl|exact ff h
structure um (G:GC)(A:Around)(env:Env)(own:dK)(O WC:a9)(Dd:Addr)(c:CK)(gens:List Comprehension)(scope:Scope)(pos:Pos)(k:Nat)(target iter:Expr)(ifs:dU)(tg:aH)(ρ:aB)(f:D->Option (List D))(ds:List D):Prop where
 hg:gens[k]?=some ⟨target,iter,ifs,0⟩
 hg':∀g',gens[k+1]?=some g'->g'.is_async=0
 ht:cQ G env own target tg
 hno:∀n∈tg,ρ.get n=none
 hWC:Hu env G WC tg
 body:∀x ρ' a,x∈ds->bE ρ tg x=some ρ'->f x=some a->sG G A c (lk G A c gens scope pos k ifs Dd env) env own O (Dd::WC) Dd ρ' a
 bind:∀x∈ds,(f x).isSome->∃ρ',bE ρ tg x=some ρ'
theorem nJ:∀(ns:aH)(ds:List D)(ρ:aB)(n:Nat),n∉ns->(bx ρ ns ds).get n=ρ.get n
 |[],_,_,_,_=>rfl
 |m::ns,[],_,_,_=>rfl
 |m::ns,d::ds,ρ,n,h=>by show(bx _ ns ds).get n=_;rw[nJ ns ds _ n (fun q=>h (dP _ q)),aB.get_set,if_neg (fun e=>h (by rw[e];exact dX))]
theorem rj (h:bE ρ tg x=some ρ')(n:Nat)(hn:n∉tg):ρ'.get n=ρ.get n:=by
 rcases rg h with⟨m,_,rfl⟩|⟨_,xs,_,_,rfl⟩
 .rw[aB.get_set,if_neg (fun e=>hn (by rw[e];exact dX))]
 .exact nJ _ _ _ _ hn
theorem um.loop (g:um G A env own O WC Dd c gens scope pos k target iter ifs tg ρ f ds)(a:iZ G env own O WC Dd){I:Addr}{fp wr:a9}{vs:eU}{es:List D}{St:Nat->Heap->Prop}{P Md:Nat->Value->Heap->Prop}
  (it:sI G A z target I fp wr ds vs es St P Md){s:Shared}{pre:List D}{R:Result->Shared->Prop}(st:St 0 s.heap)(rv:ai G.w O s.heap vs es)(hfp:∀b∈fp,b∉Dd::WC)(hwO:∀b∈wr,b∉O)(hw0:∀b∈wr,G.h₀.get? b=none)(hfe:∀b∈fp,∃o,s.heap.get? b=some o)
  (hz:z=true->(∀n d,ρ.get n=some d->a8 d=true)/\(∀d∈es,a8 d=true)/\∀d∈pre++out,a8 d=true)(hf:eQ f ds=some out)(Iv:di G A env own O ρ s)(ac:bz G c O s.heap Dd pre)(hlen:pre.length+out.length<=pQ c)
  (q:∀s',bl G (wr++Dd::WC) s s'->di G A env own O ρ s'->bz G c O s'.heap Dd (pre++out)->R (.ok .next) s') :
  codeAny (br G) A (.compStart (c.expr gens scope pos) k (.ref I) (.ref Dd) env) R s:=by
 have L:codeAny (br G) A (.compLoop (c.expr gens scope pos) k (.ref I) (.ref Dd) env) R s :=
  zU (W:=Dd::WC) g.hg g.hg' g.ht g.hno g.hWC a.wD (fun b m=>dP _ m) it st rv hfp hwO hw0 hfe a.dO (fun b m=>(bM m).elim (fun e=>e▸a.dO) (a.wO b)) (fun s pre I h=>a.turn s pre I h) g.body hf g.bind
   (fun x ρ' hb n d hn=>by rw[rj hb n (fun m=>by rw[g.hno n m]at hn;exact nn hn)];exact hn) hz Iv ac hlen q
 exact jc g.hg rfl L (it.self 0 s _ _ st L)
theorem xo {tg:aH}{f:D->Option (List D)}{ds:List D}(a:iZ G env own O WC Dd)(g:um G A env own O WC Dd c gens scope pos (k+1) target iter ifs tg ρ f ds)(hs:i0 G A false iter env own O ρ target ds true)(hns:jA iter=true)
  (hf:eQ f ds=some out):fW G A c gens scope pos k env own O WC Dd ρ out:=fun s pre I ac hl K E q=>by
 unfold js;rw[g.hg];refine aN (wpAny_mono (hs s I (fun it s'=>wpAny (br G) A (runOwn (.compStart (c.expr gens scope pos) (k+1) it (.ref Dd) env) env >>= fun _=>pure ()) (fun _ s5=>K s5) E s') E ?_) (fun x s1 h1=>?_) fun _ _ e=>e)
 .intro I' s' got;obtain⟨fp,wr,vs',es,St,P,Md,it,st,rv,h1,h2,h3,_⟩:=got.it;have I1:=I.ext got.ext;have hW:=a.turn s' pre I1 (ac.keep got.ext.keep);have hWO:∀b∈Dd::WC,b∈O:=fun b m=>(bM m).elim (fun e=>e▸a.dO) (a.wO b);refine aN (wpAny_runOwn (g.loop a it st rv (fun b m mW=>?_) (fun b m mO=>?_) (fun b m=>?_) h2 (fun q=>Bool.noConfusion q) hf I1 (ac.keep got.ext.keep) hl fun s2 x2 I2 ac2=>bB ?_))
  .rcases h3 b m with h|h|⟨us,h⟩
   .obtain⟨o,e,_⟩:=I.ov b (hWO b mW);rw[h]at e;exact nn e
   .exact h rfl (hWO b mW)
   .obtain⟨o,e,c,n,hd⟩:=h;exact(hW b mW o e).1.1 _ _ c hd
  .obtain⟨o,e,_⟩:=I.ov b mO;rw[h1 b m]at e;exact nn e
  .exact bA (fun o e=>I.base.keep b o e) (h1 b m)
  .refine q s2 ?_ I2 ac2;have x3:=got.ext.sext.trans x2;refine⟨x3.same,fun b o m e c=>x3.keep b o (fun mm=>?_) e c,x3.base,x3.pos,fun b m e=>?_⟩
   .rcases dx mm with mm|mm
    .rw[h1 b mm]at e;exact nn e
    .exact m mm
   .by_cases mm:b∈wr
    .exact h1 b mm
    .exact x3.back b (fun q=>(dx q).elim mm m) e
 .refine aN (wpAny_standAt (aN (wpAny_of_eq (jY hns env x) (aN (wpAny_holding h1)))))
end
end
section
section
variable {G:GC}{A:Around}{z:Bool}{env:Env}{own:dK}{O:a9}{ρ:aB}{d:D}{out:List D}
noncomputable def Bc (scope:Scope)(cenv:Env):a9:=cenv.locals::scope.names.filterMap fun p=>if p.2==.cell then cenv.cells.lookup p.1 else none
theorem tr {scope:Scope}{cenv:Env}(hfn:env.scope.kind=.function)(hs:fB nm env.scope.names scope.names T=true)(hc:cenv.scope=relabel scope env)(m:(x,NameKind.cell)∈scope.names):cenv.kindOf x=some .cell:=by obtain⟨so,_⟩:=bH hs;have q:=bQ so _ m;simp only[eS,g9,beq_iff_eq]at q;show cenv.scope.names.lookup x=_;rw[hc,fA hfn,gX,q.1];rfl
noncomputable def CK.new (c:CK):Sem Value:=match c with
 |.list _=>newList []
 |.set _=>newSet (.type "set")
theorem CK.new_ok {c:CK}{s:Shared}{E:bg}(h:∀o:Obj,o.isFreed=false->(∀O,bz G c O (s.heap.push o) s.heap.objs.size [])->Q (.ref s.heap.objs.size) { s with heap:=s.heap.push o }):wpAny (br G) A c.new Q E s:=by
 cases c with
 |list elt=>exact wpAny_newObj_type (h _ rfl fun O=>⟨#[],⟨0,ie _ rfl⟩, .nil⟩) (by size_fits)
 |set elt =>
  exact FU fun o hf hS=>h o hf fun O=>⟨hS,rfl⟩
set_option tactic.hygienic true in
theorem E8 {f:D->Option (List D)}{ds:List D}{strict:Bool}{s:Shared}{use:Option (Value->Sem Unit)}{Q:bg}{E:bg}
  (Iv:di G A env own O ρ s)(hsrc:i0 G A z iter env own O ρ target ds strict)(hns:jA iter=true)(hk:scope.kind=.function)(hs:fB G.names env.scope.names scope.names T=true)
  (hgen:∀cenv O' D,cenv.scope=relabel scope env->iZ G cenv own O' (Bc scope cenv) D->um G A cenv own O' (Bc scope cenv) D c (⟨target,iter,ifs,0⟩::rest) scope pos 0 target iter ifs tg (ρ.del T) f ds)
  (hz:z=true->(∀n d,ρ.get n=some d->a8 d=true)/\∀d∈out,a8 d=true)(hf:eQ f ds=some out)(hlen0:ds.length<=16777216->out.length<=pQ c)
  (fin:∀C D s',out.length<=pQ c->Ext G s s'->C≠D->s.heap.get? C=none->s.heap.get? D=none->G.h₀.get? C=none->G.h₀.get? D=none->(∃m,s'.heap.Ns C m)->bz G c (C::D::O) s'.heap D out ->
   di G A env own (C::D::O) ρ s'->compPost (br G) A E use Q (.ref D) C (.ok .next) s') :
  wpAny (br G) A (comprehension (c.expr (⟨target,iter,ifs,0⟩::rest) scope pos) scope env pos' c.new false (eval iter env) use) Q E s:=by
 have hnames:∀x∈scope.names,x.2=.local->scope.names.lookup x.1=some .local:=fun x m e=>by obtain⟨so,_⟩:=bH hs;have q:=bQ so _ m;obtain⟨y,kd⟩:=x;have e:kd=.local:=e;subst e;simp only[eS,g9,beq_iff_eq]at q;exact q.1
 have hfree:∀p∈scope.names,p.2=.free->∃c,env.cells.lookup p.1=some c:=fun x m e=>by obtain⟨so,_⟩:=bH hs;have q:=bQ so _ m;obtain⟨y,kd⟩:=x;have e:kd=.free:=e;subst e;simp only[eS,Bool.or_eq_true,beq_iff_eq]at q;obtain⟨c,v,h,_⟩:=Iv.envr.ce y q;exact⟨c,h⟩
 obtain⟨cl,hcl,cl1,cl2⟩:=w8 hfree;refine wpAny_comprehension_free (g:=⟨target,iter,ifs,0⟩) (gs:=rest) (c.clauses _ _ _) (fun x=>jY hns env x) hcl hk hnames (hsrc s Iv _ _ fun I s2 got=>?_);obtain⟨fp,wr,vs',es,St,P,Md,it,st,rv,h1,h2,h3,h4z⟩:=got.it;have I2:=Iv.ext got.ext;have hlen:=hlen0 got.len;refine CK.new_ok fun o0 hfr hacc=>?_;show wpAny _ _ (newFunctionEnv scope env.globals cl [] env.qual none .none (some env)) _ _ _;refine uI ?_;dsimp only;have k3:∀b o,s2.heap.get? b=some o->(s2.heap.push o0).get? b=some o:=fun b o e=>fO _ e;have hsz3:(s2.heap.push o0).objs.size=s2.heap.objs.size+1:=Heap.size_push ..;obtain⟨N,n1,n2,n4,n5,n6,n7,n8⟩:=zT (T:=T) (D:=s2.heap.objs.size) (h3:=s2.heap.push o0)
  (cenv:={ scope:=relabel scope env,locals:=(s2.heap.push o0).objs.size,globals:=env.globals,cells:=cellsFrom ((s2.heap.push o0).objs.size+1) scope.names cl,qual:=env.qual,func:=none,code:=env.code,frame:=env.frame,builtins:=env.builtins })
  I2 hs hk cl1 cl2 (ax _) k3 (by rw[hsz3];exact Nat.lt_succ_self _) (by rw[hsz3];exact Nat.le_succ _) rfl ⟨rfl,rfl,rfl,rfl,rfl⟩
 generalize hH3:s2.heap.push o0=H3 at *;generalize hH4:pushCells (H3.push { cls:=.type "dict",data:=.dict #[] }) scope.names=H4 at *;generalize hce:({ scope:=relabel scope env,locals:=H3.objs.size,globals:=env.globals,cells:=cellsFrom (H3.objs.size+1) scope.names cl,qual:=env.qual,func:=none,code:=env.code,frame:=env.frame,builtins:=env.builtins }:Env)=cenv at *;have hcs:cenv.scope=relabel scope env:=by rw[<- hce]
 have hcl':cenv.locals=H3.objs.size:=by rw[<- hce]
 have k4:∀b o,s2.heap.get? b=some o->H4.get? b=some o:=fun b o e=>by rw[<- hH4];exact pushCells_keeps _ _ _ _ (fO _ (k3 b o e))
 have hD4:bz G c (N++s2.heap.objs.size::O) H4 s2.heap.objs.size []:=(hacc _).move (fun o e=>by rw[<- hH4];exact pushCells_keeps _ _ _ _ (fO _ e)) fun vs r=>by rw[r.nil_inv];exact .nil
 have x24:Ext G s2 { s2 with heap:=H4 }:=.all (t:=s2.toks) I2.base k4 I2.pos;have frN:∀a∈N,s2.heap.get? a=none:=fun a m=>fJ (az (by rw[hsz3];exact Nat.le_succ _) (n1 a m));have fr0:∀a,s2.heap.get? a=none->G.h₀.get? a=none:=fun a e=>bA (fun o q=>I2.base.keep a o q) e;have hCD:H3.objs.size≠s2.heap.objs.size:=by rw[hsz3];exact Nat.succ_ne_self _
 have hov:dB (N++s2.heap.objs.size::O) H4:=fun a m=>by
  rcases dx m with m|m
  .exact n8 a m
  .rcases bM m with rfl|m
   .obtain⟨o,e,_,q⟩:=hD4.obj;exact⟨o,e,q⟩
   .obtain⟨o,e,q⟩:=I2.ov a m;exact⟨o,k4 a o e,q⟩
 have wN:∀a∈Bc scope cenv,a∈N:=fun a m=>by
  rcases bM m with rfl|m
  .rw[hcl'];exact n2
  .obtain⟨p,hp,e⟩:=List.mem_filterMap.mp m;split at e
   .rename_i c;obtain⟨y,kd⟩:=p;have c:kd=.cell:=by simpa using c
    subst c;exact n4 y a hp e
   .exact nn e
 have acc:iZ G cenv own (N++s2.heap.objs.size::O) (Bc scope cenv) s2.heap.objs.size:=by
  refine⟨kK _ dX,fr0 _ (ax _),by rw[hcl'];exact hCD,n7,fun n a e q=>?_,fun a m=>mv _ (wN a m),fun m=>?_,fun a m=>?_⟩
  .obtain⟨o,e',_⟩:=I2.ov a (I2.envr.oin n a e);rw[q,ax]at e';exact nn e'
  .have:=n1 _ (wN _ m);rw[hsz3]at this;exact Nat.not_succ_le_self _ this
  .rcases bM m with rfl|m
   .exact .inl rfl
   .obtain⟨p,hp,e⟩:=List.mem_filterMap.mp m;split at e
    .rename_i c;obtain⟨y,kd⟩:=p;have c:kd=.cell:=by simpa using c
     subst c;exact .inr ⟨y, .inl (tr I2.envr.fn hs hcs hp),e⟩
    .exact nn e
 have gen:=hgen cenv _ _ hcs acc;have grow:∀a∈N++[s2.heap.objs.size],s2.heap.get? a=none:=fun a m=>(dx m).elim (frN a) fun m=>by rw[aV m];exact ax _
 have assoc:∀O:a9,(N++[s2.heap.objs.size])++O=N++s2.heap.objs.size::O:=fun O=>by simp
 have rv4:ai G.w (N++s2.heap.objs.size::O) H4 vs' es:=by have:=(rv.news grow).keep (.of k4);rw[assoc]at this;exact this
 refine gen.loop (pre:=[]) acc it (it.turns.frame 0 _ _ st fun b m o e=>k4 b o e) rv4 (fun b m mW=>?_) (fun b m mO=>?_) (fun b m=>bA (fun o q=>Iv.base.keep b o q) (h1 b m)) (fun b m=>let⟨o,e⟩:=h2 b m;⟨o,k4 b o e⟩) (fun q=>⟨fun n d e=>(hz q).1 n d (aB.get_of_del e),h4z q,(hz q).2⟩) hf ⟨I2.ok,I2.hh,x24.base,I2.pos,hov,n5⟩ hD4 (by simpa using hlen) fun s' x2 I' ac'=>?_
 .obtain⟨o,e⟩:=h2 b m;rcases bM mW with rfl|mW
  .rw[ax]at e;exact nn e
  .have:=frN b (wN b mW);rw[this]at e;exact nn e
 .obtain⟨o,e⟩:=h2 b (it.turns.sub b m);rcases dx mO with mO|mO
  .rw[frN b mO]at e;exact nn e
  .rcases bM mO with rfl|mO
   .rw[ax]at e;exact nn e
   .obtain⟨o',e',_⟩:=Iv.ov b mO;rw[h1 b m]at e';exact nn e'
 .have frs:∀a,s2.heap.get? a=none->s.heap.get? a=none:=fun a e=>got.ext.back a e;have hC2:s2.heap.get? H3.objs.size=none:=frN _ n2;have xs:Ext G s s':=((got.ext.trans x24).sext.trans x2).ext fun a m=>by
   rcases dx m with m|m
   .exact h1 a m
   .rcases bM m with rfl|m
    .exact frs _ (ax _)
    .exact frs _ (frN a (wN a m))
  obtain⟨mm,hmm,_⟩:=I'.envr.ns;rw[hcl']at hmm;have gr:∀a∈[H3.objs.size,s2.heap.objs.size],s.heap.get? a=none:=fun a m=>by
   rcases bM m with rfl|m
   .exact frs _ hC2
   .rw[aV m];exact frs _ (ax _)
  refine fin H3.objs.size s2.heap.objs.size s' hlen xs hCD (frs _ hC2) (frs _ (ax _)) (fr0 _ hC2) (fr0 _ (ax _)) ⟨mm,hmm⟩ (bz.sub (O:=N++s2.heap.objs.size::O) ac' fun a m=>?_) ⟨Iv.ok,Iv.hh,xs.base,xs.pos,fun a m=>?_,(Iv.envr.news gr).keep xs.keep⟩
  .rcases bM m with rfl|m
   .exact mv _ n2
   .exact kK _ m
  .rcases bM m with rfl|m
   .obtain⟨o,es,ep,e,dd,_⟩:=hmm;exact⟨o,e, .inr fun vs q=>by rw[dd]at q;cases q⟩
   .rcases bM m with rfl|m
    .obtain⟨o,e,_,q⟩:=bz.obj ac';exact⟨o,e,q⟩
    .exact Iv.ov.keep xs.keep a m
theorem uH {C D:Addr}{s s':Shared}{Q:bg}{E:bg}(x:Ext G s s')(hCD:C≠D)(hC:s.heap.get? C=none)(hC0:G.h₀.get? C=none)(hm:∃m,s'.heap.Ns C m)(ac:bz G c (C::D::O) s'.heap D out)
  (q:∀s',Ext G s s'->bz G c (D::O) s'.heap D out->Q (.ref D) s'):compPost (br G) A E none Q (.ref D) C (.ok .next) s':=by
 obtain⟨m,hm⟩:=hm;refine⟨m,hm,fun h' hs'=>?_⟩;obtain⟨o,es,ep,e,dd,_⟩:=hm;have ht:bG (C::D::O) [C] s'.heap:=fun b m o' e'=>by
  rcases aV m with rfl
  rw[e]at e';obtain rfl:=aC e';exact⟨gB dd,fun _=>dX⟩
 have kb:aI [C] s'.heap h':=dN (aR hs');have B:aX G h':=x.base.but (aR hs') (fun b m=>by rcases aV m with rfl;exact hC0) fun b m o e=>(ht b m o e).1;have x2:bl G [C] s' { s' with heap:=h' }:=⟨⟨rfl,rfl⟩,kb,B,x.pos,fun b m e=>bA (fun o q=>aR hs' b o m q) e⟩;have x3:Ext G s { s' with heap:=h' }:=(x.sext.trans x2).ext fun a m=>by rcases aV m with rfl;exact hC
 exact q _ x3 ((ac.but kb ht fun m=>hCD (aV m).symm).sub fun a m=>dP _ m)
theorem Cj {D:Addr}{s s':Shared}(hD:s.heap.get? D=none)(ov:dB O s.heap)(hl:out.length<=16777216)(ac:bz G (.list elt) (D::O) s'.heap D out):av G.w O s'.heap (.ref D) (.list out):=by obtain⟨vs,pl,r⟩:=ac;exact .list_of hl (ov.new hD) pl.isList (fun o e=>by obtain⟨n,e'⟩:=pl;rw[e]at e';obtain rfl:=aC e';rfl) (r.sub fun a m=>dP _ m)
end
end
section
def eu (ss:List Str)(i:Nat):List Str:=(ss.take i).foldl jM []
theorem jp (h:ss[i]?=some x):eu ss (i+1)=jM (eu ss i) x:=by unfold eu;rw[List.take_add_one,h,List.foldl_append];rfl
theorem A6 (l:List Str)(x k:Str):(jM l x).any (· == k)=(l.any (· == k) || decide (k=x)):=by
 unfold jM;by_cases c:l.any (· == x)=true
 .rw[if_pos c];by_cases e:k=x
  .subst e;rw[c,eD rfl];rfl
  .rw[fH e,Bool.or_false]
 .rw[if_neg c,List.any_append];have:([x]:List Str).any (· == k)=decide (k=x):=by show((x==k) || false)=_;rw[Bool.or_false,Bool.eq_iff_iff,beq_iff_eq,decide_eq_true_iff];exact eq_comm
  rw[this]
theorem sz (l:List Str)(x:Str):(jM l x).length=if l.any (· == x)then l.length else l.length+1:=by
 unfold jM;by_cases c:l.any (· == x)=true
 .rw[if_pos c,if_pos c]
 .rw[if_neg c,if_neg c,lla];rfl
theorem mX (ss:List Str):∀i,(eu ss i).length<=i
 |0=>gC _
 |i+1=>by
  cases h:ss[i]? with
  |none =>
   have:eu ss (i+1)=eu ss i:=by unfold eu;rw[List.take_add_one,h];simp
   rw[this];exact Nat.le_succ_of_le (mX ss i)
  |some x =>
   rw[jp h,sz];have:=mX ss i;split <;> omega
section
variable {prog:Program}{w:World}{A:Around}{R:Result->Shared->Prop}{I:Addr}{fp wr:a9}{Gn:Array GenState->Array GenState->Prop}{n:Nat}{P:Nat->Value->Prop}{St:Nat->Shared->Prop}
abbrev zL (prog:Program)(w:World)(S:Addr)(l:List Str)(h:Heap):Prop:=h.SetOf (PySem.strKind prog w) S (fun k=>l.any (· == k)) l.length
theorem DQ (W:WalksS prog w A.in1 I fp wr Gn n P St)(S:Addr)(hSf:S∉fp)(ss:List Str)(hval:∀i v,i<n->P i v->∃x t,ss[i]?=some x/\v=.str x t)(hb:n+1<scanBound) :
  ∀(k i:Nat) (s:Shared),i+k=n->St i s->zL prog w S (eu ss i) s.heap ->
   (∀s',Moved (S::wr) Gn s s'->zL prog w S (eu ss n) s'.heap->R (.ok (.ret .none)) s') ->
   codeAny (model prog w) A (.builtin "set.update.loop" ⟨[.ref S, .ref I],[]⟩) R s:=by
 have hSw:S∉wr:=fun h=>hSf (W.sub _ h);have hsub:∀b∈wr,b∈S::wr:=fun b hb=>.tail _ hb;intro k
 induction k with
 |zero =>
  intro i s hk hst hS hR;obtain rfl:i=n:=hk;refine codeAny_builtin PyProof.Rows.F.entry_set_update_loop ?_;rw[Around.under_plainId PyProof.Rows.F.plain_set_update_loop _];show wpAny _ A.in1 (pyNext (.ref I) >>= _) _ _ s;refine aN (W.done s _ _ hst fun s' hm=>?_);show wpAny _ A.in1 (ret Value.none) _ _ s';exact bB (hR s' (hm.mono hsub) (by obtain⟨o,es,ep,t,ho,rest⟩:=hS;exact⟨o,es,ep,t,hm.heap S _ hSw ho,rest⟩))
 |succ k ih =>
  intro i s hk hst hS hR;have hlt:i<n:=by omega
  refine codeAny_builtin PyProof.Rows.F.entry_set_update_loop ?_;rw[Around.under_plainId PyProof.Rows.F.plain_set_update_loop _];show wpAny _ A.in1 (pyNext (.ref I) >>= _) _ _ s;refine aN (W.item i s _ _ hlt hst fun v s' hP hst' hm=>?_);obtain⟨x,t,hx,rfl⟩:=hval i v hlt hP;have hS':zL prog w S (eu ss i) s'.heap:=by obtain⟨o,es,ep,tb,ho,rest⟩:=hS;exact⟨o,es,ep,tb,hm.heap S _ hSw ho,rest⟩
  show wpAny _ A.in1 (holding [Value.str x t] (setAdd S (.str x t)) >>= _) _ _ s';refine aN (wpAny_holding ?_);unfold setAdd;refine wpAny_holding (aN ((PySem.strKind prog w).pyHash (k:=x) (Value.isStrOf_refl x t) ?_));refine wpAny_setAddHashed_of (knd:=PySem.strKind prog w) (s:={ s' with toks:=s'.toks+1 }) (Value.isStrOf_refl x t) rfl hS' (by have:=mX ss i;omega) fun h' hsb hS2=>?_;have hSi:zL prog w S (eu ss (i+1)) h':=PyProof.Rows.SetOf_congr hS2 (fun k'=>by rw[jp hx,A6]) (by rw[jp hx,sz]);refine bB ⟨plainId_quiet PyProof.Rows.F.plain_set_update_loop _,ih (i+1) _ (by omega) (W.frame _ s' _ _ hst' (Nat.le_succ _) fun b hb o e=>?_) hSi fun s'' hm'' hS''=>?_⟩
  .rw[hsb.2 b (fun h:b=S=>hSf (by rw[<- h];exact hb))];exact e
  .refine hR s'' (Moved.trans W.gtrans ((hm.mono hsub).then_heap (Nat.le_succ _) fun b o hb e=>?_) hm'') hS'';rw[hsb.2 b (fun h:b=S=>hb (by rw[h];exact .head _))];exact e
end
end
section
section
variable {prog:Program}{w:World}{A:Around}{E:bg}{s:Shared}
noncomputable abbrev tC (led:Bool):Obj:={ cls:=.type "set",dict:=none,data:=.set #[] 0 (.fresh 0 0 led) }
set_option maxHeartbeats 2000000 in
theorem qN (hh:A.handled=none)(hl:s.heap.IsList l items)(hi:∀i v,i<items.size->items[i]?=some v->∃x t,ss[i]?=some x/\v=.str x t)(hb:items.size+1<scanBound)
  (h:∀(h':Heap)(tk:Nat),zL prog w s.heap.objs.size (eu ss items.size) h'->(∀b o,b<s.heap.objs.size->s.heap.get? b=some o->h'.get? b=some o)->Q (.ref s.heap.objs.size) { s with heap:=h',toks:=tk }) :
  wpAny (model prog w) A (call (.type "set") [.ref l]) Q E s:=by
 obtain⟨c,tl,hmro⟩:=PySem.F.called_set.mro;have hmade:=PySem.F.called_set.made;have hsub:=PySem.F.called_set.sub;refine wpAny_call (codeAny_of_tree ?_);show wpAny _ _ (callAny (.type "set") _) _ _ _;refine bB ⟨Code.quiet_builtin _ (by decide +kernel),codeAny_builtin PySem.F.entry_type_call ?_⟩;rw[Around.under_plain (weight_type_call_type "set" [.ref l] []) rfl];have h1:=PySem.F.called_set.notType;have h2:=PySem.F.called_set.canCreate;have hct:=PySem.F.typeCall_set_1 (.ref l)
 repeat (any_goals (first|assumption|wp_step))
 refine codeAny_mono (code_set_new_1 (.ref l) (E:=E) (Q₁:=fun obj s₁=>∃led:Bool,obj=.ref s.heap.objs.size/\s₁={ s with heap:=s.heap.push (tC led) }) fun led=>⟨led,rfl,rfl⟩) fun r s₁ hr=>?_;rcases r with e|fl
 .exact hr
 rcases fl with _|obj|_|_
 case ret =>
  obtain⟨led,rfl,rfl⟩:=hr;have hS:(s.heap.push (tC led)).get? s.heap.objs.size=some (tC led):=ie _ rfl;have hT:Shared.TypeIs { s with heap:=s.heap.push (tC led) } (.ref s.heap.objs.size) "set":=⟨_,hS,rfl⟩;have hli:=PySem.F.called_set.init.lookup;have hbi:=PySem.F.called_set.init.bind (.ref s.heap.objs.size)
  repeat (any_goals (first|assumption|wp_step))
  refine codeAny_mono (codeAny_call_builtin (R:=wants (fun r s₂=>r=.none/\∃h' tk,s₂={ s with heap:=h',toks:=tk }/\zL prog w s.heap.objs.size (eu ss items.size) h' /\
    (∀b o,b<s.heap.objs.size->s.heap.get? b=some o->h'.get? b=some o)) E) PySem.F.called_set.init.plain PySem.F.entry_set_init (check_set_init_1 hT ?_)) fun r₂ s₂ hr₂=>?_
  .obtain⟨ol,hol,hcl,nl,hdl⟩:=hl;obtain⟨ocls,odict,odata,oslots⟩:=ol;simp only at hcl hdl;subst hcl;subst hdl;have hol':(s.heap.push (tC led)).get? l=some { cls:=.type "list",dict:=odict,data:=.seq items nl,slots:=oslots }:=fO _ hol;have hsls:=PySem.F.sub_list_set;have hslf:=PySem.F.sub_list_frozenset;have hne:(Value.type "list" == Value.type "dict")=false:=by decide
   have hl1:(s.heap.push (tC led)).IsList l items:=⟨_,hol',rfl,nl,rfl⟩;unfold Builtin.«set.__init__» noKeywords Builtin.Frozenset.updateFrom;generalize hPI:pyIter=PI
   wp_walk
   subst hPI;refine wpAny_pyIter_list hl1 ?_;refine aN (wpAny_runValue ?_);have hlS:l<s.heap.objs.size:=Heap.lt_size hol;have hh3:A.in1.in1.in1.handled=none:=by simp[hh]
   have e1:(s.heap.push (tC led)).objs.size=s.heap.objs.size+1:=Heap.size_push ..;have hneI:l≠(s.heap.push (tC led)).objs.size:=by rw[e1];exact Nat.ne_of_lt (Nat.lt_succ_of_lt hlS)
   have hSf:s.heap.objs.size∉[(s.heap.push (tC led)).objs.size,l]:=fun m=>by
    rcases bM m with m|m
    .exact absurd (m.trans e1) (Nat.ne_of_lt (Nat.lt_succ_self _))
    .exact absurd (aV m) (Nat.ne_of_gt hlS)
   refine DQ ((Walks.list hh3 _ l hneI items).toS) s.heap.objs.size hSf ss (fun i v hlt hv=>hi i v hlt hv) hb items.size 0 _ (Nat.zero_add _)
    ⟨⟨_,ie _ rfl,rfl,rfl⟩,(hl1.push _)⟩ ?hS0 ?hR
   case hS0=>exact(PyProof.Rows.setObjOf_fresh (knd:=PySem.strKind prog w) led).setOf (fO _ hS) (by decide)
   case hR =>
    intro s' hm hS';obtain⟨h',g',d',tk',os'⟩:=s';have eg:g'=s.gens:=hm.gens;have ed:d'=s.drawn:=hm.drawn;have eo:os'=s.os:=hm.os;subst eg;subst ed;subst eo;show wpAny _ _ _ _ _ _;refine bB ?_;show wpAny _ _ (ret Value.none) _ _ _;refine bB ⟨rfl,h',tk',rfl,hS',fun b o hb e=>hm.heap b o (fun m=>?_) (fO _ (fO _ e))⟩;rcases bM m with m|m
    .exact absurd m (Nat.ne_of_lt hb)
    .exact absurd ((aV m).trans e1) (Nat.ne_of_lt (Nat.lt_succ_of_lt hb))
  .rcases r₂ with e|fl₂
   .exact hr₂
   rcases fl₂ with _|r|_|_
   case ret =>
    obtain⟨rfl,h',tk,rfl,hS',hk'⟩:=hr₂
    repeat (any_goals (first|assumption|wp_step))
    exact h _ _ hS' hk'
   all_goals exact hr₂.elim
 all_goals exact hr.elim
end
end
section
section
variable {G:GC}{A:Around}{env:Env}{own:dK}{O:a9}{ρ:aB}
theorem zy:∀{ds:List D}{vs:eU},ai G.w O h vs ds->ds.all hZ=true->∃ss:List Str,ds=ss.map PyData.str/\∀(i:Nat) (v:Value),vs[i]?=some v->∃x t,ss[i]?=some x/\v=.str x t
 |[],vs,r,_=>⟨[],rfl,fun i v e=>by rw[r.nil_inv]at e;exact nn e⟩
 |d::ds,vs,r,a=>by
  obtain⟨a1,a2⟩:=bH (show(hZ d&&ds.all hZ)=true from a);obtain⟨u,us,rfl,r1,r2⟩:=r.cons_inv;obtain⟨ss,e,k⟩:=zy r2 a2;cases d with
  |str x =>
   obtain⟨t,rfl⟩:=r1.str_inv;refine⟨x::ss,by rw[e];rfl,fun i v q=>?_⟩;cases i with
   |zero=>exact⟨x,t,rfl,(aC q).symm⟩
   |succ i=>exact k i v q
  |_=>exact ff a1
theorem xY (ss:List Str):kT (ss.map PyData.str)=eu ss ss.length:=by unfold kT eu;rw[List.take_length,List.foldl_map];rfl
theorem wP (hh:A.handled=none)(hk:env.kindOf "len" = some .globalImplicit)(hk2:env.kindOf "set" = some .globalImplicit)(hst:bk x=true)(h:bw G A x env own O ρ (.list ds))(hs:ds.all hZ=true)(hl:ds.length<=1000) :
  bw G A (.Call (.Name "len" np) [.Call (.Name "set" np2) [x] [] pos2] [] pos) env own O ρ (.int (kT ds).length):=fun s I Q E q=>by
 have hm:("len" : Str)∈cC:=Bf.len.mem;refine wpAny_Call_Name_kw (d8 I hk (iD hm) (I.ok.nb _ hm) Bf.len.boot (iE hm) ?_);refine Calls.callWith_builtin (cT (xs:=[.Call (.Name "set" np2) [x] [] pos2]) rfl pos env) (bc rfl ?_);show wpAny _ _ (spliced [(false,eval (.Call (.Name "set" np2) [x] [] pos2) env)]) _ _ _;refine spliced_cons ?_;have hm2:("set" : Str)∈cC:=by decide +kernel
 refine wpAny_Call_Name_kw (d8 I hk2 (iD hm2) (I.ok.nb _ hm2) (show bootBuiltins "set" = some (.type "set") by decide +kernel) (iE hm2) ?_);refine PyProof.Rows.callWith_type (cT (xs:=[x]) (show(bk x&&true)=true by rw[hst];rfl) pos2 env) (bc (show(bk x&&true)=true by rw[hst];rfl) ?_);rw[cr hst];refine spliced_cons (h s I _ _ fun v s1 x1 r1=>spliced_nil ?_);obtain⟨a,vs,rfl,ha,l,rr⟩:=r1.list_inv;obtain⟨ss,rfl,hv⟩:=zy rr hs;have e:=rr.length;simp only[jR,dq]at e hl;show wpAny (br G) A (call (.type "set") [.ref a]) _ E s1;refine qN (ss:=ss) hh l (fun i v _ e=>hv i v (by rw[Array.getElem?_toList];exact e)) (by rw[e];show ss.length+1<4096;omega) fun h' tk hS hk'=>spliced_nil ?_;have hx:∀b o,s1.heap.get? b=some o->h'.get? b=some o:=fun b o e=>hk' b o (Heap.lt_size e) e;obtain⟨o,es,ep,t,ho,hex,hd,_,_,_,hf,hn⟩:=id hS;rw[e,<- xY]at hn;show wpAny (br G) A (call (.builtin "len") [.ref s1.heap.objs.size]) Q E _;have hle:(kT (ss.map PyData.str)).length<=1000:=az (mY _ []) (by rw[dq,List.length_nil,Nat.zero_add];exact hl);refine call_len_set ho hex hd hf (by rw[hn];omega) ?_;rw[hn];refine q _ _ (x1.trans (.all (t:=tk+1+1) x1.base hx (Nat.succ_pos _))) .int
end
end
section
section
variable {G:GC}{A:Around}{env:Env}{own:dK}{O WC:a9}{ρ:aB}{Dd:Addr}{gens:List Comprehension}{scope:Scope}{pos:Pos}{k:Nat}{out:List D}
theorem AX (pre:List D)(x:Str):kT (pre++[.str x])=jM (kT pre) x:=by
 delta kT;rw[List.foldl_append];rfl
theorem Af (a:iZ G env own O WC Dd)(hg:gens[k+1]?=none)(hk:bw G A ke env own O ρ (.str x)):fW G A (.set ke) gens scope pos k env own O WC Dd ρ [.str x]:=fun s pre I ac hl K E q=>by
 delta js
 rw[hg];show wpAny _ _ (eval ke env >>= _) _ _ _;refine aN (hk s I _ _ fun v1 s1 x1 r1=>?_);have hs1:=r1.sok;obtain⟨t1,rfl⟩:=r1.str_inv;refine aN (wpAny_standAt ?_);have ac2:=ac.keep x1.keep;obtain⟨sl,al⟩:=id ac2;obtain⟨o,ho,hc,_,_⟩:=sl.obj;have hl:pre.length+1<=1000:=hl;have hroom:(kT pre).length+1<scanBound:=fy (Nat.succ_le_succ (az (mY pre []) (Nat.le_of_eq (Nat.zero_add _)))) (fy hl (by decide));have hT:s1.TypeIs (.ref Dd) "set":=⟨o,ho,hc⟩;refine aN (wpAny_call_entry PySem.F.slot_set_add hT PySem.F.entry_set_add ?_ (PySem.F.args_set_add_2 _ _))
 delta Builtin.«set.add» Builtin.Frozenset.oneOther
 simp only[List.isEmpty_nil,bind_assoc]
 delta Builtin.Frozenset.addrOf setAdd
 refine aN (bB ?_);refine aN (bB ?_);refine aN (wpAny_holding (aN ((PySem.strKind G.prog G.w).pyHash (k:=x) (Value.isStrOf_refl x t1) ?_)));refine DO (s:={ s1 with toks:=s1.toks+1 }) sl hroom fun h' b hs' d'=>?_;refine bB ⟨_,rfl,bB ?_⟩;obtain⟨sx,I',_,_⟩:=a.put (c:=.set ke) (tk:=s1.toks+1) I x1 ac2 hs' (Nat.succ_pos _) (by obtain⟨o,e,c,_⟩:=d'.obj;exact⟨o,e, .inl (by rw[c];nofun)⟩);refine q _ sx I' ⟨by rw[AX];exact d', ?_⟩;rw[List.all_append,al];show(true&&(sok (.str x)&&true))=true;rw[hs1];rfl
theorem rC:∀{pre:List D}{l:List Str},pre.all hZ=true->(∀x∈l,sok (.str x)=true)->∀x∈pre.foldl qC l,sok (.str x)=true
 |[],_,_,h=>h
 |d::pre,l,a,h=>by
  obtain⟨a1,a2⟩:=bH (show(hZ d&&pre.all hZ)=true from a);refine rC (l:=qC l d) a2 ?_;cases d with
  |str x =>
   show∀y∈(if l.any (· == x)then l else l++[x]),_;by_cases c:l.any (· == x)=true
   .rw[if_pos c];exact h
   .rw[if_neg c];exact fun y m=>(dx m).elim (h y) fun m=>by rw[aV m];exact a1
  |_=>exact ff a1
theorem A2 (hh:A.handled=none){ss:List Str}{s s':Shared}{Q E:bg}(l:jh G.w s'.heap S ss)(hl:ss.length<64)(hs:∀x∈ss,sok (.str x)=true)(x:Ext G s s')(ov:dB O s.heap)
  (q:∀v s2,Ext G s s2->av G.w O s2.heap v (.list ((iz ss).map .str))->Q v s2):wpAny (br G) A (call (.builtin "sorted") [.ref S]) Q E s':=by
 refine yb hh l hl fun L s2 out' e h1 h2 h3 h4 h5=>?_;have x2:Ext G s' s2:=⟨⟨h5.1,h5.2.1⟩, .of h4,x.base.all h4,iu x.pos h5.2.2,fun b e=>bA (fun o q=>h4 b o q) e⟩;have xx:=x.trans x2;have hle:(iz ss).length<64:=by rw[iz,(List.mergeSort_perm _ _).length_eq];exact hl
 refine q _ s2 xx (.list_of (by rw[dq];exact az (gp hle) (by decide)) (ov.new (x.back _ h2)) ⟨_,h3,rfl,_,rfl⟩ (fun o e=>by rw[h3]at e;obtain rfl:=aC e;rfl) (sA h1 fun t m=>?_));exact hs t ((List.mergeSort_perm _ _).mem_iff.mp m)
theorem ya (hh:A.handled=none){s s':Shared}{Q E:bg}(ov:dB O s.heap)(x:Ext G s s')(ac:bz G (.set ke) (Dd::O) s'.heap Dd out)(hl:(kT out).length<64)
  (q:∀v s2,Ext G s s2->av G.w O s2.heap v (.list ((iz (kT out)).map .str))->Q v s2):wpAny (br G) A (call (.builtin "sorted") [.ref Dd]) Q E s' :=
 A2 hh ac.1 hl (rC (l:=[]) ac.2 (fun _ m=>nomatch m)) x ov q
theorem lX:∀ss:List Str,kx (ss.map PyData.str)=some ss
 |[]=>rfl
 |x::r=>by show(kx (r.map .str)).map (x :: ·)=_;rw[lX r];rfl
end
end
section
section
variable {α:Type}
def gE (l:List α)(k:α->Bool):Bool:=aZ l fun a r=>bK r (k a)
@[elab_as_elim] theorem aS {k:α->Bool}{P:List α->Prop}(h:gE l k=true)(q:∀a,k a=true->P [a]):P l:=by refine ar h fun a r h=>?_;exact aJ h fun h=>q a h
end
def xJ (x:Expr)(k:Str->Bool):Bool:=eB x fun z _ _=>tE z k
@[elab_as_elim] theorem nG {k:Str->Bool}{P:Expr->Prop}(h:xJ x k=true)(q:∀y n p,k y=true->P (.Constant (.str y) n p)):P x:=by refine cA h fun z n p h=>?_;exact jB h fun y h=>q y n p h
def zg (x:Expr)(o:UnaryOp)(k:Expr->Bool):Bool:=ka x fun z y _=>Dq z o (k y)
@[elab_as_elim] theorem kP {k:Expr->Bool}{P:Expr->Prop}(h:zg x o k=true)(q:∀y p,k y=true->P (.UnaryOp o y p)):P x:=by refine jE h fun z y p h=>?_;exact rX h fun h=>q y p h
def xE (x:Expr)(k:Expr->CmpOp->Expr->Bool):Bool:=rW x fun l os rs _=>gE os fun o=>gE rs fun r=>k l o r
@[elab_as_elim] theorem nC {k:Expr->CmpOp->Expr->Bool}{P:Expr->Prop}(h:xE x k=true)(q:∀l o r p,k l o r=true->P (.Compare l [o] [r] p)):P x:=by refine qa h fun l os rs p h=>?_;refine aS h fun o h=>?_;exact aS h fun r h=>q l o r p h
def bY (x:Expr)(k:Str->dU->Bool):Bool:=tF x fun f es ks _=>bD f fun y _=>bK ks (k y es)
@[elab_as_elim] theorem aP {k:Str->dU->Bool}{P:Expr->Prop}(h:bY x k=true)(q:∀y np es p,k y es=true->P (.Call (.Name y np) es [] p)):P x:=by refine nB h fun f es ks p h=>?_;refine aF h fun y np h=>?_;exact aJ h fun h=>q y np es p h
def lK (x:Expr)(k:Expr->Str->Pos->dU->Pos->Bool):Bool:=tF x fun f es ks p=>nA f fun o y ap=>bK ks (k o y ap es p)
@[elab_as_elim] theorem fZ {k:Expr->Str->Pos->dU->Pos->Bool}{P:Expr->Prop}(h:lK x k=true)(q:∀o y ap es p,k o y ap es p=true->P (.Call (.Attribute o y ap) es [] p)):P x:=by refine nB h fun f es ks p h=>?_;refine na h fun o y ap h=>?_;exact aJ h fun h=>q o y ap es p h
structure Cx where
 nm:List Str
 sc:List (Str × NameKind)
 own:aH
noncomputable def DY (c:Cx)(x:Str):Bool:=c.sc.lookup x==some .local || c.sc.lookup x==some .cell || c.sc.lookup x==some .free
def ia (c:Cx)(n:Nat)(x:Str):Bool:=c.nm[n]?==some x&&DY c x&&!(x==("__classdict__" : Str))&&!(x==("__debug__" : Str))
noncomputable def hH (c:Cx)(x:Str):Bool:=c.sc.lookup x==some .globalImplicit&&!(x==("__debug__" : Str))
noncomputable def hV (c:Cx)(x:Str):Bool:=c.sc.lookup x==some .globalImplicit
def nX:Const->D->Bool
 |.none,d=>match d with|.none=>true|_=>false
 |.bool a,d=>match d with|.bool b=>a==b|_=>false
 |.int a,d=>match d with|.int b=>a==b|_=>false
 |.str a,d=>match d with|.str b=>a==b&&sok (.str a)|_=>false
 |_,_=>false
noncomputable def xt:List Str->List (Option Expr)->Bool
 |[],ks=>bK ks true
 |k::r,ks=>aZ ks fun o ks=>fQ o fun e=>eB e fun z _ _=>tE z fun x=>(x==k&&xt r ks)
noncomputable def yk:List Str->dU->Bool
 |[],ks=>bK ks true
 |k::r,ks=>aZ ks fun e ks=>eB e fun z _ _=>tE z fun x=>(x==k&&yk r ks)
noncomputable def tgNames (c:Cx):aH->dU->Bool
 |[],es=>bK es true
 |n::ns,es=>aZ es fun e es=>bD e fun x _=>(c.nm[n]?==some x&&(c.sc.lookup x==some .local || c.sc.lookup x==some .cell)&&!c.own.contains n&&tgNames c ns es)
def t7 (c:Cx)(ns:aH)(e:Expr):Bool:=(bD e fun x p=>tgNames c ns [.Name x p]&&ns.length==1) || gd e fun es _ _=>tgNames c ns es&&decide (2<=ns.length)
def DZ (src:Bl)(tg:Expr):Bool:=match src with
 |.e _=>ch tg
 |.own _=>ch tg
 |.r _=>wH tg
 |.enum _=>wI tg
 |.rev _=>wH tg
 |.zip _=>wI tg
noncomputable def vF (src:Bl):Bool:=match src with|.own _=>true|_=>false
mutual
noncomputable def bn (c:Cx):E->Expr->Bool
 |.l d,x=>eB x fun k w1 w2=>(nX k d)
 |.v n,x=>bD x fun y w1=>(ia c n y&&!c.own.contains n)
 |.g n,x=>bD x fun y w1=>(hH c y&&c.nm[n]?==some y)
 |.b o a b,x=>tD x fun l o' r w1=>(decide (o=o')&&bn c a l&&bn c b r)
 |.n a,x=>zg x .USub fun y=>bn c a y
 |.w a,x=>zg x .Invert fun y=>bn c a y
 |.q o a b,x=>xE x fun l o' r=>(decide (o=o')&&!behindInMarks o r&&bn c a l&&bn c b r)
 |.z a,x=>zg x .Not fun y=>bn c a y
 |.o o xs,x=>vP x fun o' ys w1=>(decide (o=o')&&dC c xs ys)
 |.e a b d,x=>tH x fun t y z w1=>(bn c a t&&bn c b y&&bn c d z)
 |.i xs,x=>tI x fun es w1=>(dC c xs es)
 |.t xs,x=>gd x fun es w1 w2=>(dC c xs es)
 |.d kvs,x=>Dp x fun ks vs w1=>(xd kvs&&xt (kvs.map (·.1)) ks&&yk (kvs.map (·.2)) vs)
 |.p elt gs,x=>iQ x fun e gens scope w1=>(decide (scope.kind=.function)&&!gens.isEmpty&&fB c.nm c.sc scope.names (nT gs)&&decide ((nT gs).Nodup)&&bn { c with sc:=ko scope.names c.sc } elt e&&nq c { c with sc:=ko scope.names c.sc } scope.names true gs gens)
 |.c f args,x=>bY x fun y es=>(hH c y&&c.nm[f]?==some y&&dC c args es)
 |.f f args,x=>bY x fun y es=>(decide (y=f.nm)&&hV c y&&dC c args es)
 |.m m o args,x=>lK x fun ob y ap es p=>(decide (y=m.name)&&gT ob&&(ap.endLine==p.line)&&decide (es.length<30)&&bn c o ob&&dC c args es)
 |.r a y z,x=>lK x fun ob n ap es p=>aZ es fun e1 r=>xJ e1 fun y'=>gE r fun e2=>xJ e2 fun z'=>(decide (n = "replace")&&decide (y=y')&&decide (z=z')&&!(y==z)&&gT ob&&(ap.endLine==p.line)&&bn c a ob)
 |.setlen a,x=>bY x fun f es=>gE es fun e=>bY e fun f2 es2=>gE es2 fun e2=>(decide (f = "len")&&decide (f2 = "set")&&hV c f&&hV c f2&&bk e2&&bn c a e2)
 |.ssc e gs,x=>bY x fun f es=>gE es fun z=>nc z fun ke gens scope w1=>(decide (f = "sorted")&&hV c f&&decide (scope.kind=.function)&&fB c.nm c.sc scope.names (nT gs)&&decide ((nT gs).Nodup)&&bn { c with sc:=ko scope.names c.sc } e ke&&nq c { c with sc:=ko scope.names c.sc } scope.names true gs gens)
 |.s a i,x=>eH x fun v s w1=>(gD s&&bn c a v&&bn c i s)
 |.a a lo hi st,x=>eH x fun v z1 w2=>tK z1 fun l h t w1=>(bn c a v&&EY c lo l&&EY c hi h&&EY c st t)
 |.olen n,x=>bY x fun f es=>gE es fun z=>bD z fun y _=>(decide (f = "len")&&hV c f&&ia c n y&&c.own.contains n)
 |.oget n i,x=>eH x fun z1 s w2=>bD z1 fun y w1=>(gD s&&ia c n y&&c.own.contains n&&bn c i s)
 |.ocall f n args,x=>bY x fun g es=>aZ es fun z es=>bD z fun y _=>(hH c g&&c.nm[f]?==some g&&ia c n y&&c.own.contains n&&dC c args es)
noncomputable def dC (c:Cx):Es->dU->Bool
 |.n,xs=>bK xs true
 |.c e r,xs=>aZ xs fun x xs=>(bk x&&bn c e x&&dC c r xs)
noncomputable def EY (c:Cx):Os->Option Expr->Bool
 |.n,x=>gF x true
 |.y e,x=>fQ x fun y=>(bn c e y)
noncomputable def w5 (c:Cx):Bl->Expr->Bool
 |.e a,x=>jA x&&bn c a x
 |.own n,x=>bD x fun y w1=>(ia c n y&&c.own.contains n)
 |.r args,x=>bY x fun y es=>(decide (y = "range")&&hV c y&&dC c args es)
 |.enum a,x=>bY x fun y es=>gE es fun e=>(decide (y = "enumerate")&&hV c y&&bk e&&bn c a e)
 |.rev a,x=>bY x fun y es=>gE es fun e=>(decide (y = "reversed")&&hV c y&&bk e&&bn c a e)
 |.zip args,x=>bY x fun y es=>(decide (y = "zip")&&hV c y&&dC c args es)
noncomputable def nq (c ci:Cx)(orig:List (Str × NameKind))(top:Bool):Gs->List Comprehension->Bool
 |.n,gens=>bK gens true
 |.c tg src ifs r,gens=>aZ gens fun g gens=>(decide (g.is_async=0)&&t7 ci tg g.target&&t7 { ci with sc:=orig } tg g.target&&DZ src g.target&&(top || (!vF src&&!eG src))&&w5 c src g.iter&&dC ci ifs g.ifs&&nq ci ci orig false r gens)
end
end
section
theorem oQ {P:Prop}(h:(a&&b)=true)(k:a=true->b=true->P):P:=k ((ah h).1) ((ah h).2)
theorem gv {P:Prop}(h:(a&&b&&c)=true)(k:a=true->b=true->c=true->P):P:=k ((ah (ah h).1).1) ((ah (ah h).1).2) ((ah h).2)
theorem ig {P:Prop}(h:(a&&b&&c&&d)=true)(k:a=true->b=true->c=true->d=true->P):P:=k ((ah (ah (ah h).1).1).1) ((ah (ah (ah h).1).1).2) ((ah (ah h).1).2) ((ah h).2)
theorem qZ {P:Prop}(h:(a&&b&&c&&d&&e)=true)(k:a=true->b=true->c=true->d=true->e=true->P):P:=k ((ah (ah (ah (ah h).1).1).1).1) ((ah (ah (ah (ah h).1).1).1).2) ((ah (ah (ah h).1).1).2) ((ah (ah h).1).2) ((ah h).2)
theorem jj {P:Prop}(h:(a&&b&&c&&d&&e&&f)=true)(k:a=true->b=true->c=true->d=true->e=true->f=true->P):P:=k ((ah (ah (ah (ah (ah h).1).1).1).1).1) ((ah (ah (ah (ah (ah h).1).1).1).1).2) ((ah (ah (ah (ah h).1).1).1).2) ((ah (ah (ah h).1).1).2) ((ah (ah h).1).2) ((ah h).2)
theorem GT {P:Prop}(h:(a&&b&&c&&d&&e&&f&&g)=true)(k:a=true->b=true->c=true->d=true->e=true->f=true->g=true->P):P:=k ((ah (ah (ah (ah (ah (ah h).1).1).1).1).1).1) ((ah (ah (ah (ah (ah (ah h).1).1).1).1).1).2) ((ah (ah (ah (ah (ah h).1).1).1).1).2) ((ah (ah (ah (ah h).1).1).1).2) ((ah (ah (ah h).1).1).2) ((ah (ah h).1).2) ((ah h).2)
theorem uq {P:Prop}(h:(a&&b&&c&&d&&e&&f&&g&&x)=true)(k:a=true->b=true->c=true->d=true->e=true->f=true->g=true->x=true->P):P:=k ((ah (ah (ah (ah (ah (ah (ah h).1).1).1).1).1).1).1) ((ah (ah (ah (ah (ah (ah (ah h).1).1).1).1).1).1).2) ((ah (ah (ah (ah (ah (ah h).1).1).1).1).1).2) ((ah (ah (ah (ah (ah h).1).1).1).1).2) ((ah (ah (ah (ah h).1).1).1).2) ((ah (ah (ah h).1).1).2) ((ah (ah h).1).2) ((ah h).2)
section
variable {G:GC}{A:Around}{S:cL}
structure cy (G:GC)(A:Around)(S:cL)(c:Cx)(env:Env)(own:dK):Prop where
 nm:c.nm=G.names
 sc:env.scope.names=c.sc
 ow:∀n,c.own.contains n=true↔n∈own.ns
 fn:env.scope.kind=.function
 F:kq G A S.cal
 gl:g8 G S.gl
 hh:A.handled=none
 hu:A.units+100<cLine
variable {c:Cx}{env:Env}{own:dK}
theorem cy.name (X:cy G A S c env own)(h:ia c n x=true):gt G env n x:=by
 obtain⟨h,h4⟩:=bH h;obtain⟨h,h3⟩:=bH h;obtain⟨h1,h2⟩:=bH h;refine⟨X.nm▸eC h1, ?_,(Bool.not_eq_true' _).mp h3,(Bool.not_eq_true' _).mp h4⟩;have e:env.kindOf x=c.sc.lookup x:=by show env.scope.names.lookup x=_;rw[X.sc]
 rw[e];rcases Bool.or_eq_true_iff.mp h2 with h|h
 .exact(Bool.or_eq_true_iff.mp h).elim (fun h=>⟨_,eC h, .inl rfl⟩) fun h=>⟨_,eC h, .inr (.inl rfl)⟩
 .exact⟨_,eC h, .inr (.inr rfl)⟩
theorem cy.own' (X:cy G A S c env own)(h:c.own.contains n=true):n∈own.ns:=(X.ow n).mp h
theorem cy.nown (X:cy G A S c env own)(h:(!c.own.contains n)=true):n∉own.ns:=fun m=>by rw[(X.ow n).mpr m]at h;exact ff h
theorem cy.glob (X:cy G A S c env own)(h:hH c x=true):env.kindOf x=some .globalImplicit/\(x==("__debug__" : Str))=false:=by obtain⟨h1,h2⟩:=bH h;exact⟨by show env.scope.names.lookup x=_;rw[X.sc];exact eC h1,(Bool.not_eq_true' _).mp h2⟩
theorem cy.isG (X:cy G A S c env own)(h:hV c x=true):env.kindOf x=some .globalImplicit:=by show env.scope.names.lookup x=_;rw[X.sc];exact eC h
theorem cy.nmOf (X:cy G A S c env own){n:Nat}{x:Str}(h:(c.nm[n]?==some x)=true):G.names[n]?=some x:=X.nm▸eC h
theorem cy.tgNames (X:cy G A S c env own):∀{ns:aH}{es:dU},Internal.tgNames c ns es=true->oL G env own es ns
 |[],es,h=>by have h:bK es true=true:=h;refine aJ h fun _=>.nil
 |n::ns,es,h=>by
  refine ar h fun e es h=>?_;refine aF h fun x _ h=>?_
  .simp only[g9,Bool.or_eq_true,beq_iff_eq]at h;obtain⟨⟨⟨h1,h2⟩,h3⟩,h4⟩:=h;have e:∀y,env.kindOf y=c.sc.lookup y:=fun y=>by show env.scope.names.lookup y=_;rw[X.sc]
   rcases h2 with h2|h2
   .exact .cons (X.nm▸h1) ((e _).trans h2) (.inl rfl) (X.nown h3) (cy.tgNames X h4)
   .exact .cons (X.nm▸h1) ((e _).trans h2) (.inr rfl) (X.nown h3) (cy.tgNames X h4)
theorem cy.target (X:cy G A S c env own)(h:t7 c ns e=true):cQ G env own e ns:=by
 refine(Bool.or_eq_true_iff.mp h).elim (fun h=>?_) fun h=>?_
 .refine aF (P:=fun e=>cQ G env own e ns) h fun x p h=>?_;have:=X.tgNames (bH h).1;cases this with
  |cons h1 h2 h3 h4 h5=>cases h5;exact .name (.cons h1 h2 h3 h4 .nil)
 .exact dR (P:=fun e=>cQ G env own e ns) h fun es _ _ h=>.tup (X.tgNames (bH h).1) (bX (bH h).2)
theorem iW {own:aH}{orig:List (Str × NameKind)}:∀{ns:aH}{es:dU},Internal.tgNames ⟨nm,orig,own⟩ ns es=true->∀n∈ns,∃x,nm[n]?=some x/\(orig.lookup x=some .local\/orig.lookup x=some .cell)
 |[],es,h,n,m=>by cases m
 |k::ns,es,h,n,m=>by
  refine ar h fun e es h=>?_;refine aF h fun x _ h=>?_
  .simp only[g9,Bool.or_eq_true,beq_iff_eq]at h;obtain⟨⟨⟨h1,h2⟩,h3⟩,h4⟩:=h;rcases bM m with rfl|m
   .exact⟨_,h1,h2⟩
   .exact iW h4 n m
theorem Bb {own:aH}{orig:List (Str × NameKind)}{ns:aH}{e:Expr}(h:t7 ⟨nm,orig,own⟩ ns e=true):∀n∈ns,∃x,nm[n]?=some x/\(orig.lookup x=some .local\/orig.lookup x=some .cell):=by
 refine(Bool.or_eq_true_iff.mp h).elim (fun h=>?_) fun h=>?_
 .exact aF (P:=fun _=>_) h fun x p h=>iW (bH h).1
 .exact dR (P:=fun _=>_) h fun es _ _ h=>iW (bH h).1
theorem pK:∀{ks:List Str}{es:List (Option Expr)},xt ks es=true->es.length=ks.length/\∀(i:Nat) x,ks[i]?=some x->∃k pp,es[i]?=some (some (.Constant (.str x) k pp))
 |[],es,h=>by have h:bK es true=true:=h;exact aJ h fun _=>⟨rfl,fun i x e=>(nomatch e)⟩
 |k::r,es,h=>by
  refine ar h fun o es h=>?_;refine da h fun o h=>?_;refine cA h fun z _ _ h=>?_;refine jB h fun x h=>?_
  .obtain⟨h1,h2⟩:=bH h;obtain⟨a,b⟩:=pK h2;refine⟨by simp[a],fun i x e=>?_⟩;cases i with
   |zero=>simp at e;subst e;rw[eC h1];exact⟨_,_,rfl⟩
   |succ i=>simpa using b i x (by simpa using e)
theorem qJ:∀{ks:List Str}{es:dU},yk ks es=true->es.length=ks.length/\∀(i:Nat) x,ks[i]?=some x->∃k pp,es[i]?=some (.Constant (.str x) k pp)
 |[],es,h=>by have h:bK es true=true:=h;exact aJ h fun _=>⟨rfl,fun i x e=>(nomatch e)⟩
 |k::r,es,h=>by
  refine ar h fun o es h=>?_;refine cA h fun z _ _ h=>?_;refine jB h fun x h=>?_
  .obtain⟨h1,h2⟩:=bH h;obtain⟨a,b⟩:=qJ h2;refine⟨by simp[a],fun i x e=>?_⟩;cases i with
   |zero=>simp at e;subst e;rw[eC h1];exact⟨_,_,rfl⟩
   |succ i=>simpa using b i x (by simpa using e)
theorem Ld {P:Prop}(h:true=false):P:=Bool.noConfusion h
theorem Fu {P:Prop}(h:false=true):P:=Bool.noConfusion h
theorem za {x:α}{P:Prop}(h:(none:Option α)=some x):P:=Option.noConfusion rfl (heq_of_eq h)
theorem iw (h:(!b)=true):b=false:=by cases b;rfl;exact ff h
structure wF (G:GC)(A:Around)(S:cL)(e0:E)(x:Expr)(env:Env)(own:dK)(O:a9)(ρ:aB):Prop where
 e:∀d,ev S ρ e0=some d->bw G A x env own O ρ d
 t:∀b,evT S ρ e0=some b->mC G A x env own O ρ b
theorem wF.plain {e:E}{x:Expr}{O:a9}{ρ:aB}(hp:zj x=true)(h:∀d,ev S ρ e=some d->bw G A x env own O ρ d)(ht:evT S ρ e=(ev S ρ e).bind eJ):wF G A S e x env own O ρ:=
 ⟨h,fun b hb=>au (ht▸hb) fun d h1 h2=>IU hp (h d h1) h2⟩
theorem wF.none {e:E}{x:Expr}{O:a9}{ρ:aB}(h:∀d,ev S ρ e=some d->bw G A x env own O ρ d)(ht:evT S ρ e=none):wF G A S e x env own O ρ:=
 ⟨h,fun b hb=>za (ht.symm.trans hb)⟩
structure Mv (G:GC)(A:Around)(S:cL)(es:Es)(xs:dU)(env:Env)(own:dK)(O:a9)(ρ:aB):Prop where
 ns:ct xs=true
 el:∀ds,kI S ρ es=some ds->kZ G A xs env own O ρ ds
 bo:∀o d,B9 S ρ o es=some d->ul G A o xs env own O ρ d
 al:∀o b,jn S ρ o es=some b->oM G A env own O ρ o xs b
def bF (G:GC)(A:Around)(S:cL)(e:E):Prop:=∀{c:Cx}{x:Expr}{env:Env}{own:dK}{O:a9}{ρ:aB},cy G A S c env own->bn c e x=true->wF G A S e x env own O ρ
def dA (G:GC)(A:Around)(S:cL)(es:Es):Prop:=∀{c:Cx}{xs:dU}{env:Env}{own:dK}{O:a9}{ρ:aB},cy G A S c env own->dC c es xs=true->Mv G A S es xs env own O ρ
theorem dA.ns (k:dA G A S es)(X:cy G A S c env own)(h:dC c es xs=true):ct xs=true:=(k (O:=[]) (ρ:=[]) X h).ns
def qY (G:GC)(A:Around)(S:cL)(os:Os):Prop:=∀{c:Cx}{x:Option Expr}{env:Env}{own:dK}{O:a9}{ρ:aB},cy G A S c env own->EY c os x=true->∀od,Ch S ρ os=some od->mA G A x env own O ρ od
def eZ (G:GC)(A:Around)(S:cL)(src:Bl):Prop:=∀{c:Cx}{iter tg:Expr}{env:Env}{own:dK}{O:a9}{ρ:aB},cy G A S c env own->w5 c src iter=true->DZ src tg=true->∀ds,dZ S ρ src=some ds->i0 G A (eG src) iter env own O ρ tg ds (!vF src)/\jA iter=true
def k5 (G:GC)(A:Around)(S:cL)(r:Gs):Prop:=∀{ci:Cx}{env:Env}{own:dK}{O WC:a9}{Dd:Addr}{kd:CK}{gens suf:List Comprehension}{scope:Scope}{pos:Pos}{k:Nat}{eltf:aB->Option D},cy G A S ci env own->nq ci ci scope.names false r suf=true->gens.drop (k+1)=suf ->
  iZ G env own O WC Dd->env.locals∈WC->(∀x c,(x,NameKind.cell)∈scope.names->env.cells.lookup x=some c->c∈WC)->(∀x,scope.names.lookup x=some .local->env.kindOf x=some .local) ->
  (∀j ρ d,gens[j+1]?=none->eltf ρ=some d->fW G A kd gens scope pos j env own O WC Dd ρ [d])->∀ρ out,(∀n∈nT r,ρ.get n=none)->(nT r).Nodup->qP S ρ ρ eltf r=some out->fW G A kd gens scope pos k env own O WC Dd ρ out
set_option tactic.hygienic true in
theorem zV (h:nX k d=true):bw G A (.Constant k n pos) env own O ρ d:=by
 rcases k with⟨⟩|⟨⟩
 case none =>
  rcases d with⟨⟩|⟨⟩
  case none=>exact Bv
  all_goals exact absurd h nP
 case bool a =>
  rcases d with⟨⟩|⟨⟩
  case bool b=>rw[eC (show(a==b)=true from h)];exact Br
  all_goals exact absurd h nP
 case int a =>
  rcases d with⟨⟩|⟨⟩
  case int b=>rw[eC (show(a==b)=true from h)];exact sP
  all_goals exact absurd h nP
 case str a =>
  rcases d with⟨⟩|⟨⟩
  case str b =>
   obtain⟨h1,h2⟩:=bH (show(a==b&&sok (.str a))=true from h);have:=eC h1;subst this;exact EO h2
  all_goals exact absurd h nP
 all_goals exact absurd h nP
end
end
section
section
variable {G:GC}{A:Around}{S:cL}
theorem Cq 
  (X:cy G A S ci env own)(hg:gens[k]?=some ⟨target,iter,ifs',0⟩)(hg':∀g',gens[k+1]?=some g'->g'.is_async=0)(ht:t7 ci tg target=true)(hto:t7 { ci with sc:=scope.names } tg target=true)
  (hl:env.locals∈WC)(hw:∀x c,(x,NameKind.cell)∈scope.names->env.cells.lookup x=some c->c∈WC)(hkn:∀x,scope.names.lookup x=some .local->env.kindOf x=some .local)
  (hno:∀n∈tg++nT r,ρ.get n=none)(hnd:(tg++nT r).Nodup)
  (htests:∀ρ' b,jn S ρ' .And ifs=some b->oM G A env own O ρ' .And ifs' b)
  (hinner:∀ρ' out,(∀n∈nT r,ρ'.get n=none)->qP S ρ' ρ' eltf r=some out->fW G A kd gens scope pos k env own O WC Dd ρ' out) :
  um G A env own O WC Dd kd gens scope pos k target iter ifs' tg ρ (fun it=>(bE ρ tg it).bind fun ρ'=>(jn S ρ' .And ifs).bind fun b=>bif b then qP S ρ' ρ' eltf r else some []) ds:=by
 refine⟨hg,hg',X.target ht,fun n m=>hno n (mv _ m),⟨hl,fun n m x c h1 h2 h3=>?_⟩,fun x ρ' a hx hb hf=>?_,fun x hx hs=>?_⟩
 .obtain⟨y,e1,e2⟩:=Bb hto n m;obtain rfl:y=x:=aC (e1.symm.trans (X.nm▸h1));rcases e2 with e2|e2
  .exact nomatch (hkn _ e2).symm.trans h2
  .exact hw _ _ (mem_of_lookup e2) h3
 .rw[hb]at hf;refine au (o:=jn S ρ' .And ifs) hf fun b ha hf=>EV (htests ρ' b ha) (fun e=>?_) (fun e=>?_)
  .subst e;exact hinner ρ' a (fun n m=>(rj hb n (fun q=>(List.nodup_append.mp hnd).2.2 n q n m rfl)).trans (hno n (kK _ m))) hf
  .subst e;exact(aC hf).symm
 .obtain⟨a,e⟩:=Option.isSome_iff_exists.mp hs;exact au e fun ρ' e _=>⟨ρ',e⟩
theorem jv:∀{ds out:List D},(∀x a,f x=some a->a.length<=1)->eQ f ds=some out->out.length<=ds.length
 |[],out,h,e=>aC e▸gC _
 |x::xs,out,h,e=>by obtain⟨a,b,h1,h2,rfl⟩:=nu e;rw[lla,nR,Nat.add_comm];exact pW (jv h h2) (h x a h1)
theorem xZ (hs:DW (.c tg src ifs r)=true)(hx:((bE ρ tg x).bind fun ρ'=>(jn S ρ' .And ifs).bind fun b=>bif b then qP S ρ' ρ' eltf r else some [])=some a):a.length<=1:=by
 rcases r with⟨⟩|⟨⟩
 .exact au hx fun ρ' _ hx=>oU hx (fun _ h=>kL (P:=fun a=>a.length<=1) h fun d _=>gC _) fun _ h=>aC h▸nv _
 .exact Fu hs
theorem vo (h:nq c ci orig top r gens=true):∀g',gens[0]?=some g'->g'.is_async=0:=by
 rcases r with⟨⟩|⟨tg,src,ifs,r⟩
 .exact aJ (P:=fun gens=>∀g',gens[0]?=some g'->g'.is_async=0) h fun _ g' e=>nomatch e
 .exact ar (P:=fun gens=>∀g',gens[0]?=some g'->g'.is_async=0) h fun g gens h g' e=>aC e▸uq h fun h _ _ _ _ _ _ _=>bX h
theorem rT:∀{ρ:aB}(h:(ρ.all fun p=>a8 p.2)=true)(n:Nat) (d:D)(e:ρ.get n=some d),a8 d=true
 |[],_,_,_,e=>nomatch e
 |p::r,h,n,d,e=>by
  obtain⟨h1,h2⟩:=bH (show(a8 p.2&&r.all fun p=>a8 p.2)=true from h);rw[aB.get_cons]at e;by_cases c:n=p.1
  .rw[if_pos c]at e;exact aC e▸h1
  .rw[if_neg c]at e;exact rT h2 n d e
theorem GO (e:dZ S ρ src=some ds)(hz:eG src=true):∀n d,ρ.get n=some d->a8 d=true:=by
 rcases src with _|_|_|_|es|_
 case zip=>exact fun n d g=>au e fun _ _ e=>au e fun _ _ e=>fj (P:=fun _=>a8 d=true) e fun c=>rT c n d g
 all_goals exact Fu hz
theorem uG {ifs:Es}{r:Gs}{gens:List Comprehension}{scope:Scope}{pos pos':Pos}{out:List D}{s:Shared}{use:Option (Value->Sem Unit)}{Q E:bg}
  (helt:∀{cenv:Env}{O' WC:a9}{Dd:Addr},cy G A S { c with sc:=ko scope.names c.sc } cenv own->iZ G cenv own O' WC Dd->∀j ρ d,gens[j+1]?=none->eltf ρ=some d->fW G A kd gens scope pos j cenv own O' WC Dd ρ [d])
  (hsrc:eZ G A S src)(hifs:dA G A S ifs)(hr:k5 G A S r)
  (X:cy G A S c env own)(hk:decide (scope.kind=.function)=true)(hsc:fB c.nm c.sc scope.names (tg++nT r)=true)(hnd:decide ((tg++nT r).Nodup)=true) (h:nq c { c with sc:=ko scope.names c.sc } scope.names true (.c tg src ifs r) gens=true)
  (hout:qP S ρ (ρ.del (tg++nT r)) eltf (.c tg src ifs r)=some out) (hlen':∀ds,dZ S ρ src=some ds->ds.length<=16777216->out.length<=pQ kd)(hzo:eG src=true->bf out=true)(I:di G A env own O ρ s)
  (fin:∀C D s',out.length<=pQ kd->Ext G s s'->C≠D->s.heap.get? C=none->s.heap.get? D=none->G.h₀.get? C=none->G.h₀.get? D=none->(∃m,s'.heap.Ns C m)->bz G kd (C::D::O) s'.heap D out ->
   di G A env own (C::D::O) ρ s'->compPost (br G) A E use Q (.ref D) C (.ok .next) s') :
  wpAny (br G) A (comprehension (kd.expr gens scope pos) scope env pos' kd.new (firstAsync gens) (firstIter gens env) use) Q E s:=by
 revert helt;refine ar h fun g gens h=>uq h fun ha h1 h2 h3 _ h4 h5 h6 helt=>?_;obtain⟨target,iter,ifs',as⟩:=g;obtain rfl:as=0:=bX ha;refine au hout fun ds hds hout=>?_;have hs:=hsrc (tg:=target) (O:=O) (ρ:=ρ) X h4 h3 ds hds;have hso:fB G.names env.scope.names scope.names (tg++nT r)=true:=by rw[<- X.nm,X.sc];exact hsc
 refine E8 (strict:=!vF src) (tg:=tg) I hs.1 hs.2 (bX hk) hso (fun cenv O' D hce acc=>?_) (fun q=>⟨GO hds q,iP (hzo q)⟩) hout (hlen' ds hds) fin;have Xi:cy G A S { c with sc:=ko scope.names c.sc } cenv own:=⟨X.nm,by rw[hce,fA X.fn,X.sc],X.ow,by rw[hce];exact bX hk,X.F,X.gl,X.hh,X.hu⟩;have hl:cenv.locals∈Bc scope cenv:=dX;have hw:∀x c,(x,NameKind.cell)∈scope.names->cenv.cells.lookup x=some c->c∈Bc scope cenv:=fun x c m e=>dP _ (List.mem_filterMap.mpr ⟨(x, .cell),m,(if_pos rfl).trans e⟩);have hkn:∀x,scope.names.lookup x=some .local->cenv.kindOf x=some .local:=fun x e=>by show cenv.scope.names.lookup x=_;rw[hce,fA X.fn,gX,e];rfl
 have hno:∀n∈tg++nT r,(ρ.del (tg++nT r)).get n=none:=fun n m=>by rw[aB.get_del,if_pos (List.contains_iff_mem.mpr m)]
 exact Cq Xi rfl (vo h6) h1 h2 hl hw hkn hno (bX hnd) (fun ρ' b hb=>(hifs Xi h5).al .And b hb) (fun ρ' out' hno' he'=>hr Xi h6 rfl acc hl hw hkn (helt Xi acc) ρ' out' hno' (List.nodup_append.mp (bX hnd)).2.1 he')
theorem rq {r:Gs}{e:Expr}{gens:List Comprehension}{scope:Scope}{pos pos':Pos}{d:D}{s:Shared}{use:Option (Value->Sem Unit)}{Q E:bg}
  (helt:bF G A S elt)(hsrc:eZ G A S src)(hifs:dA G A S ifs)(hr:k5 G A S r)
  (X:cy G A S c env own)(h:bn c (.p elt (.c tg src ifs r)) (.ListComp e gens scope pos)=true) (he:ev S ρ (.p elt (.c tg src ifs r))=some d) (I:di G A env own O ρ s)
  (fin:∀C D s' out,d=.list out->out.length<=16777216->Ext G s s'->C≠D->s.heap.get? C=none->s.heap.get? D=none->G.h₀.get? C=none->G.h₀.get? D=none->(∃m,s'.heap.Ns C m)->bz G (.list e) (C::D::O) s'.heap D out ->
   di G A env own (C::D::O) ρ s'->compPost (br G) A E use Q (.ref D) C (.ok .next) s') :
  wpAny (br G) A (comprehension (.ListComp e gens scope pos) scope env pos' (newList []) (firstAsync gens) (firstIter gens env) use) Q E s:=by
 have h:(decide (scope.kind=.function)&&!gens.isEmpty&&fB c.nm c.sc scope.names (tg++nT r)&&decide ((tg++nT r).Nodup)&&bn { c with sc:=ko scope.names c.sc } elt e&&nq c { c with sc:=ko scope.names c.sc } scope.names true (.c tg src ifs r) gens)=true:=h;refine jj h fun hk _ hsc hnd hel h=>?_;refine au he fun out hout e'=>?_;obtain⟨hle,ed⟩:=ay e';obtain⟨hlen,hzt⟩:=bH hle;exact uG (kd:=.list e) (fun Xi acc j ρ d hg e=>Ae acc hg ((helt Xi hel).e d e)) hsrc hifs hr X hk hsc hnd h hout
  (fun ds hds hd=>(Bool.or_eq_true_iff.mp hlen).elim (fun hl=>az (jv (fun x a hx=>xZ hl hx) (au hout fun ds' e1 e2=>aC (hds.symm.trans e1)▸e2)) hd) bX)
  (fun q=>(Bool.or_eq_true_iff.mp hzt).resolve_left fun q'=>by rw[show CD (.c tg src ifs r)=true from q]at q';exact ff q') I fun C D s' hl h0 h1 h2 h3 h4 h5 h6 h7 h8=>fin C D s' out ed.symm hl h0 h1 h2 h3 h4 h5 h6 h7 h8
section arms
variable {a b d e e2:E}{c:Cx}{x:Expr}{xs args r:Es}{n f:Nat}
theorem J8 {d:D}:bF G A S (.l d):=fun X h =>
 cA h fun k n p h=>.plain rfl (fun d' e=>aC e▸zV h) rfl
theorem Ki:bF G A S (.v n):=fun X h=>by refine aF h fun y p h=>oQ h fun h1 h2=>?_;have N:=X.name h1;obtain⟨k,hk,hkk⟩:=N.kd;exact .plain rfl (fun d e=>ER N.nm hk hkk N.h1 N.h2 (X.nown h2) e) rfl
theorem Iu:bF G A S (.g n):=fun X h =>
 aF h fun y p h=>oQ h fun h1 h2=>.plain rfl (fun d e s I Q E q =>
  let⟨v,e1,e2⟩:=X.gl n _ d (X.nmOf h2) e
  im I (X.glob h1).1 (X.glob h1).2 e1 (q v s (.refl I.base I.pos) (e2 _ _))) rfl
theorem J2 (ha:bF G A S a)(hb:bF G A S b):bF G A S (.b o a b):=fun X h=>by refine lJ h fun l o' r p h=>gv h fun q0 h1 h2=>?_;obtain rfl:=bX q0;exact .plain rfl (fun d e=>fF e fun y z g1 g2 e=>EJ ((ha X h1).e _ g1) ((hb X h2).e _ g2) e) rfl
theorem J9 (ha:bF G A S a):bF G A S (.n a):=fun X h =>
 kP h fun y p h=>.none (fun d e=>y6 e fun i g e=>aC e▸yz ((ha X h).e _ g)) rfl
theorem J6 (ha:bF G A S a):bF G A S (.w a):=fun X h =>
 kP h fun y p h=>.none (fun d e=>y6 e fun i g e=>aC e▸EM ((ha X h).e _ g)) rfl
theorem J4 (ha:bF G A S a)(hb:bF G A S b):bF G A S (.q o a b):=fun X h=>by refine nC h fun l o' r p h=>ig h fun q0 h0 h1 h2=>?_;obtain rfl:=bX q0;exact⟨fun d e=>fF e fun y z g1 g2 e=>EL X.hu (iw h0) ((ha X h1).e _ g1) ((hb X h2).e _ g2) e,fun t e=>au e fun d e e'=>fF e fun y z g1 g2 e=>IS X.hu (iw h0) ((ha X h1).e _ g1) ((hb X h2).e _ g2) e e'⟩
theorem LE (ha:bF G A S a):bF G A S (.z a):=fun X h =>
 kP h fun y p h=>⟨fun d e=>au e fun x g e=>kL e fun b e1=>Hz ((ha X h).e _ g) e1,fun t e=>kL e fun b e1=>IT ((ha X h).t _ e1)⟩
theorem J3 (hx:dA G A S xs):bF G A S (.o o xs):=fun X h=>by refine qR h fun o' ys p h=>oQ h fun q0 h1=>?_;obtain rfl:=bX q0;exact⟨fun d e=>EK ((hx X h1).bo o d e),fun t e=>IR ((hx X h1).al o t e)⟩
theorem J7 (ha:bF G A S a)(hb:bF G A S b)(hd:bF G A S d):bF G A S (.e a b d):=fun X h =>
 lM h fun t y z p h=>gv h fun h1 h2 h3 =>
  ⟨fun d' e=>oU e (fun g e=>yx ((ha X h1).t _ g) (fun _=>(hb X h2).e _ e) Ld) (fun g e=>yx ((ha X h1).t _ g) Fu fun _=>(hd X h3).e _ e),
  fun d' e=>oU e (fun g e=>Ee ((ha X h1).t _ g) (fun _=>(hb X h2).t _ e) Ld) (fun g e=>Ee ((ha X h1).t _ g) Fu fun _=>(hd X h3).t _ e)⟩
theorem Iw (hx:dA G A S xs):bF G A S (.i xs):=fun X h =>
 jC h fun es p h=>.none (fun d e=>au e fun ds g e=>fj e fun hl=>Bu ((hx X h).el _ g) hl) rfl
theorem Kh (hx:dA G A S xs):bF G A S (.t xs):=fun X h =>
 dR h fun es k p h=>.none (fun d e=>au e fun ds g e=>fj e fun hl=>EQ ((hx X h).el _ g) hl) rfl
theorem Ir:bF G A S (.d kvs):=fun X h=>by
 refine vQ h fun ks vs p h=>gv h fun h1 h2 h3=>.none (fun d e=>?_) rfl;obtain⟨a1,a2⟩:=pK h2;obtain⟨b1,b2⟩:=qJ h3;have key:∀(f:Str × Str->Str)(i:Nat) p,kvs[i]?=some p->(kvs.map f)[i]?=some (f p):=fun f i p e=>by rw[List.getElem?_map,e];rfl
 exact aC e▸Bt ⟨a1.trans (dq ..),b1.trans (dq ..),fun i p e=>⟨a2 i p.1 (key _ i p e),b2 i p.2 (key _ i p e)⟩⟩ h1
theorem Gh:bF G A S (.p e .n):=fun X h =>
 fP h fun e gens scope p h=>jj h fun _ h1 _ _ _ h2=>aJ (P:=fun gens=>(!gens.isEmpty)=true->wF ..) h2 (fun _ h1=>Fu h1) h1
theorem Iq {ifs:Es}{r:Gs}(helt:bF G A S e)(hsrc:eZ G A S src)(hifs:dA G A S ifs)(hr:k5 G A S r):bF G A S (.p e (.c tg src ifs r)):=fun X h =>
 have key:∀{x},iQ x (fun _ _ _ _=>true)=true->_:=fun{x} h=>h
 fP (P:=fun x=>bn _ (.p e (.c tg src ifs r)) x=true->wF G A S (.p e (.c tg src ifs r)) x _ _ _ _) h (fun e gens scope p _ h=>.none (fun d g s I Q E q=>by rw[eval_ListComp];exact rq (use:=none) helt hsrc hifs hr X h g I fun C D s' out e hl xs h1 h2 h3 h4 h5 h6 ac _=>uH xs h1 h2 h4 h6 ac fun s' x ac=>q _ s' x (e▸Cj h3 I.ov hl ac)) rfl) h
theorem DN (ha:bF G A S a):bF G A S (.setlen a):=fun X h=>by refine aP h fun y np es p h=>aS h fun z h=>aP h fun y2 np2 es2 p2 h=>aS h fun z2 h=>jj h fun q0 q1 h1 h2 h3 h4=>?_;obtain rfl:=bX q0;obtain rfl:=bX q1;exact .none (fun d e=>ef e fun ds g e=>fj e fun c=>wP X.hh (X.isG h1) (X.isG h2) h3 ((ha X h4).e _ g) (bH c).1 (bX (bH c).2)) rfl
theorem IB:bF G A S (.ssc e .n):=fun X h =>
 aP h fun y np es p h=>aS h fun z h=>jD h fun ke gens scope sp h=>.none (fun d e=>au e fun out _ e=>(by rw[show Lc .n=false from rfl,Bool.false_and,Bool.and_false]at e;exact nn e)) rfl
theorem DP {r:Gs}{ke:Expr}{gens:List Comprehension}{scope:Scope}{pos:Pos}{out:List D}{s:Shared}{Q E:bg}(hk:bF G A S e)(hsrc:eZ G A S src)(hifs:dA G A S ifs)(hr:k5 G A S r)
  (X:cy G A S c env own)(h2:decide (scope.kind=.function)=true)(h3:fB c.nm c.sc scope.names (tg++nT r)=true)(h4:decide ((tg++nT r).Nodup)=true) (h5:bn { c with sc:=ko scope.names c.sc } e ke=true)(h6:nq c { c with sc:=ko scope.names c.sc } scope.names true (.c tg src ifs r) gens=true)
  (hout:qP S ρ (ρ.del (tg++nT r)) (fun ρ'=>wg (ev S ρ' e) fun a=>some (.str a)) (.c tg src ifs r)=some out) (hl:out.length<=1000)(hz:Lc (.c tg src ifs r)=true)(I:di G A env own O ρ s)
  (q:∀D s',Ext G s s'->s.heap.get? D=none->bz G (.set ke) (D::O) s'.heap D out->Q (.ref D) s'):wpAny (br G) A (eval (.SetComp ke gens scope pos) env) Q E s:=by
 rw[arm_eval_SetComp];exact uG (kd:=.set ke) (use:=none) (fun Xi acc j ρ d hg e=>oE e fun x g1 e=>aC e▸Af acc hg ((hk Xi h5).e _ g1)) hsrc hifs hr X h2 h3 h4 h6 hout
  (fun _ _ _=>hl) (fun z=>by rw[show Lc (.c tg src ifs r)=!eG src from rfl,z]at hz;exact ff hz) I
  fun C D s' hl h0 h1 h2 h3 h4 h5 h6 ac _=>uH h0 h1 h2 h4 h6 ac fun s' x ac=>q D s' x h3 ac
theorem Kf {ifs:Es}{r:Gs}(hk:bF G A S e)(hsrc:eZ G A S src)(hifs:dA G A S ifs)(hr:k5 G A S r):bF G A S (.ssc e (.c tg src ifs r)):=fun X h=>by refine aP h fun y np es p h=>aS h fun z h=>jD h fun ke gens scope sp h=>GT h fun q0 h1 h2 h3 h4 h5 h6=>.none (fun d g s I Q E q=>?_) rfl;obtain rfl:=bX q0;refine au g fun out hout e'=>?_;obtain⟨hle,rfl⟩:=ay e';obtain⟨hl,ho⟩:=bH hle;obtain⟨hz,hs⟩:=bH ho;have hm:("sorted" : Str)∈cC:=Bf.sorted.mem;refine wpAny_Call_Name_kw (d8 I (X.isG h1) (iD hm) (I.ok.nb _ hm) Bf.sorted.boot (iE hm) ?_);refine Calls.callWith_builtin (cT (xs:=[.SetComp ke gens scope sp]) rfl p _) (bc rfl ?_);show wpAny _ _ (spliced [(false,eval (.SetComp ke gens scope sp) _)]) _ _ _;exact spliced_cons (DP hk hsrc hifs hr X h2 h3 h4 h5 h6 hout (bX hl) hz I fun D s' x _ ac=>spliced_nil (ya X.hh I.ov x ac (bX hs) q))
theorem Ip (hx:dA G A S args):bF G A S (.c f args):=fun X h =>
 aP h fun y np es p h=>gv h fun h1 h2 h3=>.plain rfl (fun d e=>au e fun ds g e=>Bs X.F (X.nmOf h2) (X.glob h1).1 (X.glob h1).2 (hx.ns X h3) ((hx X h3).el _ g) e) rfl
theorem LA {f:Bf}(hx:dA G A S args):bF G A S (.f f args):=fun X h=>by refine aP h fun y np es p h=>gv h fun q0 h2 h3=>?_;obtain rfl:=bX q0;exact .plain rfl (fun d e=>au e fun ds g e=>Hx X.hh (X.isG h2) (hx.ns X h3) ((hx X h3).el _ g) e) rfl
theorem LB (ho:bF G A S o)(hx:dA G A S args):bF G A S (.m m o args):=fun X h=>by refine fZ h fun ob y ap es p h=>jj h fun q0 h1 h2 h3 h4 h5=>?_;obtain rfl:=bX q0;exact .plain rfl (fun d e=>fF e fun y ds g1 g2 e=>Hy X.hu h1 (hx.ns X h5) (bX h3) h2 ((ho X h4).e _ g1) ((hx X h5).el _ g2) e) rfl
theorem IA (ha:bF G A S a):bF G A S (.r a y z):=fun X h=>by refine fZ h fun ob n ap es p h=>ar h fun e1 r h=>nG h fun y' _ _ h=>aS h fun e2 h=>nG h fun z' _ _ h=>GT h fun q0 q1 q2 h1 h2 h3 h4=>?_;obtain rfl:=bX q0;obtain rfl:=bX q1;obtain rfl:=bX q2;exact .none (fun d e=>oE e fun x g e=>fj e fun g'=>By h2 h3 (iw h1) ((ha X h4).e _ g) (bX (ah g').1) (ah g').2) rfl
theorem Kg (ha:bF G A S a)(hb:bF G A S b):bF G A S (.s a b):=fun X h =>
 cS h fun v s p h=>gv h fun h1 h2 h3=>.plain rfl (fun d e=>fF e fun y z g1 g2 e=>EP h1 ((ha X h2).e _ g1) ((hb X h3).e _ g2) e) rfl
theorem Ke {lo hi st:Os}(ha:bF G A S a)(hlo:qY G A S lo)(hhi:qY G A S hi)(hst:qY G A S st):bF G A S (.a a lo hi st):=fun X h =>
 cS h fun v z p h=>tL h fun l hh t w h=>ig h fun h1 h2 h3 h4 =>
  .none (fun d e=>fF (f:=fun x l=>(Ch S _ hi).bind fun h=>(Ch S _ st).bind fun t=>fX x l h t) e fun y l g1 g2 e=>fF e fun hh t g3 g4 e=>EN ((ha X h1).e _ g1) (hlo X h2 _ g2) (hhi X h3 _ g3) (hst X h4 _ g4) e) rfl
theorem Iz:bF G A S (.olen n):=fun X h=>by refine aP h fun f np es p h=>aS h fun z h=>aF h fun y yp h=>ig h fun q0 h1 h2 h3=>?_;obtain rfl:=bX q0;exact .none (fun d e=>ef e fun xs g e=>aC e▸Bx (X.name h2) (X.own' h3) g (X.isG h1)) rfl
theorem Iy (ha:bF G A S a):bF G A S (.oget n a):=fun X h =>
 cS h fun z s p h=>aF h fun y yp h=>ig h fun h1 h2 h3 h4 =>
  .none (fun d e=>ef e fun xs g e=>au e fun y g2 e=>Bw h1 (X.name h2) (X.own' h3) g ((ha X h4).e _ g2) e) rfl
theorem Gi (hx:dA G A S args):bF G A S (.ocall f n args):=fun X h =>
 aP h fun g np es p h=>ar h fun z es h=>aF h fun y yp h=>qZ h fun h0 h1 h2 h3 h4 =>
  .none (fun d e=>ef e fun xs g e=>au e fun ds g2 e=>au e fun d' g3 e=>fj e fun hs=>zM X.F (X.nmOf h1) (X.glob h0).1 (X.glob h0).2 (hx.ns X h4) (X.name h2) (X.own' h3) g ((hx X h4).el _ g2) g3 hs) rfl
theorem Ka:dA G A S .n:=fun X h =>
 aJ h fun _=>⟨rfl,fun ds e=>aC e▸yA,fun o d e=>za e,fun o b e=>(aC e).symm⟩
theorem zc {xs:dU}(h:bk x=true)(h':ct xs=true):ct (x::xs)=true:=kY ⟨h,h'⟩
theorem m4 {c:Bool}{x r:β}{y:Option β}(h:(if c then some x else y)=some r):(c=true->x=r)/\(c=false->y=some r):=by
 cases c
 .exact⟨Fu,fun _=>h⟩
 .exact⟨fun _=>aC h,Ld⟩
theorem Kb (he:bF G A S e):dA G A S (.c e .n):=fun X h =>
 ar h fun x xs h=>gv h fun h1 h2 h3=>aJ h3 fun _ =>
  ⟨zc h1 rfl,fun ds g=>au g fun d' hd g=>aC g▸ur ((he X h2).e _ hd) yA (cr h1 []),fun o d g=>EW ((he X h2).e d g),
  fun o t g=>au g fun c' hc g=>⟨c',(he X h2).t _ hc,fun q=>((m4 g).1 q).symm,fun q=>(aC ((m4 g).2 q)).symm⟩⟩
theorem Ix (he:bF G A S e)(hr:dA G A S (.c e2 r)):dA G A S (.c e (.c e2 r)):=fun X h=>by
 refine ar h fun x xs h=>gv h fun h1 h2 h3=>?_;refine⟨zc h1 (hr.ns X h3),fun ds g=>fF g fun d' ds' hd hds g=>aC g▸ur ((he X h2).e _ hd) ((hr X h3).el _ hds) (cr h1 _),fun o d g=>au g fun d' hd g=>au g fun t ht g=>?_,fun o t g=>au g fun c' hc g=>⟨c',(he X h2).t _ hc,fun q=>((m4 g).1 q).symm,fun q=>(hr X h3).al o t ((m4 g).2 q)⟩⟩;rcases xs with⟨⟩|⟨y,ys⟩
 .exact Fu h3
 .exact BE ((he X h2).e _ hd) ht (fun q=>(m4 g).1 q) fun q=>(hr X h3).bo o d ((m4 g).2 q)
theorem LC:qY G A S .n:=fun X h od e=>cZ h fun _=>aC e▸AK
theorem Kj (ha:bF G A S a):qY G A S (.y a):=fun X h od e=>da h fun y h=>au e fun d g e=>aC e▸AL ((ha X h).e _ g)
theorem LF (ha:bF G A S a):eZ G A S (.e a):=fun{c iter} _ _ _ _ _ X h ht ds e =>
 oQ (a:=jA iter) (b:=bn c a iter) h fun h1 h2=>au e fun d e1 e2=>⟨Kl ((ha X h2).e _ e1) e2 ht,h1⟩
theorem Kc:eZ G A S (.own n):=fun X h ht ds e =>
 aF h fun y p h=>oQ h fun h1 h2=>ef e fun xs g e=>aC e▸⟨Gu (X.name h1) (X.own' h2) g ht,rfl⟩
theorem Gj (hx:dA G A S args):eZ G A S (.r args):=fun X h ht ds e=>by refine aP h fun y np es p h=>gv h fun q0 h1 h2=>?_;obtain rfl:=bX q0;exact au e fun es e1 e2=>⟨A3 (X.isG h1) (hx.ns X h2) ((hx X h2).el _ e1) e2 ht,rfl⟩
theorem It (ha:bF G A S a):eZ G A S (.enum a):=fun X h ht ds e=>by refine aP h fun y np es p h=>aS h fun z h=>ig h fun q0 h1 h2 h3=>?_;obtain rfl:=bX q0;exact ef e fun xs g e=>aC e▸⟨D0 (X.isG h1) h2 ((ha X h3).e _ g) ht,rfl⟩
theorem Kd (ha:bF G A S a):eZ G A S (.rev a):=fun X h ht ds e=>by refine aP h fun y np es p h=>aS h fun z h=>ig h fun q0 h1 h2 h3=>?_;obtain rfl:=bX q0;exact ef e fun xs g e=>aC e▸⟨Gv (X.isG h1) h2 ((ha X h3).e _ g) ht,rfl⟩
theorem Kk (hx:dA G A S args):eZ G A S (.zip args):=fun X h ht ds e=>by refine aP h fun y np es p h=>gv h fun q0 h1 h2=>?_;obtain rfl:=bX q0;exact au e fun es' e3 e=>au e fun out e4 e=>fj (P:=fun ds=>i0 _ _ _ _ _ _ _ _ _ ds _/\_) e fun _=>⟨Gw (X.isG h1) (hx.ns X h2) ((hx X h2).el _ e3) e4 ht,rfl⟩
theorem JH:k5 G A S .n:=fun X h hd a hl hw hkn he ρ out hno hnd e=>by revert hd;refine aJ h fun _ hd=>?_;exact kL (P:=fun out=>fW G A _ _ _ _ _ _ _ _ _ _ ρ out) e fun d e1=>he _ ρ d (Ao (List.drop_eq_nil_iff.mp hd)) e1
theorem HV {ifs:Es}{r:Gs}(hsrc:eZ G A S src)(hifs:dA G A S ifs)(hr:k5 G A S r):k5 G A S (.c tg src ifs r):=fun{ci env own O WC Dd kd gens suf scope pos k eltf} X h hd a hl hw hkn he ρ out hno hnd e=>by revert hd;refine ar h fun g suf h=>uq h fun ha h1 h2 h3 h3' h4 h5 h6 hd=>?_;obtain⟨target,iter,ifs',as⟩:=g;obtain rfl:as=0:=bX ha;refine au e fun ds hds e=>?_;obtain⟨hs,hns⟩:=hsrc (tg:=target) (O:=O) X h4 h3 ds hds;obtain⟨h3',hz⟩:=bH (show(!vF src&&!eG src)=true from h3');have hz:eG src=false:=Bool.not_eq_true' _▸hz;have hs:i0 G A false iter env own O ρ target ds true:=hz▸h3'▸hs;have hgk:=(List.getElem?_drop (i:=_+1) (j:=0)).symm.trans (congrArg (·[0]?) hd);have hd':=(List.drop_drop (i:=1)).symm.trans (congrArg (List.drop 1) hd);exact xo a (Cq X hgk (fun g' hg'=>vo h6 g' (((congrArg (·[0]?) hd').symm.trans List.getElem?_drop).trans hg')) h1 h2 hl hw hkn hno hnd (fun ρ' b hb=>(hifs X h5).al .And b hb) (fun ρ' out' hno' he'=>hr X h6 hd' a hl hw hkn he ρ' out' hno' (List.nodup_append.mp hnd).2.1 he')) hs hns e
end arms
mutual
theorem aD:∀e:E,bF G A S e
 |.l _=>J8
 |.v _=>Ki
 |.g _=>Iu
 |.b _ a b=>J2 (aD a) (aD b)
 |.n a=>J9 (aD a)
 |.w a=>J6 (aD a)
 |.q _ a b=>J4 (aD a) (aD b)
 |.z a=>LE (aD a)
 |.o _ xs=>J3 (bb xs)
 |.e a b d=>J7 (aD a) (aD b) (aD d)
 |.i xs=>Iw (bb xs)
 |.t xs=>Kh (bb xs)
 |.d _=>Ir
 |.p _ .n=>Gh
 |.p e (.c _ src ifs r)=>Iq (aD e) (gq src) (bb ifs) (lC r)
 |.c _ args=>Ip (bb args)
 |.f _ args=>LA (bb args)
 |.m _ o args=>LB (aD o) (bb args)
 |.r a _ _=>IA (aD a)
 |.setlen a=>DN (aD a)
 |.ssc _ .n=>IB
 |.ssc e (.c _ src ifs r)=>Kf (aD e) (gq src) (bb ifs) (lC r)
 |.s a b=>Kg (aD a) (aD b)
 |.a a lo hi st=>Ke (aD a) (qi lo) (qi hi) (qi st)
 |.olen _=>Iz
 |.oget _ a=>Iy (aD a)
 |.ocall _ _ args=>Gi (bb args)
theorem bb:∀es:Es,dA G A S es
 |.n=>Ka
 |.c e .n=>Kb (aD e)
 |.c e (.c e2 r)=>Ix (aD e) (bb (.c e2 r))
theorem qi:∀os:Os,qY G A S os
 |.n=>LC
 |.y a=>Kj (aD a)
theorem gq:∀src:Bl,eZ G A S src
 |.e a=>LF (aD a)
 |.own _=>Kc
 |.r args=>Gj (bb args)
 |.enum a=>It (aD a)
 |.rev a=>Kd (aD a)
 |.zip es=>Kk (bb es)
theorem lC:∀r:Gs,k5 G A S r
 |.n=>JH
 |.c _ src ifs r=>HV (gq src) (bb ifs) (lC r)
end
end
end
section
section
variable {G:GC}{A:Around}{S:cL}
theorem BR {e:Expr}{gens:List Comprehension}{scope:Scope}{pos pos':Pos}{d:D}{s:Shared}{use:Option (Value->Sem Unit)}{Q E:bg}
  (X:cy G A S c env own)(h:bn c (.p elt gs) (.ListComp e gens scope pos)=true)(he:ev S ρ (.p elt gs)=some d)(I:di G A env own O ρ s)
  (fin:∀C D s' (vs:Array Value) out,d=.list out->out.length<=16777216->Ext G s s'->C≠D->s.heap.get? C=none->s.heap.get? D=none->G.h₀.get? C=none->G.h₀.get? D=none->(∃m,s'.heap.Ns C m)->s'.heap.PlainList D vs->ai G.w (C::D::O) s'.heap vs.toList out ->
   di G A env own (C::D::O) ρ s'->compPost (br G) A E use Q (.ref D) C (.ok .next) s') :
  wpAny (br G) A (comprehension (.ListComp e gens scope pos) scope env pos' (newList []) (firstAsync gens) (firstIter gens env) use) Q E s:=by
 rcases gs with⟨⟩|⟨tg,src,ifs,r⟩
 .refine jj (show(decide (scope.kind=.function)&&!gens.isEmpty&&fB c.nm c.sc scope.names (nT .n)&&decide ((nT .n).Nodup)&&bn { c with sc:=ko scope.names c.sc } elt e&&bK gens true)=true from h) fun _ h1 _ _ _ h2=>False.elim ?_;exact aJ (P:=fun gens=>(!gens.isEmpty)=true->False) h2 (fun _ h1=>Fu h1) h1
 .exact rq (fun X h=>aD elt X h) (fun X h=>gq src X h) (fun X h=>bb ifs X h) (fun{_ _ _ _ _ _ _ _ _ _ _ _ _}=>lC r) X h he I fun C D s' out e hl xs h1 h2 h3 h4 h5 h6 ac I'=>ac.elim fun vs k=>fin C D s' vs out e hl xs h1 h2 h3 h4 h5 h6 k.1 k.2 I'
structure Nk where
 l:aH
 p:Option (Nat × Addr)
def dK.is (own:dK)(k:Nk):Prop:=own.ns=k.l/\∀p,k.p=some p->own.at' p.1=some p.2
def Nk.free (k:Nk)(n:Nat):Prop:=∀p,k.p=some p->p.1≠n
structure FI (G:GC)(A:Around)(env:Env)(own:dK)(O Oc M:a9)(ρ:aB)(s:Shared):Prop where
 inv:di G A env own O ρ s
 mO:∀a∈M,a∈O
 ml:env.locals∈M
 mc:∀x c,env.cells.lookup x=some c->c∈M
 mo:∀n a,own.at' n=some a->a∈M
 m0:∀a∈M,G.h₀.get? a=none
 mt:∀a∈M,∀o,s.heap.get? a=some o->EC o
 cO:∀a∈Oc,a∈O
 cM:∀a∈M,a∉Oc
 inj:∀n m a,own.at' n=some a->own.at' m=some a->n=m
structure cz (G:GC)(O M:a9)(s:Shared)(O' M':a9)(s':Shared):Prop where
 sx:bl G M s s'
 oO:∀a∈O,a∈O'
 mM:∀a∈M,a∈M'
 nM:∀a∈M',a∈M\/s.heap.get? a=none
 nO:∀a∈O',a∈O\/s.heap.get? a=none
theorem cz.refl (B:aX G s.heap)(p:0<s.toks):cz G O M s O M s:=⟨.refl B p,fun _ m=>m,fun _ m=>m,fun _ m=>.inl m,fun _ m=>.inl m⟩
theorem cz.trans (hMO:∀a∈M,a∈O)(x:cz G O M s O' M' s')(y:cz G O' M' s' O'' M'' s''):cz G O M s O'' M'' s'':=by
 have back:∀a,a∉M->s'.heap.get? a=none->s.heap.get? a=none:=fun a m e=>x.sx.back a m e;refine⟨⟨?_,fun b o m e c=>?_,y.sx.base,y.sx.pos,fun b m e=>?_⟩,fun a m=>y.oO a (x.oO a m),fun a m=>y.mM a (x.mM a m),fun a m=>?_,fun a m=>?_⟩
 .exact iS x.sx.same y.sx.same
 .refine y.sx.keep b o (fun q=>?_) (x.sx.keep b o m e c) c;rcases x.nM b q with q|q
  .exact m q
  .rw[q]at e;exact nn e
 .by_cases q:b∈M'
  .rcases x.nM b q with q|q
   .exact absurd q m
   .exact q
  .exact x.sx.back b m (y.sx.back b q e)
 .rcases y.nM a m with q|q
  .exact x.nM a q
  .by_cases q':a∈M
   .exact .inl q'
   .exact .inr (x.sx.back a q' q)
 .rcases y.nO a m with q|q
  .exact x.nO a q
  .by_cases q':a∈M
   .exact .inl (hMO a q')
   .exact .inr (x.sx.back a q' q)
theorem Ext.step (x:Ext G s s'):cz G O M s O M s':=⟨x.sext,fun _ m=>m,fun _ m=>m,fun _ m=>.inl m,fun _ m=>.inl m⟩
theorem FI.turn (x:FI G A env own O Oc M ρ s):bG O M s.heap:=fun a m o e=>⟨x.mt a m o e,fun _=>x.mO a m⟩
theorem FI.ext (x:FI G A env own O Oc M ρ s)(e:Ext G s s'):FI G A env own O Oc M ρ s':=
 ⟨x.inv.ext e,x.mO,x.ml,x.mc,x.mo,x.m0,fun a m o q=>(by obtain⟨o',e',c⟩:=x.inv.ov a (x.mO a m);rw[e.keep a o' e' c]at q;obtain rfl:=aC q;exact x.mt a m _ e'),x.cO,x.cM,x.inj⟩
def cP (G:GC)(A:Around)(t:Sem Flow)(env:Env)(Oc:a9)(ns:Nk)(ρ:aB)(out:jg):Prop:=
 ∀(own:dK)(O M:a9)(s:Shared),own.is ns->FI G A env own O Oc M ρ s->∀(Q:Flow->Shared->Prop)(E:bg),
  (∀ρ' own' O' M' s',out=.n ρ'->own'.is ns->FI G A env own' O' Oc M' ρ' s'->cz G O M s O' M' s'->Q .next s') ->
  (∀d v s',out=.r d->bl G M s s'->av G.w Oc s'.heap v d->Q (.ret v) s')->wpAny (br G) A t Q E s
theorem IJ:cP G A (execs [] env) env Oc ns ρ (.n ρ):=fun own O M s hn F Q E q _ =>
 wpAny_execs_nil (q ρ own O M s rfl hn F (.refl F.inv.base F.inv.pos))
theorem zw (h1:cP G A (exec x env) env Oc ns ρ o1)(h2:∀ρ',o1=.n ρ'->cP G A (execs xs env) env Oc ns ρ' out)(h3:∀d,o1=.r d->out=.r d) :
  cP G A (execs (x::xs) env) env Oc ns ρ out:=fun own O M s hn F Q E q1 q2=>by
 rw[arm_execs_cons];refine aN (h1 own O M s hn F _ _ (fun ρ' own' O' M' s' e hn' F' st=>?_) (fun d v s' e sx r=>?_))
 .exact h2 ρ' e own' O' M' s' hn' F' _ _ (fun ρ2 own2 O2 M2 s2 e2 hn2 F2 st2=>q1 ρ2 own2 O2 M2 s2 e2 hn2 F2 (cz.trans F.mO st st2)) (fun d v s2 e2 sx r=>q2 d v s2 e2 (cz.trans F.mO st ⟨sx,fun _ m=>m,fun _ m=>m,fun _ m=>.inl m,fun _ m=>.inl m⟩:cz G O M s O' M' s2).sx r)
 .exact bB (q2 d v s' (h3 d e) sx r)
end
end
section
section
variable {G:GC}{A:Around}{S:cL}{env:Env}{own:dK}{O Oc M:a9}{ρ:aB}{d:D}{ns:Nk}
theorem FI.back (F:FI G A env own O Oc M ρ s):∀a∈M,∃o,s.heap.get? a=some o/\gu o:=fun a m=>F.inv.ov a (F.mO a m)
noncomputable def wtg (G:GC)(env:Env)(tg:aH):a9:=env.locals::tg.filterMap fun n=>(G.names[n]?).bind fun x=>if env.kindOf x==some .cell then env.cells.lookup x else none
theorem jQ (tg:aH):Hu env G (wtg G env tg) tg:=⟨dX,fun n m x c h1 h2 h3=>dP _ (List.mem_filterMap.mpr ⟨n,m,by rw[h1];simp[h2,h3]⟩)⟩
set_option tactic.hygienic true in
theorem zH (m:a∈wtg G env tg):a=env.locals\/∃x,(env.kindOf x=some .cell\/env.kindOf x=some .free)/\env.cells.lookup x=some a:=by
 rcases bM m with rfl|m
 .exact .inl rfl
 .obtain⟨n,_,e⟩:=List.mem_filterMap.mp m;obtain⟨x,_,e⟩:=Option.bind_eq_some_iff.mp e;split at e
  .rename_i c;exact .inr ⟨x, .inl (eC c),e⟩
  .exact nn e
theorem FI.wtg (F:FI G A env own O Oc M ρ s):∀a∈wtg G env tg,a∈M:=fun a m=>by
 rcases zH m with rfl|⟨x,_,e⟩
 .exact F.ml
 .exact F.mc x a e
theorem FI.stored (F:FI G A env own O Oc M ρ s)(x:bl G (Internal.wtg G env tg) s s')(I:di G A env own O ρ' s'):FI G A env own O Oc M ρ' s':=
 ⟨I,F.mO,F.ml,F.mc,F.mo,F.m0,fun a m o e=>(by
  by_cases c:a∈Internal.wtg G env tg
  .exact(qI I (fun a m=>zH m) a c o e).1
  .obtain⟨o',e',q⟩:=F.back a m;rw[x.keep a o' c e' q]at e;obtain rfl:=aC e;exact F.mt a m _ e'),F.cO,F.cM,F.inj⟩
theorem FI.step (F:FI G A env own O Oc M ρ s)(x:bl G (Internal.wtg G env tg) s s'):cz G O M s O M s':=⟨x.mono F.wtg,fun _ m=>m,fun _ m=>m,fun _ m=>.inl m,fun _ m=>.inl m⟩
theorem FI.weaken (F:FI G A env own O Oc M ρ s)(h:∀n d,ρ'.get n=some d->ρ.get n=some d):FI G A env own O Oc M ρ' s:=
 ⟨⟨F.inv.ok,F.inv.hh,F.inv.base,F.inv.pos,F.inv.ov,F.inv.envr.weaken h⟩,F.mO,F.ml,F.mc,F.mo,F.m0,F.mt,F.cO,F.cM,F.inj⟩
abbrev EG (G:GC)(A:Around)(x:Expr)(env:Env)(ns:Nk)(ρ:aB)(d:D):Prop:=∀own O,own.is ns->bw G A x env own O ρ d
abbrev Ll (G:GC)(A:Around)(x:Expr)(env:Env)(ns:Nk)(ρ:aB)(b:Bool):Prop:=∀own O,own.is ns->mC G A x env own O ρ b
theorem j7 (h:env.scope.kind=.function):interactive env=false:=by unfold interactive;rw[h];rfl
noncomputable def lZ (e:Expr):Bool:=e.ctorIdx==8 || e.ctorIdx==9 || e.ctorIdx==10
theorem dJ (h:lZ value=false)(t:Option Expr)(l:Nat)(env:Env):swapsWith value t l env=pure false:=by cases value <;> first|rfl|cases h
noncomputable def D8 (kind:Str->Option NameKind)(t:Str)(p q:Pos)(s:Scope):Bool:=kind t==some .local&&p.line==q.line&&!(s.names.any fun(n,k)=>n==t&&(k==.local || k==.cell))
def gZ (kind:Str->Option NameKind)(t:Str)(p:Pos)(value:Expr):Bool:=
 bif value.ctorIdx==8 then iQ value fun _ _ s _=>D8 kind t p value.pos s else bif value.ctorIdx==9 then nc value fun _ _ s _=>D8 kind t p value.pos s else xF value fun _ _ _ s _=>D8 kind t p value.pos s
theorem yh (h:lZ value=false)(kind:Str->Option NameKind)(t:Str)(p:Pos):gZ kind t p value=false:=by cases value <;> first|rfl|cases h
theorem jO (h:env.scope.kind=.function):swapsWith value (some (.Name t p)) l env=pure (gZ env.kindOf t p value):=by
 have e:(env.blockKind==.function)=true:=by unfold Env.blockKind;rw[h];rfl
 have e4:∀{a b c:Bool},(pure ((env.blockKind==.function)&&a&&b&&c):Sem Bool)=pure (a&&b&&c):=fun{a b c}=>by rw[e,Bool.true_and]
 cases value <;> first|rfl|exact e4
theorem qF:swapsWithSole [.Tuple es k p] value l env=pure false:=by cases value <;> rfl
theorem IK (h:EG G A x env ns ρ d):cP G A (exec (.Return (some x) pos) env) env Oc ns ρ (.r d):=fun own O M s hn F Q E _ q=>by rw[arm_exec_Return];exact aN (wpAny_standAt (aN (h own O hn s F.inv _ _ fun v s1 x1 r1=>bB (q d v s1 rfl x1.sext (r1.sub F.cO)))))
theorem Hf (hc:Ll G A c env ns ρ t)(ha:t=true->cP G A (execs a env) env Oc ns ρ out)(hb:t=false->cP G A (execs b env) env Oc ns ρ out):cP G A (exec (.If c a b pos) env) env Oc ns ρ out:=fun own O M s hn F Q E q1 q2=>by
 refine wpAny_If (hc own O hn s F.inv _ _ fun s1 x1=>?_);have k1:∀ρ' own' O' M' s',out=.n ρ'->own'.is ns->FI G A env own' O' Oc M' ρ' s'->cz G O M s1 O' M' s'->Q .next s':=fun ρ' own' O' M' s' e1 e2 e3 e4=>q1 ρ' own' O' M' s' e1 e2 e3 (cz.trans F.mO x1.step e4);have k2:∀d v s',out=.r d->bl G M s1 s'->av G.w Oc s'.heap v d->Q (.ret v) s':=fun d v s' e1 e2 e3=>q2 d v s' e1 (x1.sext.trans e2) e3;cases t with
 |true=>exact ha rfl own O M s1 hn (F.ext x1) Q E k1 k2
 |false=>exact hb rfl own O M s1 hn (F.ext x1) Q E k1 k2
theorem A4 (hc:Ll G A c env ns ρ true):cP G A (exec (.Assert c m pos) env) env Oc ns ρ (.n ρ):=fun own O M s hn F Q E q _ =>
 wpAny_Assert_holds (hc own O hn s F.inv _ _ fun s1 x1=>⟨rfl,q ρ own O M s1 rfl hn (F.ext x1) x1.step⟩)
theorem IN (h:cP G A (execs body env) env Oc ns ρ out):cP G A (exec (.Try body (h₀::hs) [] [] pos) env) env Oc ns ρ out:=fun own O M s hn F Q E q1 q2 =>
 wpAny_Try_except (h own O M s hn F _ _ (fun ρ' own' O' M' s' e1 e2 e3 e4=>wpAny_execs_nil (q1 ρ' own' O' M' s' e1 e2 e3 e4)) (fun d v s' e1 e2 e3=>q2 d v s' e1 e2 e3))
theorem IM (nm:G.names[n]?=some x)(hk:env.kindOf x=some k)(hkk:k=.local\/k=.cell)(hno:n∉ns.l)(hfn:env.scope.kind=.function)(hs:gZ env.kindOf x np value=false)
  (h:EG G A value env ns ρ d):cP G A (exec (.Assign [.Name x np] value pos) env) env Oc ns ρ (.n (ρ.set n d)):=fun own O M s hn F Q E q _=>by
 refine wpAny_Assign_Name (h own O hn s F.inv _ _ fun v s1 x1 r1=>?_) (by rw[jO hfn,hs]);refine gJ (W:=wtg G env [n]) (F.inv.ext x1) nm hk hkk (iV (hn.1▸hno) r1) ⟨dX,fun hc c e=>(jQ (G:=G) (env:=env) [n]).2 n (by simp) x c nm hc e⟩ fun s2 x2 _ I2=>?_;have F1:=F.ext x1;exact q _ own O M s2 rfl hn (F1.stored x2 I2) (cz.trans F.mO x1.step (F1.step x2))
theorem IG (nm:G.names[n]?=some x)(hk:env.kindOf x=some k)(hkk:k=.local\/k=.cell)(hno:n∉ns.l)(hx:(x==("__classdict__" : Str))=false)(hg:ρ.get n=some a)
  (h:EG G A value env ns ρ b)(hb:sX o a b=some d):cP G A (exec (.AugAssign (.Name x np) o value pos) env) env Oc ns ρ (.n (ρ.set n d)):=fun own O M s hn F Q E q _=>by
 refine wpAny_AugAssign_Name (m8 F.inv nm hk (hkk.imp id .inl) hx hg fun v r=>h own O hn s F.inv _ _ fun u s1 x1 r1=>?_);unfold cG at r;rw[if_neg (hn.1▸hno)]at r;refine xn x1.base x1.pos (r.keep x1.keep) r1 hb _ _ fun z s2 x2 r2=>?_;have x12:=x1.trans x2;refine gJ (W:=wtg G env [n]) (F.inv.ext x12) nm hk hkk (iV (hn.1▸hno) r2) ⟨dX,fun hc c e=>(jQ (G:=G) (env:=env) [n]).2 n (by simp) x c nm hc e⟩ fun s3 x3 _ I3=>?_;have F1:=F.ext x12;exact q _ own O M s3 rfl hn (F1.stored x3 I3) (cz.trans F.mO x12.step (F1.step x3))
end
end
section
section
variable {G:GC}{A:Around}{S:cL}{env:Env}{own:dK}{O Oc M:a9}{ρ:aB}{d:D}{ns:Nk}
theorem ai.grow (r:ai w O h vs ds)(k:∀a∈O',a∈O\/h.get? a=Option.none):ai w O' h vs ds:=
 let⟨as,x,y,z⟩:=r
 ⟨as,x,fun b m=>⟨fun q=>(k b q).elim (y b m).1 fun e=>(by obtain⟨o,e',_⟩:=cU x b m;rw[e]at e';exact nn e'),(y b m).2⟩,z⟩
theorem cz.vreps (F:FI G A env own O Oc M ρ s)(x:cz G O M s O' M' s')(r:ai G.w O s.heap vs ds):ai G.w O' s'.heap vs ds:=
 (r.grow x.nO).but x.sx.keep fun a m o e=>⟨F.mt a m o e,fun _=>x.oO a (F.mO a m)⟩
inductive EE (G:GC)(A:Around)(O M:a9)(tg:Expr)(s:Shared)(ds:List D)(I:Addr)(s':Shared):Prop
 |mk (fp wr:a9)(vs:eU)(es:List D)(St:Nat->Heap->Prop)(P Md:Nat->Value->Heap->Prop)(it:sI G A false tg I fp wr ds vs es St P Md)(st:St 0 s'.heap)(rv:ai G.w O s'.heap vs es)(h1:∀b∈wr,s.heap.get? b=none)
  (h2:∀b∈fp,∃o,s'.heap.get? b=some o)(h3:∀b∈fp,s.heap.get? b=none\/b∉M\/∃vs,s'.heap.IsTuple b vs)
def Js (G:GC)(A:Around)(O M:a9)(tg:Expr)(t:Sem Value)(s:Shared)(ds:List D):Prop:=
 ∀(Q:bg)(E:bg),(∀I s',Ext G s s'->EE G A O M tg s ds I s'->Q (.ref I) s')->wpAny (br G) A t (fun x s₁=>wpAny (br G) A (pyIter x) Q E s₁) E s
theorem xl {f:D->aB->Option jg}{d:D}{ds:List D}{ρ:aB}:tj f (d::ds) ρ=(match f d ρ with
  |some (.n ρ')=>tj f ds ρ'
  |o=>o):=rfl
theorem cz.lift (x:cz G O1 M1 t O2 M2 t'):cz G (wr++O1) (wr++M1) t (wr++O2) (wr++M2) t':=
 ⟨x.sx.mono fun a m=>kK _ m,fun a m=>(dx m).elim (fun m=>mv _ m) fun m=>kK _ (x.oO a m),
 fun a m=>(dx m).elim (fun m=>mv _ m) fun m=>kK _ (x.mM a m),
 fun a m=>(dx m).elim (fun m=>.inl (mv _ m)) fun m=>(x.nM a m).imp (fun m=>kK _ m) id,
 fun a m=>(dx m).elim (fun m=>.inl (mv _ m)) fun m=>(x.nO a m).imp (fun m=>kK _ m) id⟩
theorem cz.drop (gx:Ext G s s1)(h1:∀b∈wr,s.heap.get? b=none)(x:cz G (wr++O) (wr++M) s1 (wr++O2) (wr++M2) t)(k1:∀a∈O,a∈O2)(k2:∀a∈M,a∈M2)(k3:∀b∈wr,b∉O2)(k4:∀b∈wr,b∉M2):cz G O M s O2 M2 t:=by
 have xs:=gx.sext.trans x.sx;refine⟨⟨xs.same,fun b o m e c=>xs.keep b o (fun mm=>?_) e c,xs.base,xs.pos,fun b m e=>?_⟩,k1,k2,fun a m=>?_,fun a m=>?_⟩
 .rcases dx mm with mm|mm
  .rw[h1 b mm]at e;exact nn e
  .exact m mm
 .by_cases mm:b∈wr
  .exact h1 b mm
  .exact xs.back b (fun q=>(dx q).elim mm m) e
 .rcases x.nM a (kK _ m)with q|q
  .exact(dx q).elim (fun q=>absurd m (k4 a q)) .inl
  .exact .inr (gx.back a q)
 .rcases x.nO a (kK _ m)with q|q
  .exact(dx q).elim (fun q=>absurd m (k3 a q)) .inl
  .exact .inr (gx.back a q)
structure LI (G:GC)(A:Around)(env:Env)(O Oc M wr:a9)(ns:Nk)(s s1:Shared)(ρ:aB)(own:dK)(O' M':a9)(s':Shared):Prop where
 gx:Ext G s s1
 h1:∀b∈wr,s.heap.get? b=none
 h0:∀b∈wr,G.h₀.get? b=none
 mo:∀a∈M,a∈O
 hw:∀b∈wr,b∉O'
 hn:own.is ns
 F:FI G A env own O' Oc M' ρ s'
 sp:cz G (wr++O) (wr++M) s1 (wr++O') (wr++M') s'
 hO:∀a∈O,a∈O'
 hM:∀a∈M,a∈M'
 hO':∀a∈O',a∈O\/s1.heap.get? a=none
 hM':∀a∈M',a∈M\/s1.heap.get? a=none
section
variable {wr O' M':a9}{s s1 s':Shared}{own':dK}{ρ':aB}
theorem LI.start (F:FI G A env own O Oc M ρ s)(gx:Ext G s s1)(h1:∀b∈wr,s.heap.get? b=none)(hn:own.is ns):LI G A env O Oc M wr ns s s1 ρ own O M s1:=
 ⟨gx,h1,fun b m=>bA (fun o e=>F.inv.base.keep b o e) (h1 b m),F.mO,fun b m mO=>by obtain⟨o,e,_⟩:=F.inv.ov b mO;rw[h1 b m]at e;exact nn e,hn,F.ext gx, .refl (F.ext gx).inv.base (F.ext gx).inv.pos,fun _ m=>m,fun _ m=>m,fun _ m=>.inl m,fun _ m=>.inl m⟩
theorem LI.mO (L:LI G A env O Oc M wr ns s s1 ρ own' O' M' s'):∀a∈wr++M,a∈wr++O:=fun a m=>(dx m).elim (fun m=>mv _ m) fun m=>kK _ (L.mo a m)
theorem LI.wM (L:LI G A env O Oc M wr ns s s1 ρ own' O' M' s'):∀b∈wr,b∉M':=fun b m mM=>L.hw b m (L.F.mO b mM)
theorem LI.turn (L:LI G A env O Oc M wr ns s s1 ρ own' O' M' s')(hz:∀b∈wr,∀o,s'.heap.get? b=some o->Bm false o)(hk:∀b o,b∉wr->s'.heap.get? b=some o->g.get? b=some o)(p:0<tk) :
  LI G A env O Oc M wr ns s s1 ρ own' O' M' { s' with heap:=g,toks:=tk }/\bG O' wr s'.heap:=by
 obtain⟨I2,t2,sx2⟩:=L.F.inv.iter hz L.hw L.h0 hk p;exact⟨{ L with
  F:=⟨I2,L.F.mO,L.F.ml,L.F.mc,L.F.mo,L.F.m0,fun a m o e=>(by obtain⟨o',e',_⟩:=L.F.back a m;have e2:g.get? a=some o:=e;rw[hk a o' (fun q=>L.wM a q m) e']at e2;obtain rfl:=aC e2;exact L.F.mt a m _ e'),L.F.cO,L.F.cM,L.F.inj⟩
  sp:=cz.trans L.mO L.sp ⟨sx2.mono fun a m=>mv _ m,fun _ m=>m,fun _ m=>m,fun _ m=>.inl m,fun _ m=>.inl m⟩ },t2⟩
theorem LI.stored (L:LI G A env O Oc M wr ns s s1 ρ own' O' M' s')(x:bl G (Internal.wtg G env tg) s' s3)(I:di G A env own' O' ρ' s3):LI G A env O Oc M wr ns s s1 ρ' own' O' M' s3:=
 { L with F:=L.F.stored x I,sp:=cz.trans L.mO L.sp (L.F.step x).lift }
theorem LI.next (L:LI G A env O Oc M wr ns s s1 ρ own' O' M' s')(hs:∀a∈wr,s'.heap.get? a≠none)(hn:own3.is ns)(F4:FI G A env own3 O3 Oc M3 ρ' s4)(sp:cz G O' M' s' O3 M3 s4):LI G A env O Oc M wr ns s s1 ρ' own3 O3 M3 s4:=by
 have fr:∀a,s'.heap.get? a=none->a∈M\/s1.heap.get? a=none:=fun a e=>by
  by_cases q:a∈wr++M
  .rcases dx q with q|q
   .exact absurd e (hs a q)
   .exact .inl q
  .exact .inr (L.sp.sx.back a q e)
 exact⟨L.gx,L.h1,L.h0,L.mo,fun b m mO=>(sp.nO b mO).elim (L.hw b m) (hs b m),hn,F4,cz.trans L.mO L.sp sp.lift,fun a m=>sp.oO a (L.hO a m),fun a m=>sp.mM a (L.hM a m),fun a m=>(sp.nO a m).elim (L.hO' a) fun q=>(fr a q).imp (L.mo a) id,fun a m=>(sp.nM a m).elim (L.hM' a) (fr a)⟩
theorem LI.done (L:LI G A env O Oc M wr ns s s1 ρ own' O' M' s'):cz G O M s O' M' s':=cz.drop L.gx L.h1 L.sp L.hO L.hM L.hw L.wM
theorem LI.back (L:LI G A env O Oc M wr ns s s1 ρ own' O' M' s')(sx:bl G M' s' s4):bl G M s s4:=(cz.drop L.gx L.h1 (cz.trans L.mO L.sp (cz.lift ⟨sx,fun _ m=>m,fun _ m=>m,fun _ m=>.inl m,fun _ m=>.inl m⟩)) L.hO L.hM L.hw L.wM).sx
end
inductive Li (G:GC)(A:Around)(env:Env)(O Oc M wr:a9)(ns:Nk)(St:Nat->Heap->Prop)(f:D->aB->Option jg)(out:jg)(ds es:List D)(vs:eU)(s s1:Shared)(n:Nat)(s':Shared):Prop
 |mk (i:Nat) (ρi:aB)(own':dK)(O' M':a9)(hi:i<=ds.length)(hn:n=ds.length+1-i)(hg:tj f (ds.drop i) ρi=some out)(L:LI G A env O Oc M wr ns s s1 ρi own' O' M' s')(st':St i s'.heap)(rv':ai G.w O' s'.heap vs es)
theorem HT (hn:own.is ns)(F:FI G A env own O Oc M ρ s)(hsrc:Js G A O M target (eval iter env) s ds)(hns:jA iter=true)
  (ht:∀own,own.is ns->cQ G env own target tg)(hb:∀x ρ' o,f x ρ'=some o->∃ρ'',bE ρ' tg x=some ρ''/\cP G A (execs body env) env Oc ns ρ'' o)(hf:tj f ds ρ=some out)(Q:Flow->Shared->Prop)(E:bg)
  (q1:∀ρ' own' O' M' s',out=.n ρ'->own'.is ns->FI G A env own' O' Oc M' ρ' s'->cz G O M s O' M' s'->Q .next s')
  (q2:∀d v s',out=.r d->bl G M s s'->av G.w Oc s'.heap v d->Q (.ret v) s'):wpAny (br G) A (exec (.For target iter body [] pos) env) Q E s:=by
 refine wpAny_For (hsrc _ _ fun I s1 gext git=>?_) (fun x=>jY hns env x);obtain⟨fp,wr,vs,es,St,P,Md,it,st,rv,h1,h2,h3⟩:=git;have T:=it.turns;have F1:=F.ext gext;have hfM:∀b∈fp,b∉M:=fun b m mM=>by
  rcases h3 b m with h|h|⟨us,h⟩
  .obtain⟨o,e,_⟩:=F.back b mM;rw[h]at e;exact nn e
  .exact h mM
  .obtain⟨o,e,c,n,hd⟩:=h;exact(F1.mt b mM o e).1 _ _ c hd
 have hfs:∀b∈fp,s1.heap.get? b≠none:=fun b m e=>by obtain⟨o,e'⟩:=h2 b m;rw[e]at e';exact nn e'
 refine codeAny_forLoop_any
  (Li G A env O Oc M wr ns St f out ds es vs s s1) (fun n s' hI=>?_) (ds.length+1)
  ⟨0,ρ,own,O,M,nv _,rfl,hf, .start F gext h1 hn,st,rv⟩
 obtain⟨i,ρi,own',O',M',hi,rfl,hg,L,st',rv'⟩:=hI;have fpM:∀b∈fp,b∉M':=fun b m mM=>(L.hM' b mM).elim (hfM b m) (hfs b m);by_cases hlt:i<ds.length
 .refine wpAny_with_toks (n:=1) L.F.inv.pos (T.item i _ _ _ hlt st' fun v g1 tk hMd hk1 p1=>?_);refine wpAny_with_toks (n:=1) p1 (T.go i v _ _ _ hMd fun g2 hP st2 hk2 p2=>?_);have hk:∀b o,b∉wr->s'.heap.get? b=some o->g2.get? b=some o:=fun b o m e=>hk2 b o m (hk1 b o m e);obtain⟨L2,t2⟩:=L.turn (fun b m=>it.wrc i _ st' b m) hk p2;have rv2:ai G.w O' g2 vs es:=rv'.but (fun b o m e _=>hk b o m e) t2;have hx:ds[i]?=some ds[i]:=List.getElem?_eq_getElem hlt;have ri:=it.item O' g2 i v _ rv2 hP hx;rw[List.drop_eq_getElem_cons hlt]at hg;cases hfo:f ds[i] ρi with
  |none=>rw[xl,hfo]at hg;exact nn hg
  |some o =>
   obtain⟨ρ'',hbd,hst⟩:=hb _ _ _ hfo;refine ft (W:=wtg G env tg) (ht own' L.hn) L2.F.inv ri hbd (jQ tg) fun s3 x3 k3 I3=>?_;have L3:=L2.stored x3 I3;have rv3:=k3 _ _ rv2;have frame:∀(t t':Shared)(j:Nat),St j t.heap->aI M' t.heap t'.heap->St j t'.heap:=fun t t' j hst hkb =>
    T.frame j _ _ hst fun b hb o e=>hkb b o (fpM b hb) e (it.solid j _ hst b hb o e)
   have st3:=frame { s' with heap:=g2,toks:=tk } s3 _ st2 (L2.F.step x3).sx.keep;refine hst own' O' M' s3 L.hn L3.F _ _ (fun ρ3 own3 O3 M3 s4 e3 hn3 F4 sp4=>?_) (fun d v s4 e3 sx4 r4=>?_)
   .subst e3;have hg':tj f (ds.drop (i+1)) ρ3=some out:=by rw[xl,hfo]at hg;exact hg
    exact⟨ds.length+1-(i+1),Nat.sub_lt_sub_left (Nat.lt_succ_of_lt hlt) (Nat.lt_succ_self i),i+1,ρ3,own3,O3,M3,hlt,rfl,hg',L3.next (fun a q e=>by obtain⟨o,e'⟩:=it.ex _ _ st3 a q;rw[e]at e';exact nn e') hn3 F4 sp4,frame s3 s4 _ st3 sp4.sx.keep,sp4.vreps L3.F rv3⟩
   .subst e3;have hout:out=.r d:=by rw[xl,hfo]at hg;obtain rfl:=aC hg;rfl
    exact q2 d v s4 hout (L3.back sx4) r4
 .have hi':i=ds.length:=Nat.le_antisymm hi (Nat.not_lt.mp hlt);subst hi';have hg':out=.n ρi:=by rw[List.drop_length]at hg;obtain rfl:=aC hg;rfl
  refine wpAny_with_toks (n:=1) L.F.inv.pos (T.done _ _ _ st' fun g1 tk hk p1=>wpAny_execs_nil ?_);obtain⟨L2,_⟩:=L.turn (fun b m=>it.wrc _ _ st' b m) hk p1;exact q1 ρi own' O' M' _ hg' L.hn L2.F L2.done
theorem II (hsrc:∀own O,own.is ns->i0 G A false iter env own O ρ target ds true)(hns:jA iter=true)
  (ht:∀own,own.is ns->cQ G env own target tg)(hb:∀x ρ' o,f x ρ'=some o->∃ρ'',bE ρ' tg x=some ρ''/\cP G A (execs body env) env Oc ns ρ'' o)(hf:tj f ds ρ=some out) :
  cP G A (exec (.For target iter body [] pos) env) env Oc ns ρ out:=fun own O M s hn F Q E q1 q2 =>
 HT hn F (fun Q' E' q=>hsrc own O hn s F.inv Q' E' fun I s' got=>q I s' got.ext (by obtain⟨fp,wr,vs,es,St,P,Md,it,st,rv,h1,h2,h3⟩:=got.it;exact⟨fp,wr,vs,es,St,P,Md,it,st,rv,h1,h2,fun b m=>(h3 b m).imp id fun h=>h.imp (fun h mM=>h rfl (F.mO b mM)) id⟩)) hns ht hb hf Q E q1 q2
end
end
section
section
variable {G:GC}{A:Around}{S:cL}{env:Env}{own:dK}{O Oc M:a9}{ρ:aB}{d:D}{ns:Nk}
noncomputable def D7 (kind:Str->Option NameKind)(line:Nat)(e:Expr):Option Str:=swappedStores.match_8 (fun _=>Option Str) e (fun id pos=>if kind id==some .local&&pos.line==line then some id else none) fun _=>none
noncomputable def CB (e:Expr):Bool:=swappedStores.match_5 (fun _=>Bool) e (fun _ _=>true) fun _=>false
abbrev gh (kind:Str->Option NameKind)(ts:dU):List Str:=ts.filterMap (D7 kind ((ts.head?.map (·.pos.line)).getD 0))
def t4 (kind:Str->Option NameKind)(ts vs:dU):Option (Option (List Str)):=
 bif !(ts.length==2 || ts.length==3) || vs.length != ts.length then some none else bif vs.any CB then some none
 else bif (gh kind ts).length != ts.length || (gh kind ts).eraseDups.length != (gh kind ts).length then some none else bif vs.all (foldedForSure 8)then some none else bif vs.all (constantsAlone 8)then none else some (some (gh kind ts))
theorem hE {x y:Option α}{r:α}{P:Prop}(h:(bif c then x else y)=some r)(h1:c=true->x=some r->P)(h2:c=false->y=some r->P):P:=by
 cases c
 .exact h2 rfl h
 .exact h1 rfl h
theorem Ba {p p':Pos}{r:Option (List Str)}(hfn:env.scope.kind=.function)(h:t4 env.kindOf ts vs=some r):swappedStores [.Tuple ts k p] (.Tuple vs k' p') env=pure r:=by
 have e:(env.blockKind != .function)=false:=by unfold Env.blockKind;rw[hfn];rfl
 have key:swappedStores [.Tuple ts k p] (.Tuple vs k' p') env=(if((!(ts.length==2 || ts.length==3) || vs.length != ts.length) || (env.blockKind != .function))=true then pure none else if vs.any CB=true then pure none else
  if((gh env.kindOf ts).length != ts.length || (gh env.kindOf ts).eraseDups.length != (gh env.kindOf ts).length)=true then pure none else if vs.all (foldedForSure 8)=true then pure none else if vs.all (constantsAlone 8)=true then unsupported "assign.tuple-of-constant-expressions:order-of-the-stores" else pure (some (gh env.kindOf ts))):=rfl
 rw[key,e,Bool.or_false];have n:∀{c:Bool},c=false->¬ c=true:=fun h=>h▸nP;exact hE h (fun c q=>(if_pos c).trans (congrArg pure (aC q))) fun c h=>(if_neg (n c)).trans (hE h (fun c q=>(if_pos c).trans (congrArg pure (aC q))) fun c h=>(if_neg (n c)).trans (hE h (fun c q=>(if_pos c).trans (congrArg pure (aC q))) fun c h=>(if_neg (n c)).trans
  (hE h (fun c q=>(if_pos c).trans (congrArg pure (aC q))) fun c h=>(if_neg (n c)).trans (hE h (fun _ q=>nn q) fun c q=>(if_neg (n c)).trans (congrArg pure (aC q))))))
theorem IO (ht:∀own,own.is ns->cQ G env own (.Tuple es k tp) tg)(hl:xs.length=tg.length)(hsw:swappedStores [.Tuple es k tp] value env=pure none)
  (h:EG G A value env ns ρ (.tuple xs)):cP G A (exec (.Assign [.Tuple es k tp] value pos) env) env Oc ns ρ (.n (bx ρ tg xs)):=fun own O M s hn F Q E q _=>by
 refine Assign_Tuple (h own O hn s F.inv _ _ fun v s1 x1 r1=>?_) qF hsw;have hb:bE ρ tg (.tuple xs)=some (bx ρ tg xs):=by
  cases ht own hn with
  |tup _ h2 =>
   exact zP (Nat.ne_of_gt h2) hl
 refine ft (W:=wtg G env tg) (ht own hn) (F.inv.ext x1) r1 hb (jQ tg) fun s2 x2 _ I2=>?_;have F1:=F.ext x1;exact q _ own O M s2 rfl hn (F1.stored x2 I2) (cz.trans F.mO x1.step (F1.step x2))
inductive gQ (G:GC)(env:Env)(own:dK):List Str->aH->Prop
 |nil:gQ G env own [] []
 |cons {x k n xs ns}:G.names[n]?=some x->env.kindOf x=some k->(k=.local\/k=.cell)->n∉own.ns->gQ G env own xs ns->gQ G env own (x::xs) (n::ns)
theorem gQ.append (h:gQ G env own a m)(h':gQ G env own b n):gQ G env own (a++b) (m++n):=by
 induction h with
 |nil=>exact h'
 |cons h1 h2 h3 h4 _ ih=>exact .cons h1 h2 h3 h4 ih
theorem gQ.reverse (h:gQ G env own a m):gQ G env own a.reverse m.reverse:=by
 induction h with
 |nil=>exact .nil
 |cons h1 h2 h3 h4 _ ih=>rw[List.reverse_cons,List.reverse_cons];exact ih.append (.cons h1 h2 h3 h4 .nil)
set_option tactic.hygienic true in
theorem Ii (h:oL G env own es tg):∀{names:List Str},es.filterMap (D7 env.kindOf line)=names->names.length=es.length->gQ G env own names tg:=by
 induction h with
 |nil=>intro names h _;subst h;exact .nil
 |cons h1 h2 h3 h4 h5 ih =>
  rename_i x pos n k es tg;intro names h hl;rw[List.filterMap_cons]at h;cases e:D7 env.kindOf line (.Name x pos)with
  |none =>
   rw[e]at h;exact absurd (az (Nat.le_of_eq (hl.symm.trans (congrArg List.length h.symm))) (List.length_filterMap_le _ es)) (Nat.not_succ_le_self _)
  |some y =>
   rw[e]at h;have e:(if(env.kindOf x==some .local&&pos.line==line)=true then some x else none)=some y:=e;by_cases c:(env.kindOf x==some .local&&pos.line==line)=true
   .rw[if_pos c]at e;obtain rfl:=aC e;subst h;exact .cons h1 h2 h3 h4 (ih rfl (Nat.succ.inj hl))
   .rw[if_neg c]at e;exact nn e
theorem BB:∀{xs:List Str}{tg:aH},gQ G env own xs tg->∀{ρ:aB}{vs:eU}{ds:List D}{s:Shared},di G A env own O ρ s->ai G.w O s.heap vs ds->ds.length=tg.length->Hu env G W tg ->
  ∀{Q:Unit->Shared->Prop}{E:bg},(∀s',bl G W s s'->di G A env own O (bx ρ tg ds) s'->Q () s')->wpAny (br G) A (assignInOrder (xs.map fun n=>bindName env n) vs) Q E s:=by
 intro xs tg h
 induction h with
 |nil =>
  intro ρ vs ds s I r hl hW Q E q;obtain rfl:ds=[]:=List.length_eq_zero_iff.mp hl;exact assignInOrder_nil (q s (.refl I.base I.pos) I)
 |cons h1 h2 h3 h4 h5 ih =>
  intro ρ vs ds s I r hl hW Q E q;cases ds with
  |nil=>simp at hl
  |cons d ds =>
   obtain⟨v,vs,rfl,r1,r2⟩:=r.cons_inv;refine assignInOrder_cons (wpAny_bindName (gJ (W:=W) I h1 h2 h3 (iV h4 r1) ⟨hW.1,fun hk c hc=>hW.2 _ (by simp) _ c h1 hk hc⟩ fun s1 x1 k1 I1=>?_));exact ih I1 (k1 _ _ r2) (by simpa using hl) ⟨hW.1,fun m hm=>hW.2 m (dP _ hm)⟩ fun s2 x2 I2=>q s2 (x1.trans x2) I2
theorem iT:∀(ns:aH)(ds:List D)(ρ:aB)(m:Nat),ns.Nodup->(bx ρ ns ds).get m=match(ns.zip ds).lookup m with|some d=>some d|none=>ρ.get m
 |[],_,_,_,_=>rfl
 |n::ns,[],_,_,_=>rfl
 |n::ns,d::ds,ρ,m,h=>by
  obtain⟨h1,h2⟩:=List.nodup_cons.mp h;show(bx _ ns ds).get m=_;rw[iT ns ds _ m h2,List.zip_cons_cons,List.lookup_cons,aB.get_set];by_cases e:m=n
  .subst e;have:(ns.zip ds).lookup m=none:=by
    cases q:(ns.zip ds).lookup m with
    |none=>rfl
    |some d' =>
     exfalso
     have key:∀{l:List (Nat × D)}{n:Nat}{c:D},l.lookup n=some c->(n,c)∈l:=by
      intro l
      induction l with
      |nil=>intro n c h;simp at h
      |cons p r ih =>
       intro n c h;rw[List.lookup_cons]at h;cases hb:n==p.1 with
       |true=>rw[hb]at h;obtain rfl:=aC h;rw[eC hb];exact dX
       |false=>rw[hb]at h;exact dP _ (ih h)
     exact h1 (List.of_mem_zip (key q)).1
   rw[this,if_pos rfl,beq_self_eq_true]
  .have hb:(m==n)=false:=by simpa using e
   rw[hb,if_neg e]
theorem gA {l:List (Nat × D)}(hn:(l.map (·.1)).Nodup):l.lookup n=some c↔(n,c)∈l:=by
 induction l with
 |nil=>simp
 |cons p r ih =>
  obtain⟨h1,h2⟩:=List.nodup_cons.mp hn;rw[List.lookup_cons];cases hb:n==p.1 with
  |true =>
   have e:=eC hb;constructor
   .intro h;obtain rfl:=aC h;rw[e];exact dX
   .intro h;rcases bM h with h|h
    .rw[<- h]
    .exact absurd (show p.1∈r.map (·.1) by rw[<- e];exact List.mem_map_of_mem (f:=(·.1)) h) h1
  |false =>
   have e:n≠p.1:=by simpa using hb
   rw[ih h2];constructor
   .intro h;exact dP _ h
   .intro h;rcases bM h with h|h
    .exact absurd (by rw[<- h]) e
    .exact h
theorem rU {l:List α}(h:l.Nodup):l.reverse.Nodup:=List.pairwise_reverse.mpr (h.imp fun x=>x.symm)
theorem zJ:∀{a:List α}{b:List β},a.length=b.length->a.reverse.zip b.reverse=(a.zip b).reverse
 |[],[],_=>rfl
 |x::a,y::b,h=>by
  have h':a.length=b.length:=by simpa using h
  rw[List.reverse_cons,List.reverse_cons,List.zip_append (by simpa using h'),zJ h'];simp
 |[],_::_,h=>by simp at h
 |_::_,[],h=>by simp at h
theorem xX {ns:aH}{ds:List D}(h:ns.Nodup)(hl:ds.length=ns.length)(m:Nat):(bx ρ ns.reverse ds.reverse).get m=(bx ρ ns ds).get m:=by
 rw[iT _ _ _ _ (rU h),iT _ _ _ _ h];have e:ns.reverse.zip ds.reverse=(ns.zip ds).reverse:=zJ (by lia);have n1:((ns.zip ds).map (·.1)).Nodup:=by have:(ns.zip ds).map (·.1)=ns:=List.map_fst_zip (by lia);rw[this];exact h
 have n2:((ns.zip ds).reverse.map (·.1)).Nodup:=by rw[List.map_reverse];exact rU n1
 have:(ns.zip ds).reverse.lookup m=(ns.zip ds).lookup m:=by
  cases q:(ns.zip ds).lookup m with
  |some d=>exact(gA n2).mpr (List.mem_reverse.mpr ((gA n1).mp q))
  |none =>
   cases q2:(ns.zip ds).reverse.lookup m with
   |none=>rfl
   |some d =>
    have:=(gA n1).mpr (List.mem_reverse.mp ((gA n2).mp q2));rw[q]at this;exact nn this
 rw[e,this]
theorem Gz {tg:aH}{xs:List D}(ht:∀own,own.is ns->gQ G env own names tg)(hl:xs.length=tg.length)(hnd:tg.Nodup)(hsw:swappedStores [.Tuple es k tp] value env=pure (some names))
  (hln:names.length=tg.length)(h:EG G A value env ns ρ (.tuple xs)):cP G A (exec (.Assign [.Tuple es k tp] value pos) env) env Oc ns ρ (.n (bx ρ tg xs)):=fun own O M s hn F Q E q _=>by
 refine Assign_Tuple_swapped (h own O hn s F.inv _ _ fun v s1 x1 r1=>?_) qF hsw;obtain⟨a,vs,rfl,lt,rr⟩:=r1.tuple_inv;have e:=rr.length;simp only[jR]at e;have hsz:names.length=vs.size:=by rw[hln,<- hl,e]
 rw[hsz];refine wpAny_unpackItems_tuple F.inv.hh lt fun h' hk=>?_;have hk':∀b o,s1.heap.get? b=some o->h'.get? b=some o:=fun b o e=>hk b o (fun q=>by rw[q,ax]at e;exact nn e) e;have x0:Ext G s1 { s1 with heap:=h' }:=.all (t:=s1.toks) x1.base hk' x1.pos;have x01:=x1.trans x0;have rrev:ai G.w O h' vs.toList.reverse xs.reverse:=by
  have r0:=rr.keep x0.keep;refine .of_get (by simp[r0.length]) fun i v d e1 e2=>?_;have hi:i<xs.length:=by have:=(List.getElem?_eq_some_iff.mp e2).1;simpa using this
  rw[List.getElem?_reverse (by rw[r0.length];exact hi)]at e1;rw[List.getElem?_reverse hi]at e2;obtain⟨v',e3,r3⟩:=r0.get _ d e2;rw[r0.length]at e1;rw[e1]at e3;obtain rfl:=aC e3;exact r3
 refine BB (W:=wtg G env tg.reverse) (ht own hn).reverse (F.inv.ext x01) rrev (by simpa using hl) (jQ _) fun s2 x2 I2=>?_;have F1:=F.ext x01;have F2:=F1.stored x2 I2;exact q _ own O M s2 rfl hn (F2.weaken fun n d e=>by rw[xX hnd hl];exact e) (cz.trans F.mO x01.step (F1.step x2))
end
end
section
section
variable {G:GC}{A:Around}{S:cL}{env:Env}{own:dK}{O Oc M:a9}{ρ:aB}{d:D}{ns:Nk}
def dK.put (own:dK)(n:Nat)(a:Addr):dK:=⟨own.ns,fun m=>if m=n then some a else own.at' m⟩
theorem fM.reown (x:fM G env own O ρ h)(hns:own'.ns=own.ns)(ha:∀m d,ρ.get m=some d->own'.at' m=own.at' m)(hi:∀n a,own'.at' n=some a->a∈O):fM G env own' O ρ h:=
 { x with
  oin:=hi
  ns:=let⟨m,a,b⟩:=x.ns;⟨m,a,fun n y d h1 h2 h3=>let⟨v,e,r⟩:=b n y d h1 h2 h3;⟨v,e,by unfold cG at *;rw[hns,ha n d h3];exact r⟩⟩
  cl:=fun n y d h1 h2 h3=>let⟨c,v,e,q,r⟩:=x.cl n y d h1 h2 h3;⟨c,v,e,q,by unfold cG at *;rw[hns,ha n d h3];exact r⟩ }
def sL (G:GC)(A:Around)(O:a9)(t:Sem Value)(s:Shared)(xs:List D):Prop:=
 ∀(Q E:bg),(∀s1 D (vs:Array Value),Ext G s s1->s.heap.get? D=none->s1.heap.PlainList D vs->ai G.w (D::O) s1.heap vs.toList xs->Q (.ref D) s1)->wpAny (br G) A t Q E s
set_option tactic.hygienic true in
theorem FI.ownAt {s1:Shared}{D:Addr}{vs:Array Value}{xs:List Internal.D}{O2:a9}(F:FI G A env own O Oc M ρ s1)(hDO:D∉O)(h0:G.h₀.get? D=none)(k1:∀a∈O2,a=D\/a∈O)(k2:D∈O2)(k3:∀a∈O,a∈O2)(E:fM G env own O2 ρ s1.heap)
  (pl:s1.heap.PlainList D vs)(r:ai G.w O2 s1.heap vs.toList xs)(hl:xs.length<=16777216)(hn:n∈own.ns) :
  FI G A env (own.put n D) O2 Oc (D::M) (ρ.del [n]) s1/\cG G.w (own.put n D) n O2 s1.heap (.ref D) (.list xs):=by
 have hMD:∀a∈M,a≠D:=fun a m q=>hDO (q▸F.mO a m);obtain⟨n0,e0⟩:=id pl;refine⟨⟨⟨F.inv.ok,F.inv.hh,F.inv.base,F.inv.pos,fun a m=>?_, ?_⟩,fun a m=>?_,dP _ F.ml,fun y c e=>dP _ (F.mc y c e),fun m a e=>?_,fun a m=>?_,fun a m o e=>?_,fun a m=>k3 a (F.cO a m),fun a m q=>?_,fun m k a e1 e2=>?_⟩, ?_⟩
 .rcases k1 a m with rfl|m
  .exact⟨_,e0, .inl nofun⟩
  .exact F.inv.ov a m
 .have E1:fM G env own O2 (ρ.del [n]) s1.heap:=E.weaken fun m d e=>by
   rw[aB.get_del]at e;split at e
   .exact nn e
   .exact e
  refine E1.reown rfl (fun m d e=>?_) fun m a e=>?_
  .rw[aB.get_del]at e;split at e
   .exact nn e
   .rename_i c;have:m≠n:=fun q=>c (by simp[q]);simp[dK.put,this]
  .unfold dK.put at e;dsimp only at e;split at e
   .obtain rfl:=aC e;exact k2
   .exact E.oin m a e
 .exact(bM m).elim (fun e=>e▸k2) fun m=>k3 a (F.mO a m)
 .unfold dK.put at e;dsimp only at e;split at e
  .obtain rfl:=aC e;exact dX
  .exact dP _ (F.mo m a e)
 .rcases bM m with rfl|m
  .exact h0
  .exact F.m0 a m
 .rcases bM m with rfl|m
  .rw[e0]at e;obtain rfl:=aC e;exact ir rfl rfl
  .exact F.mt a m o e
 .rcases bM m with rfl|m
  .exact hDO (F.cO a q)
  .exact F.cM a m q
 .unfold dK.put at e1 e2;dsimp only at e1 e2;split at e1 <;> split at e2
  .rename_i h1 h2;rw[h1,h2]
  .obtain rfl:=aC e1;exact absurd rfl (hMD _ (F.mo _ _ e2))
  .obtain rfl:=aC e2;exact absurd rfl (hMD _ (F.mo _ _ e1))
  .exact F.inj _ _ _ e1 e2
 .unfold cG;rw[if_pos (show n∈(own.put n D).ns from hn)];exact⟨D,vs,xs,by simp[dK.put],rfl,k2,rfl,hl,pl,r⟩
theorem FI.newOwn {s s1:Shared}{D:Addr}{vs:Array Value}{xs:List Internal.D}(F:FI G A env own O Oc M ρ s)(x:Ext G s s1)(hD:s.heap.get? D=none)(pl:s1.heap.PlainList D vs)(r:ai G.w (D::O) s1.heap vs.toList xs)(hl:xs.length<=16777216)(hn:n∈own.ns) :
  FI G A env (own.put n D) (D::O) Oc (D::M) (ρ.del [n]) s1/\cG G.w (own.put n D) n (D::O) s1.heap (.ref D) (.list xs)/\cz G O M s (D::O) (D::M) s1:=by
 have gr:∀a∈[D],s.heap.get? a=none:=fun a m=>by rw[aV m];exact hD
 obtain⟨F2,sr⟩:=(F.ext x).ownAt (n:=n) (O2:=D::O) (F.inv.ov.new hD) (bA (fun o q=>F.inv.base.keep _ o q) hD) (fun a m=>bM m) dX (fun a m=>dP _ m) ((F.inv.envr.news gr).keep x.keep) pl r hl hn;exact⟨F2,sr,x.sext,fun a m=>dP _ m,fun a m=>dP _ m,fun a m=>(bM m).elim (fun e=>.inr (e▸hD)) .inl,fun a m=>(bM m).elim (fun e=>.inr (e▸hD)) .inl⟩
theorem Gk (ρ:aB)(n:Nat)(d:D)(m:Nat):((ρ.del [n]).set n d).get m=(ρ.set n d).get m:=by
 rw[aB.get_set,aB.get_set];by_cases c:m=n
 .simp[c]
 .rw[if_neg c,if_neg c,aB.get_del];simp[c]
theorem AI {s s1:Shared}{k:NameKind}{D:Addr}{vs:Array Value}{xs:List Internal.D}(F:FI G A env own O Oc M ρ s)(x1:Ext G s s1)(hD:s.heap.get? D=none)(pl:s1.heap.PlainList D vs)(r:ai G.w (D::O) s1.heap vs.toList xs)(hl:xs.length<=16777216)(hn:n∈own.ns)
  (nm:G.names[n]?=some x)(hk:env.kindOf x=some k)(hkk:k=.local\/k=.cell){Q:Unit->Shared->Prop}{E:bg}
  (q:∀s2,FI G A env (own.put n D) (D::O) Oc (D::M) (ρ.set n (.list xs)) s2->cz G O M s (D::O) (D::M) s2->bl G (wtg G env [n]) s1 s2->Q () s2):wpAny (br G) A (storeName env x (.ref D)) Q E s1:=by
 obtain⟨F1,sr,sp⟩:=F.newOwn x1 hD pl r hl hn;refine gJ (W:=wtg G env [n]) F1.inv nm hk hkk sr ⟨dX,fun hc c e=>(jQ (G:=G) (env:=env) [n]).2 n (by simp) x c nm hc e⟩ fun s2 x2 _ I2=>?_;exact q s2 ((F1.stored x2 I2).weaken fun m d e=>by rw[Gk];exact e) (cz.trans F.mO sp (F1.step x2)) x2
theorem zx (nm:G.names[n]?=some x)(hk:env.kindOf x=some k)(hkk:k=.local\/k=.cell)(hno:n∈ns.l)(hpn:ns.free n)(hfn:env.scope.kind=.function)(hs:gZ env.kindOf x np value=false)(hl:xs.length<=16777216)
  (h:∀own O s,own.is ns->di G A env own O ρ s->sL G A O (eval value env) s xs):cP G A (exec (.Assign [.Name x np] value pos) env) env Oc ns ρ (.n (ρ.set n (.list xs))):=fun own O M s hn F Q E q _=>by
 refine wpAny_Assign_Name (h own O s hn F.inv _ _ fun s1 D vs x1 hD pl r=>?_) (by rw[jO hfn,hs]);exact AI F x1 hD pl r hl (hn.1▸hno) nm hk hkk fun s2 F2 sp x2=>q _ (own.put n D) _ _ s2 rfl ⟨hn.1,fun p e=>(if_neg (hpn p e)).trans (hn.2 p e)⟩ F2 sp
theorem vM (I:di G A env own O ρ s)(h:kZ G A es env own O ρ xs)(hl:xs.length<=1000):sL G A O (eval (.List es pos) env) s xs:=fun Q E q=>by
 rw[arm_eval_List];refine aN (wpAny_standAt (aN (h s pos I _ _ fun vs s1 x1 r1=>?_)));have e:=r1.length;have hk:∀b o,s1.heap.get? b=some o->(s1.heap.push { cls:=.type "list",data:=.seq vs.toArray }).get? b=some o:=fun b o e=>fO _ e;refine wpAny_newObj_type (q { s1 with heap:=s1.heap.push { cls:=.type "list",data:=.seq vs.toArray } } s1.heap.objs.size vs.toArray (x1.trans (.all (t:=s1.toks) x1.base hk x1.pos)) (x1.back _ (ax _)) ⟨0,ie _ rfl⟩ ?_) (by show vs.toArray.size<=sizeLine;rw[List.size_toArray,e,bh];exact rJ ‹_› rfl)
 simpa using(r1.new (ax _)).keep (.of hk)
end
end
section
section
variable {G:GC}{A:Around}{S:cL}{env:Env}{own:dK}{O Oc M:a9}{ρ:aB}{d:D}{ns:Nk}
theorem FI.turned (F:FI G A env own O Oc M ρ s)(hn:n∈own.ns)(ha:own.at' n=some a)(hg:ρ.get n=some (.list xs))(pl:s.heap.PlainList a vs)(hs':Heap.SameBut a s.heap h')(pl':h'.PlainList a vs')
  (r':ai G.w O h' vs'.toList xs')(hl:xs'.length<=16777216):FI G A env own O Oc M (ρ.set n (.list xs')) { s with heap:=h' }/\cz G O M s O M { s with heap:=h' }:=by
 have aM:a∈M:=F.mo n a ha;have kb:aI [a] s.heap h':=dN (aR hs');obtain⟨n0,e0⟩:=id pl;obtain⟨n1,e1⟩:=id pl';have ht:bG O [a] s.heap:=fun b m o e=>by
  rcases aV m with rfl
  rw[e0]at e;obtain rfl:=aC e;exact⟨ir rfl rfl,fun _=>F.mO _ aM⟩
 have B:aX G h':=F.inv.base.but (aR hs') (fun b m=>by rcases aV m with rfl;exact F.m0 _ aM) fun b m o e=>(ht b m o e).1;have loc_ne:env.locals∉[a]:=fun m=>by obtain⟨mm,⟨o,es,ep,e2,e3,_⟩,_⟩:=F.inv.envr.ns;rw[aV m,e0]at e2;obtain rfl:=aC e2;cases e3
 have cell_ne:∀{c v},s.heap.IsCell c v->c∉[a]:=fun{c v} ⟨o,e2,e3⟩ m=>by rw[aV m,e0]at e2;obtain rfl:=aC e2;cases e3
 have oth:∀m,m≠n->∀b vs,own.at' m=some b->s.heap.PlainList b vs->b∉[a]:=fun m hm b _ hb _ q=>by rw[aV q]at hb;exact hm (F.inj _ _ _ hb ha)
 have new:cG G.w own n O h' (.ref a) (.list xs'):=by unfold cG;rw[if_pos hn];exact⟨a,vs',xs',ha,rfl,F.mO _ aM,rfl,hl,pl',r'⟩
 have val:∀{v},cG G.w own n O s.heap v (.list xs)->v=.ref a:=fun r=>by obtain⟨b,_,e,h,_⟩:=r.lst hn;rw[ha]at e;rw[h,aC e]
 have hnd:=F.inv.ok.nd;refine⟨⟨⟨F.inv.ok,F.inv.hh,B,F.inv.pos,F.inv.ov.but kb fun b m=>?_,⟨F.inv.envr.fn,F.inv.envr.gl,F.inv.envr.bi,F.inv.envr.lin,F.inv.envr.lfr,F.inv.envr.oin,F.inv.envr.cin,F.inv.envr.inj,fun y hy=>?_, ?_,fun m y d' h1 h2 h3=>?_⟩⟩,F.mO,F.ml,F.mc,F.mo,F.m0,fun b m o e=>?_,F.cO,F.cM,F.inj⟩,
  ⟨⟨⟨rfl,rfl⟩,kb.mono fun b m=>by rcases aV m with rfl;exact aM,B,F.inv.pos,fun b m e=>bA (fun o q=>aR hs' b o (fun mm=>m (by rcases aV mm with rfl;exact aM)) q) e⟩,fun _ m=>m,fun _ m=>m,fun _ m=>.inl m,fun _ m=>.inl m⟩⟩
 .rcases aV m with rfl;exact⟨_,e1, .inl nofun⟩
 .obtain⟨c,v,e,q⟩:=F.inv.envr.ce y hy;exact⟨c,v,e,kb.cell (cell_ne q) q⟩
 .obtain⟨mm,hm,hv⟩:=F.inv.envr.ns;refine⟨mm,kb.ns loc_ne hm,fun m y d' h1 h2 h3=>?_⟩;rw[aB.get_set]at h3;by_cases c:m=n
  .subst c;rw[if_pos rfl]at h3;obtain rfl:=aC h3;obtain⟨v,e,r⟩:=hv m y _ h1 h2 hg;rw[val r]at e;exact⟨_,e,new⟩
  .rw[if_neg c]at h3;obtain⟨v,e,r⟩:=hv m y d' h1 h2 h3;exact⟨v,e,r.but kb ht (oth m c)⟩
 .rw[aB.get_set]at h3;by_cases c:m=n
  .subst c;rw[if_pos rfl]at h3;obtain rfl:=aC h3;obtain⟨cc,v,e,q,r⟩:=F.inv.envr.cl m y _ h1 h2 hg;rw[val r]at q;exact⟨cc,_,e,kb.cell (cell_ne q) q,new⟩
  .rw[if_neg c]at h3;obtain⟨cc,v,e,q,r⟩:=F.inv.envr.cl m y d' h1 h2 h3;exact⟨cc,v,e,kb.cell (cell_ne q) q,r.but kb ht (oth m c)⟩
 .by_cases c:b∈[a]
  .rcases aV c with rfl
   have e:h'.get? b=some o:=e;rw[e1]at e;obtain rfl:=aC e;exact ir rfl rfl
  .obtain⟨o',e',q⟩:=F.back b m;have e:h'.get? b=some o:=e;rw[kb b o' c e' q]at e;obtain rfl:=aC e;exact F.mt b m _ e'
theorem IF (N:gt G env n x)(hno:n∈ns.l)(hg:ρ.get n=some (.list xs))(hp:(ap.endLine==p.line)=true)(hst:bk elt=true)(hfn:env.scope.kind=.function)(h:EG G A elt env ns ρ d)(hl:xs.length<1000000) :
  cP G A (exec (.Expr (.Call (.Attribute (.Name x np) "append" ap) [elt] [] p) pos) env) env Oc ns ρ (.n (ρ.set n (.list (xs++[d])))):=fun own O M s hn F Q E q _=>by
 refine wpAny_Expr ?_ (j7 hfn) (dJ rfl _ _ _);refine iq rfl (show(bk elt&&true)=true by rw[hst];rfl) (show 1<30 by decide) hp (jF N F.inv (hn.1▸hno) hg fun a vs ha aO z l r pl=>?_);obtain⟨n0,e0⟩:=id l;refine getMethod_builtin (T:="list") ⟨_,e0,rfl⟩ PySem.F.plainAttrs_list slot_list_append PySem.F.type_list_append (fun a' e'=>by cases e';exact⟨_,e0,rfl⟩) ⟨_,rfl, ?_⟩;rw[cr hst];refine spliced_cons (h own O hn s F.inv _ _ fun v s1 x1 r1=>spliced_nil ?_);have F1:=F.ext x1;have l1:=bq l x1.keep;have e:=r.length;simp only[jR]at e;refine wpAny_list_append_plain l1 (fun h' pl' hs'=>?_) (by rw[bh,e];assumption);have ht:bG O [a] s1.heap:=fun b m o e=>by
  rcases aV m with rfl
  exact F1.turn b (F.mo n b ha) o e
 have rr:ai G.w O h' (vs.push v).toList (xs++[d]):=by rw[Array.toList_push];exact((r.keep x1.keep).append (.cons r1 .nil)).but (dN (aR hs')) ht
 obtain⟨F2,sp⟩:=F1.turned (hn.1▸hno) ha hg l1 hs' pl' rr (by simp;omega);exact q _ own O M _ rfl hn F2 (cz.trans F.mO x1.step sp)
end
end
section
section
variable {G:GC}{A:Around}{S:cL}{env:Env}{own:dK}{O Oc M:a9}{ρ:aB}{d:D}{ns:Nk}
set_option tactic.hygienic true in
theorem IH {x:Str}{y5:Expr}{np sp pos:Pos}{xs:List D}{i:Int}{j:Nat}(N:gt G env n x)(hno:n∈ns.l)(hg:ρ.get n=some (.list xs))(hi:EG G A y5 env ns ρ (.int i))(hj:seqIndex? i xs.length=some j) :
  cP G A (exec (.Delete [.Subscript (.Name x np) y5 sp] pos) env) env Oc ns ρ (.n (ρ.set n (.list (xs.eraseIdx j)))):=fun own O M s hn F Q E q _=>by
 refine wpAny_Delete (wpAny_deleteEach_cons (wpAny_delete_Subscript (jF N F.inv (hn.1▸hno) hg fun a vs ha aO z l r=>hi own O hn s F.inv _ _ fun u s1 x1 r1=>?_)));obtain⟨t,rfl⟩:=r1.int_inv;have F1:=F.ext x1;have l1:=bq l x1.keep;have e:=r.length;simp only[jR]at e;obtain⟨hlt,hc⟩:=jH hj;have e63:(2:Int)^63=9223372036854775808:=by decide
 have hfit:Builtin.List.listFitsIndex i=true:=by
  unfold Builtin.List.listFitsIndex;rw[e63];rcases hc with⟨h0,h3⟩|⟨h0,h3,h4⟩
  .rw[eD (by omega),eD (by omega)];rfl
  .rw[eD (by omega),eD (by omega)];rfl
 refine wpAny_delItem_plain l1 hfit (by rw[e];exact hj) (fun h' pl' hs'=>wpAny_deleteEach_nil ?_) (by rw[bh,e];exact z);have ht:bG O [a] s1.heap:=fun b m o e=>by
  rcases aV m with rfl
  exact F1.turn b (F.mo n b ha) o e
 have ev:(vs.eraseIdxIfInBounds j).toList=vs.toList.eraseIdx j:=by simp
 have rr:ai G.w O h' (vs.eraseIdxIfInBounds j).toList (xs.eraseIdx j):=by
  rw[ev];refine ai.but ?_ (dN (aR hs')) ht;have r0:=r.keep x1.keep;refine .of_get (by rw[List.length_eraseIdx,List.length_eraseIdx,r0.length]) fun k v d e1 e2=>?_;rw[List.getElem?_eraseIdx]at e1 e2;split at e1
  .rename_i c;rw[if_pos c]at e2;obtain⟨v',e3,r3⟩:=r0.get _ d e2;rw[e1]at e3;obtain rfl:=aC e3;exact r3
  .rename_i c;rw[if_neg c]at e2;obtain⟨v',e3,r3⟩:=r0.get _ d e2;rw[e1]at e3;obtain rfl:=aC e3;exact r3
 obtain⟨F2,sp⟩:=F1.turned (hn.1▸hno) ha hg l1 hs' pl' rr (az (by rw[List.length_eraseIdx];split <;> exact Nat.sub_le _ _) z);exact q _ own O M _ rfl hn F2 (cz.trans F.mO x1.step sp)
theorem IL (N:gt G env n x)(hno:n∈ns.l)(hg:ρ.get n=some (.list xs))(hp:(ap.endLine==p.line)=true)(hfn:env.scope.kind=.function) :
  cP G A (exec (.Expr (.Call (.Attribute (.Name x np) "reverse" ap) [] [] p) pos) env) env Oc ns ρ (.n (ρ.set n (.list xs.reverse))):=fun own O M s hn F Q E q _=>by
 refine wpAny_Expr ?_ (j7 hfn) (dJ rfl _ _ _);refine iq rfl rfl (show 0<30 by decide) hp (jF N F.inv (hn.1▸hno) hg fun a vs ha aO z l r pl=>?_);obtain⟨n0,e0⟩:=id l;refine getMethod_builtin (T:="list") ⟨_,e0,rfl⟩ PySem.F.plainAttrs_list PySem.F.slot_list_reverse PySem.F.type_list_reverse (fun a' e'=>by cases e';exact⟨_,e0,rfl⟩) ⟨_,rfl,spliced_nil ?_⟩;have e:=r.length;simp only[jR]at e;refine call_meets PySem.F.slot_list_reverse ⟨_,e0,rfl⟩ PySem.F.entry_list_reverse (PySem.F.args_list_reverse_1 _) (AutoListH.list_reverse_list_0 a vs n0 (by rw[bh,e];exact z)) ⟨e0, ?_⟩;have hs':Heap.SameBut a s.heap (s.heap.update a (Obj.mapSeq fun x=>x.reverse)):=Heap.SameBut.update ..;have pl':(s.heap.update a (Obj.mapSeq fun x=>x.reverse)).PlainList a vs.reverse:=⟨_,IsL.update (n:=n0) e0 _⟩;have ht:bG O [a] s.heap:=fun b m o e=>by
  rcases aV m with rfl
  exact F.turn b (F.mo n b ha) o e
 have rr:ai G.w O (s.heap.update a (Obj.mapSeq fun x=>x.reverse)) vs.reverse.toList xs.reverse:=by
  refine ai.but ?_ (dN (aR hs')) ht;rw[Array.toList_reverse];refine .of_get (by simp[e]) fun i v d e1 e2=>?_;have hi:i<xs.length:=by have:=(List.getElem?_eq_some_iff.mp e2).1;simpa using this
  rw[List.getElem?_reverse (by rw[r.length];exact hi),r.length]at e1;rw[List.getElem?_reverse hi]at e2;obtain⟨v',e3,r3⟩:=r.get _ d e2;rw[e1]at e3;obtain rfl:=aC e3;exact r3
 obtain⟨F2,sp⟩:=F.turned (hn.1▸hno) ha hg l hs' pl' rr (by simpa using z);exact q _ own O M _ rfl hn F2 sp
end
end
end Internal
section
open PySem.Builtin PySem.Builtin.Str
namespace Internal
section
variable {G:GC}{A:Around}{S:cL}{env:Env}{own:dK}{O Oc M:a9}{ρ:aB}{d:D}{ns:Nk}
theorem ky:∀{tk:Nat}{l:List Str},sokAll (l.map .str)=true->ai w O h (strsFrom tk l) (l.map .str)
 |_,[],_=>.nil
 |tk,x::r,hs=>by obtain⟨h1,h2⟩:=bH (show(sok (.str x)&&sokAll (r.map .str))=true from hs);exact .cons (.str h1) (ky h2)
theorem wY (B:aX G s.heap)(p:0<s.toks)(ov:dB O s.heap)(hx:x.length<=16777216)(hy:0<y.length)(hs:sok (.list ((Txt.split x y).map .str))=true):sL G A O (call (.builtin "str.split") [.str x t, .str y u]) s ((Txt.split x y).map .str):=fun Q E q=>by
 obtain⟨hl,hsa⟩:=bH (show(decide (((Txt.split x y).map PyData.str).length<=16777216)&&sokAll ((Txt.split x y).map .str))=true from hs);have hl:=bX hl;have hy0:(y.length==0)=false:=by simpa using Nat.pos_iff_ne_zero.mp hy
 have key:∀(vs:Array Value)(k:Nat),0<k->ai G.w O s.heap vs.toList ((Txt.split x y).map .str)->Q (.ref s.heap.objs.size) { s with heap:=s.heap.push { cls:=.type "list",data:=.seq vs },toks:=k }:=fun vs k hk r=>by have kk:∀b o,s.heap.get? b=some o->(s.heap.push { cls:=.type "list",data:=.seq vs }).get? b=some o:=fun b o e=>fO _ e;exact q _ s.heap.objs.size vs (.all B kk hk) (ax _) ⟨0,ie _ rfl⟩ ((r.new (ax _)).keep (.of kk))
 cases h1:(decide (x.length<y.length) || decide (strKind x<strKind y))
 .cases hf:(occurrences x y 0 x.length (x.length+1)).isEmpty
  .have e:Txt.split x y=partsBetween x (occurrences x y 0 x.length (x.length+1)) y.length:=(if_neg (ne_true_of_eq_false h1)).trans (if_neg (ne_true_of_eq_false hf));rw[e]at hsa hl key;refine call_meets PySem.F.slot_str_split (typeIs_str _ _ _) PySem.F.entry_str_split (PySem.F.args_str_split_2 _ _) (meets_str_split_sep x y t u h1 hy0 hf (by rw[bh];exact hx) (by rw[bh];simpa using hl)) ?_;exact key _ _ (iu p (je _ _)) (by simpa using ky hsa)
  .have e:Txt.split x y=[x]:=(if_neg (ne_true_of_eq_false h1)).trans (if_pos hf);rw[e]at hsa key;refine call_meets PySem.F.slot_str_split (typeIs_str _ _ _) PySem.F.entry_str_split (PySem.F.args_str_split_2 _ _) (meets_str_split_not_found x y t u h1 hy0 hf) ?_;exact key #[.str x t] s.toks p (.cons (.str (by simpa [sokAll]using hsa)) .nil)
 .have e:Txt.split x y=[x]:=if_pos h1;rw[e]at hsa key;refine call_meets PySem.F.slot_str_split (typeIs_str _ _ _) PySem.F.entry_str_split (PySem.F.args_str_split_2 _ _) (meets_str_split_cannot_occur x y t u h1) ?_;exact key #[.str x t] s.toks p (.cons (.str (by simpa [sokAll]using hsa)) .nil)
theorem AC (I:di G A env own O ρ s)(hb:gT a=true)(hst:bk b=true)(hp:(ap.endLine==p.line)=true)(ha:bw G A a env own O ρ (.str x))(h:bw G A b env own O ρ (.str y))(hy:0<y.length)(hs:sok (.list ((Txt.split x y).map .str))=true) :
  sL G A O (eval (.Call (.Attribute a "split" ap) [b] [] p) env) s ((Txt.split x y).map .str):=fun Q E q=>by
 refine iq hb (show(bk b&&true)=true by rw[hst];rfl) (show 1<30 by decide) hp (ha s I _ _ fun u s1 x1 r1 pl=>?_);have hx:=(sok_str.mp r1.sok).2;obtain⟨t,rfl⟩:=r1.str_inv;refine GM.split ⟨_,rfl, ?_⟩;rw[cr hst];refine spliced_cons (h s1 (I.ext x1) _ _ fun v s2 x2 r2=>spliced_nil ?_);obtain⟨t',rfl⟩:=r2.str_inv;have x12:=x1.trans x2;exact wY x12.base x12.pos (I.ext x12).ov hx hy hs _ _ fun s3 D vs x3 h3 pl3 r3=>q s3 D vs (x12.trans x3) (x12.back _ h3) pl3 r3
end
end Internal
end
namespace Internal
section
section
variable {G:GC}{A:Around}{S:cL}{env:Env}{own:dK}{O Oc M:a9}{ρ:aB}{d:D}{ns:Nk}
theorem FI.addC (F:FI G A env own O Oc M ρ s)(x:Ext G s s')(hC:s.heap.get? C=none)(hC':∃o,s'.heap.get? C=some o/\gu o):FI G A env own (C::O) Oc M ρ s':=by
 have F1:=F.ext x;refine⟨⟨F.inv.ok,F.inv.hh,x.base,x.pos,fun a m=>?_,(F.inv.envr.news (N:=[C]) fun a m=>by rw[aV m];exact hC).keep x.keep⟩,fun a m=>dP _ (F.mO a m),F.ml,F.mc,F.mo,F.m0,F1.mt,fun a m=>dP _ (F.cO a m),F.cM,F.inj⟩;rcases bM m with rfl|m
 .exact hC'
 .exact F1.inv.ov a m
set_option tactic.hygienic true in
theorem fM.sub (x:fM G env own O ρ h)(k:∀a∈O',a∈O)(hl:env.locals∈O')(hc:∀y c,env.cells.lookup y=some c->c∈O')(ho:∀n a,own.at' n=some a->a∈O'):fM G env own O' ρ h:=by
 have sr:∀{n v d},cG G.w own n O h v d->cG G.w own n O' h v d:=fun{n v d} r=>by
  unfold cG at *;split at r
  .rename_i q;rw[if_pos q];obtain⟨a,vs,xs,y,e,m,q,z,l,r⟩:=r;exact⟨a,vs,xs,y,e,ho _ _ y,q,z,l,r.sub k⟩
  .rename_i q;rw[if_neg q];exact r.sub k
 exact{ x with
  lin:=hl
  oin:=ho
  cin:=fun y c e=>⟨hc y c e,(x.cin y c e).2⟩
  ns:=let⟨m,a,b⟩:=x.ns;⟨m,a,fun n y d h1 h2 h3=>let⟨v,e,r⟩:=b n y d h1 h2 h3;⟨v,e,sr r⟩⟩
  cl:=fun n y d h1 h2 h3=>let⟨c,v,e,q,r⟩:=x.cl n y d h1 h2 h3;⟨c,v,e,q,sr r⟩ }
theorem FI.letC (F:FI G A env own (C::O) Oc M ρ s)(hO:C∉O)(hMO:∀a∈M,a∈O)(hc:∀a∈Oc,a∈O)(h0:G.h₀.get? C=none)(hm:∃m,s.heap.Ns C m)(hs':Heap.SameBut C s.heap h'):FI G A env own O Oc M ρ { s with heap:=h' }:=by
 have hM:C∉M:=fun m=>hO (hMO C m);obtain⟨m,o,es,ep,e,dd,_⟩:=hm;have ht:bG (C::O) [C] s.heap:=fun b m o' e'=>by
  rcases aV m with rfl
  rw[e]at e';obtain rfl:=aC e';exact⟨gB dd,fun _=>dX⟩
 have kb:aI [C] s.heap h':=dN (aR hs');have B:aX G h':=F.inv.base.but (aR hs') (fun b m=>by rcases aV m with rfl;exact h0) fun b m o e=>(ht b m o e).1;have E1:=F.inv.envr.but kb ht (fun m=>hM (aV m▸F.ml)) (fun y c e m=>hM (aV m▸F.mc y c e)) fun n a _ e _ m=>hM (aV m▸F.mo n a e);refine⟨⟨F.inv.ok,F.inv.hh,B,F.inv.pos,fun a m=>?_,E1.sub (fun a m=>dP _ m) (hMO _ F.ml) (fun y c e=>hMO _ (F.mc y c e)) fun n a e=>hMO _ (F.mo n a e)⟩,hMO,F.ml,F.mc,F.mo,F.m0,fun a m o' e'=>?_,hc,F.cM,F.inj⟩
 .obtain⟨o2,e2,q⟩:=F.inv.ov a (dP _ m);exact⟨o2,kb a o2 (fun q=>hO (aV q▸m)) e2 q,q⟩
 .have c:a∉[C]:=fun q=>hM (aV q▸m);obtain⟨o2,e2,q⟩:=F.back a m;have e':h'.get? a=some o':=e';rw[kb a o2 c e2 q]at e';obtain rfl:=aC e';exact F.mt a m _ e2
theorem yg (X:∀own,own.is ns->cy G A S c env own)(hch:bn c (.p elt gs) (.ListComp e gens scope lp)=true)(hev:ev S ρ (.p elt gs)=some d)
  (nm:G.names[n]?=some x)(hk:env.kindOf x=some k)(hkk:k=.local\/k=.cell)(hno:n∉ns.l)(hfn:env.scope.kind=.function)(hs:gZ env.kindOf x np (.ListComp e gens scope lp)=true) :
  cP G A (exec (.Assign [.Name x np] (.ListComp e gens scope lp) pos) env) env Oc ns ρ (.n (ρ.set n d)):=fun own O M s hn F Q E q _=>by
 rw[exec_Assign_Name_used _ _ _ _ (by rw[jO hfn,hs])];refine aN (wpAny_standAt (aN ?_));show wpAny _ A (comprehension (.ListComp e gens scope lp) scope env (firstIterPos gens lp) (newList []) (firstAsync gens) (firstIter gens env) (some (assign (.Name x np) env)) >>= fun _=>pure ()) _ _ s;refine aN (BR (X own hn) hch hev F.inv fun C D s' vs out hd hl xs h1 h2 h3 h4 h5 h6 h7 h8 h9=>?_);subst hd;obtain⟨mm,hmm⟩:=h6;have hsol:∀{h:Heap} {m},h.Ns C m->∃o,h.get? C=some o/\gu o:=fun{h m} ⟨o,es,ep,e,dd,_⟩=>⟨o,e, .inr fun vs q=>by rw[dd]at q;cases q⟩;have FC:=F.addC xs h2 (hsol hmm);have hCM:C∉M:=fun m=>by obtain⟨o,e,_⟩:=F.back C m;rw[h2]at e;exact nn e
 have rD:av G.w (C::O) s'.heap (.ref D) (.list out):=by
  refine .list_of hl (fun m=>?_) h7.isList (fun o e=>by obtain⟨n0,e'⟩:=h7;rw[e']at e;obtain rfl:=aC e;rfl) (h8.sub fun a m=>?_)
  .rcases bM m with m|m
   .exact h1 m.symm
   .obtain⟨o,e,_⟩:=F.inv.ov D m;rw[h3]at e;exact nn e
  .rcases bM m with rfl|m
   .exact dX
   .exact dP _ (dP _ m)
 refine wpAny_assign_Name (gJ (W:=wtg G env [n]) FC.inv nm hk hkk (iV (hn.1▸hno) rD) ⟨dX,fun hc c e=>(jQ (G:=G) (env:=env) [n]).2 n (by simp) x c nm hc e⟩ fun s2 x2 _ I2=>?_);have F2:=FC.stored x2 I2;have hCw:C∉wtg G env [n]:=fun m=>hCM (FC.wtg C m);have hm2:=x2.keep.ns hCw hmm;refine⟨mm,hm2,fun h' hs'=>bB (bB ?_)⟩;have hCO:C∉O:=fun m=>by obtain⟨o,e,_⟩:=F.inv.ov C m;rw[h2]at e;exact nn e
 have F3:=F2.letC hCO F.mO F.cO h4 ⟨mm,hm2⟩ hs';refine q _ own O M _ rfl hn F3 ⟨?_,fun _ m=>m,fun _ m=>m,fun _ m=>.inl m,fun _ m=>.inl m⟩;have y:bl G (C::M) s { s2 with heap:=h' }:=by refine(xs.sext.trans (x2.mono fun a m=>dP _ (FC.wtg a m))).trans ⟨⟨rfl,rfl⟩,(dN (aR hs')).mono fun a m=>by rcases aV m with rfl;exact dX,F3.inv.base,F3.inv.pos,fun b m e=>bA (fun o q=>aR hs' b o (fun mm=>m (by rcases aV mm with rfl;exact dX)) q) e⟩
 refine⟨y.same,fun b o m e c=>y.keep b o (fun mm=>?_) e c,y.base,y.pos,fun b m e=>?_⟩
 .rcases bM mm with rfl|mm
  .rw[h2]at e;exact nn e
  .exact m mm
 .by_cases c:b=C
  .rw[c];exact h2
  .exact y.back b (fun q=>(bM q).elim c m) e
end
end
section
section
variable {G:GC}{A:Around}{S:cL}{env:Env}{own:dK}{O Oc M:a9}{ρ:aB}{d:D}{ns:Nk}
inductive Jx (G:GC)(A:Around)(env:Env)(O Oc M:a9)(I a:Addr)(n:Nat)(ns:Nk)(f:D->aB->Option jg)(out:jg)(s s1:Shared)(m:Nat)(s':Shared):Prop
 |mk (i:Nat) (ρi:aB)(own':dK)(O' M':a9)(hg:rE f n m i ρi=some out)(L:LI G A env O Oc M [I] ⟨ns.l,some (n,a)⟩ s s1 ρi own' O' M' s')(st':s'.heap.IsListIter I a i)
theorem Ik (N:gt G env n y)(I:di G A env own O ρ s)(ho:n∈own.ns)(hg:ρ.get n=some (.list xs)):∃a vs,own.at' n=some a/\a∈O/\s.heap.PlainList a vs/\ai G.w O s.heap vs.toList xs:=by
 have un:∀{v},cG G.w own n O s.heap v (.list xs)->∃a vs,own.at' n=some a/\a∈O/\s.heap.PlainList a vs/\ai G.w O s.heap vs.toList xs:=fun r=>by obtain⟨a,vs,h1,_,h3,_,h6,h7⟩:=r.lst ho;exact⟨a,vs,h1,h3,h6,h7⟩
 obtain⟨k,hk,hkk⟩:=N.kd;rcases hkk with rfl|hkk
 .obtain⟨m,_,hv⟩:=I.envr.ns;obtain⟨v,_,r⟩:=hv n y _ N.nm hk hg;exact un r
 .obtain⟨c,v,_,_,r⟩:=I.envr.cl n y _ N.nm (by rcases hkk with rfl|rfl;exact .inl hk;exact .inr hk) hg;exact un r
theorem Gy {n K:Nat}{tg:aH}{xs:List D}{f:D->aB->Option jg}{out:jg}(N:gt G env n y)(hno:n∈ns.l)(hp0:ns.p=none)(hg:ρ.get n=some (.list xs))(hnt:ch target=true)
  (ht:∀own,own.ns=ns.l->cQ G env own target tg)(hb:∀a x ρ' o,f x ρ'=some o->∃ρ'',bE ρ' tg x=some ρ''/\cP G A (execs body env) env Oc ⟨ns.l,some (n,a)⟩ ρ'' o)(hf:rE f n K 0 ρ=some out) :
  cP G A (exec (.For target (.Name y np) body [] pos) env) env Oc ns ρ out:=fun own O M s hn F Q E q1 q2=>by
 refine wpAny_For (jF N F.inv (hn.1▸hno) hg fun a us ha aO z pl rv=>wpAny_pyIter_list pl.isList ?_) (fun x=>jY rfl env x);generalize hs1:({ s with heap:=s.heap.push { cls:=.type "list_iterator",data:=.fields #[.ref a, .int 0 0] } }:Shared)=s1;have gext:Ext G s s1:=by rw[<- hs1];exact .all (t:=s.toks) F.inv.base (fun b o e=>fO _ e) F.inv.pos
 have st0:s1.heap.IsListIter s.heap.objs.size a 0:=by rw[<- hs1];exact⟨_,ie _ rfl,rfl,rfl⟩
 generalize hI:s.heap.objs.size=I at st0 ⊢;have hIn:s.heap.get? I=none:=by rw[<- hI];exact ax _
 have h1:∀b∈[I],s.heap.get? b=none:=fun b m=>by rw[aV m];exact hIn
 refine codeAny_forLoop_any (Jx G A env O Oc M I a n ns f out s s1) (fun m s' hI=>?_) K
  ⟨0,ρ,own,O,M,hf, .start F gext h1 ⟨hn.1,fun p e=>aC e▸ha⟩,st0⟩
 obtain⟨i,ρi,own',O',M',hg,L,st'⟩:=hI;have hwz:∀b∈[I],∀o,s'.heap.get? b=some o->Bm false o:=fun b m o e=>by obtain⟨o',e',c,dd⟩:=st';rw[aV m,e']at e;obtain rfl:=aC e;exact gN c dd (by decide)
 cases m with
 |zero=>exact za hg
 |succ m =>
  refine ef hg fun xs' gx hg=>?_;obtain⟨a',vs',ha',aO',pl',rv'⟩:=Ik N L.F.inv (L.hn.1▸hno) gx;obtain rfl:a'=a:=aC (ha'.symm.trans (L.hn.2 _ rfl));cases hx:xs'[i]? with
  |none =>
   rw[hx]at hg;obtain rfl:=aC hg;have hv:vs'[i]?=none:=by rw[<- Array.getElem?_toList];exact Ao (by rw[rv'.length];exact List.getElem?_eq_none_iff.mp hx)
   refine wpAny_pyNext_list_end L.F.inv.hh st' pl'.isList hv fun g hk=>wpAny_execs_nil ?_;obtain⟨L2,_⟩:=L.turn hwz (fun b o m e=>hk b o (fun q=>m (List.mem_singleton.mpr q)) e) L.F.inv.pos;exact q1 ρi own' O' M' _ rfl ⟨L.hn.1,fun p e=>by rw[hp0]at e;exact nn e⟩ L2.F L2.done
  |some d =>
   rw[hx]at hg;obtain⟨v,hv,rv⟩:=rv'.get i d hx;rw[Array.getElem?_toList]at hv;refine wpAny_pyNext_list_item st' pl'.isList hv fun g hit sb=>pO hnt hit ?_;have hk:∀b o,b∉[I]->s'.heap.get? b=some o->g.get? b=some o:=fun b o m e=>sb.extBut b o (fun q=>m (List.mem_singleton.mpr q)) e;obtain⟨L2,t2⟩:=L.turn hwz hk L.F.inv.pos;have ri:av G.w O' g v d:=rv.but (fun b o m e _=>hk b o m e) t2;have hg:qT (f d ρi) (rE f n m (i+1))=some out:=hg;cases hfo:f d ρi with
   |none=>rw[hfo]at hg;exact za hg
   |some o =>
    rw[hfo]at hg;obtain⟨ρ'',hbd,hst⟩:=hb a' _ _ _ hfo;refine ft (W:=wtg G env tg) (ht own' L.hn.1) L2.F.inv ri hbd (jQ tg) fun s3 x3 k3 I3=>?_;have L3:=L2.stored x3 I3;have itk:∀(t t':Shared)(j:Nat),t.heap.IsListIter I a' j->aI M' t.heap t'.heap->t'.heap.IsListIter I a' j:=fun t t' j ⟨o,e,c,dd⟩ kb=>⟨o,kb I o (L.wM I (.head _)) e (be c),c,dd⟩;have st3:=itk { s' with heap:=g } s3 _ hit (L2.F.step x3).sx.keep;refine hst own' O' M' s3 L.hn L3.F _ _ (fun ρ3 own3 O3 M3 s4 e3 hn3 F4 sp4=>?_) (fun d' v' s4 e3 sx4 r4=>?_)
    .subst e3;exact⟨m,Nat.lt_succ_self m,i+1,ρ3,own3,O3,M3,hg,L3.next (fun a q e=>by obtain⟨o,e',_⟩:=st3;rw[aV q,e']at e;exact za e.symm) hn3 F4 sp4,itk s3 s4 _ st3 sp4.sx.keep⟩
    .subst e3;obtain rfl:=aC hg;exact q2 d' v' s4 rfl (L3.back sx4) r4
end
end
section
noncomputable def tgt (c:Cx)(n:Nat)(y:Str):Bool:=c.nm[n]?==some y&&(c.sc.lookup y==some .local || c.sc.lookup y==some .cell)
def IQ (c:Cx)(es:dU)(e:Expr):Bool:=!(gd e fun _ _ _=>true) || gd e fun vs _ _=>(t4 (fun y=>c.sc.lookup y) es vs).isSome
def Dc (e:Expr):Bool:=!(gd e fun _ _ _=>true)
def CQ (i:Int)(e:Expr):Bool:=eB e fun k _ _=>(match k with|.int j=>i==j|_=>false)
def G2 (i:Int)(x:Expr):Bool:=CQ i x || ka x fun o a _=>(decide (o=.USub)&&CQ (-i) a)
set_option tactic.hygienic true in
theorem CR (h:CQ i x=true):∃n p,x=.Constant (.int i) n p:=by
 refine cA (P:=fun x=>∃n p,x=.Constant (.int i) n p) h fun k n p h=>?_;rcases k with⟨⟩|⟨⟩
 case int j=>exact⟨n,p,by rw[eC h]⟩
 all_goals exact absurd h nP
noncomputable def CA (e:E):Bool:=match e with|.p _ _=>true|_=>false
set_option tactic.hygienic true in
theorem zS (h:CA e=true):∃el gs,e=.p el gs:=by
 cases e
 case p el gs=>exact⟨el,gs,rfl⟩
 all_goals exact ff h
def lI (x:Stmt)(k:Expr->Expr->Bool):Bool:=se x fun z v _=>gE z fun t=>k t v
@[elab_as_elim] theorem eA {k:Expr->Expr->Bool}{P:Stmt->Prop}(h:lI x k=true)(q:∀t v p,k t v=true->P (.Assign [t] v p)):P x:=by refine qf h fun z v p h=>?_;exact aS h fun t h=>q t v p h
def xG (x:Stmt)(k:Str->Str->dU->Pos->Pos->Bool):Bool:=tJ x fun z _=>lK z fun o m ap es p=>bD o fun y _=>k y m es ap p
@[elab_as_elim] theorem nD {k:Str->Str->dU->Pos->Pos->Bool}{P:Stmt->Prop}(h:xG x k=true)(q:∀y np m es ap p sp,k y m es ap p=true->P (.Expr (.Call (.Attribute (.Name y np) m ap) es [] p) sp)):P x:=by refine lP h fun z sp h=>?_;refine fZ h fun o m ap es p h=>?_;exact aF h fun y np h=>q y np m es ap p sp h
def JX (c:Cx)(n:Nat):Bool:=aZ c.own fun m r=>m==n&&r.contains n
def vN (c:Cx):Bool:=!(aZ c.own fun m r=>r.contains m)
mutual
noncomputable def wZ (c:Cx):St->Stmt->Bool
 |.s n e,x=>lI x fun z v=>bD z fun y np=>(tgt c n y&&!c.own.contains n&&bn c e v&&(CA e || !gZ (fun y=>c.sc.lookup y) y np v))
 |.u tg e,x=>lI x fun z v=>gd z fun es k tp=>(t7 c tg (.Tuple es k tp)&&decide tg.Nodup&&IQ c es v&&bn c e v)
 |.aug n o e,x=>lN x fun z1 o' v w2=>bD z1 fun y w1=>(decide (o=o')&&tgt c n y&&!c.own.contains n&&!(y==("__classdict__" : Str))&&bn c e v)
 |.newO n es,x=>lI x fun z v=>bD z fun y _=>tI v fun xs _=>(tgt c n y&&c.own.contains n&&!JX c n&&dC c es xs)
 |.splitO n a b,x=>lI x fun z v=>bD z fun y _=>lK v fun ob m ap es p=>gE es fun arg=>(tgt c n y&&(c.own.contains n&&!JX c n)&&decide (m = "split")&&gT ob&&bk arg&&(ap.endLine==p.line)&&bn c a ob&&bn c b arg)
 |.a n e,x=>xG x fun y m es ap p=>gE es fun elt=>(decide (m = "append")&&ia c n y&&c.own.contains n&&(ap.endLine==p.line)&&bk elt&&bn c e elt)
 |.rev n,x=>xG x fun y m es ap p=>bK es <| (decide (m = "reverse")&&ia c n y&&c.own.contains n&&(ap.endLine==p.line))
 |.del n i,x=>sf x fun z _=>gE z fun z=>eH z fun z y5 _=>bD z fun y _=>(ia c n y&&c.own.contains n&&G2 i y5)
 |.i t a b,x=>zf x fun e xs ys w1=>(bn c t e&&nr c a xs&&nr c b ys)
 |.l tg src body,x=>xH x fun target iter bd z1 w1=>bK z1 <| (t7 c tg target&&(DZ src target&&!eG src&&!vF src)&&w5 c src iter&&nr c body bd)
 |.r e,x=>fm x fun z1 w1=>fQ z1 fun v=>(bn c e v)
 |.tryE body,x=>xI x fun bd z1 z2 z3 w3=>aZ z1 fun w1 w2=>bK z2 <| bK z3 <| (nr c body bd)
 |.retZ f args,x=>vN c&&fm x fun z _=>fQ z fun v=>bY v fun y es=>(hH c y&&c.nm[f]?==some y&&dC c args es)
 |.assert e,x=>rZ x fun v w1 w2=>(bn c e v)
 |.hole,_=>true
 |.grow n tg body,x=>xH x fun target iter bd z1 w1=>bK z1 <| bD iter fun y _=>(t7 c tg target&&ch target&&ia c n y&&c.own.contains n&&vN c&&nr { c with own:=n::c.own } body bd)
noncomputable def nr (c:Cx):oK->dY->Bool
 |.n,xs=>bK xs true
 |.c s r,xs=>aZ xs fun x xs=>(wZ c s x&&nr c r xs)
end
section
variable {G:GC}{A:Around}{S:cL}
theorem cy.tgt (X:cy G A S c env own)(h:Internal.tgt c n y=true):G.names[n]?=some y/\∃k,env.kindOf y=some k/\(k=.local\/k=.cell):=by
 obtain⟨h1,h2⟩:=bH h;have e:env.kindOf y=c.sc.lookup y:=by show env.scope.names.lookup y=_;rw[X.sc]
 exact⟨X.nm▸eC h1,(Bool.or_eq_true_iff.mp h2).elim (fun h=>⟨_,e.trans (eC h), .inl rfl⟩) fun h=>⟨_,e.trans (eC h), .inr rfl⟩⟩
theorem H2 (h:G2 i x=true):EG G A x env ns ρ (.int i):=fun own O _=>by
 rcases Bool.or_eq_true_iff.mp h with h|h
 .obtain⟨n,p,rfl⟩:=CR h;exact sP
 .refine jE h fun o a p h=>?_;obtain⟨h1,h2⟩:=bH h;obtain rfl:=bX h1;obtain⟨n,q,rfl⟩:=CR h2;have e:bw G A (.UnaryOp .USub (.Constant (.int (-i)) n q) p) env own O ρ (.int (- -i)):=yz sP;rw[Int.neg_neg]at e;exact e
theorem Eb (h:oL G env own es tg):es.length=tg.length:=by
 induction h with
 |nil=>rfl
 |cons _ _ _ _ _ ih=>simp[ih]
theorem t5 (h:t4 kind ts vs=some (some names)):gh kind ts=names/\names.length=ts.length:=
 hE h (fun _ q=>nn (aC q)) fun _ h=>hE h (fun _ q=>nn (aC q)) fun _ h=>hE h (fun _ q=>nn (aC q)) fun c h=>hE h (fun _ q=>nn (aC q)) fun _ h=>hE h (fun _ q=>nn q) fun _ q=>by obtain rfl:=aC (aC q);exact⟨rfl,bne_eq_false_iff_eq.mp (Bool.or_eq_false_iff.mp c).1⟩
def JB (G:GC)(A:Around)(S:cL)(c:Cx)(env:Env)(ns:Nk):Prop:=S.rz=true->∀{f:Nat}{args:Es}{x:Stmt}{ρ:aB}{Oc:a9}{ds:List D}{d:D},
 wZ c (.retZ f args) x=true->kI S ρ args=some ds->S.cal (f+1000) ds=some d->cP G A (exec x env) env Oc ns ρ (.r d)
structure iC (G:GC)(A:Around)(S:cL)(c:Cx)(env:Env)(ns:Nk):Prop where
 cx:∀own,own.ns=ns.l->cy G A S c env own
 ck:∀y c,env.cells.lookup y=some c->env.kindOf y=some .cell\/env.kindOf y=some .free
 pn:∀p,ns.p=some p->JX c p.1=true
 rz:ns.p=none->JB G A S c env ns
variable {c:Cx}{env:Env}{ns:Nk}{Oc:a9}
theorem iC.any (X:iC G A S c env ns):cy G A S c env ⟨ns.l,fun _=>none⟩:=X.cx _ rfl
theorem iC.ev (X:iC G A S c env ns)(h:bn c e x=true)(he:ev S ρ e=some d):EG G A x env ns ρ d:=fun own O hn=>(aD e (X.cx own hn.1) h).1 d he
theorem iC.evT (X:iC G A S c env ns)(h:bn c e x=true)(he:evT S ρ e=some b):Ll G A x env ns ρ b:=fun own O hn=>(aD e (X.cx own hn.1) h).2 b he
theorem iC.free (X:iC G A S c env ns)(h:(!JX c n)=true):ns.free n:=fun p e q=>by rw[<- q,X.pn p e]at h;exact ff h
theorem iC.nop (X:iC G A S c env ns)(h:vN c=true):ns.p=none:=by
 cases e:ns.p with
 |none=>rfl
 |some p =>
  have:=X.pn p e;unfold JX at this;unfold vN at h;revert h;refine ar (P:=fun l=>(!(aZ l fun m r=>r.contains m))=true->some p=none) this fun m r k h=>?_;obtain⟨k1,k2⟩:=ah k;rw[eC k1]at h;have h:(!(r.contains p.1))=true:=h;rw[k2]at h;exact ff h
theorem qX (h:Dc v=true):swappedStores [.Tuple es k tp] v env=pure none:=by cases v <;> first|rfl|exact ff h
variable {st:St}{sts a' b':oK}{e a b:E}{es args:Es}{n f:Nat}
def fE (G:GC)(A:Around)(S:cL)(c:Cx)(env:Env)(ns:Nk)(Oc:a9)(st:St):Prop:=∀{x:Stmt}{ρ:aB}{out:jg},iC G A S c env ns->wZ c st x=true->ex S ρ st=some out->cP G A (exec x env) env Oc ns ρ out
def k6 (G:GC)(A:Around)(S:cL)(c:Cx)(env:Env)(ns:Nk)(Oc:a9)(sts:oK):Prop:=∀{xs:dY}{ρ:aB}{out:jg},iC G A S c env ns->nr c sts xs=true->eK S ρ sts=some out->cP G A (execs xs env) env Oc ns ρ out
theorem iC.kd (X:iC G A S c env ns):env.kindOf=fun y=>c.sc.lookup y:=by funext y;show env.scope.names.lookup y=_;rw[X.any.sc]
theorem Kz:fE G A S c env ns Oc (.s n e):=fun X h he=>by
 refine eA h fun t v pos h=>aF h fun y np h=>ig h fun h1 h2 h3 h4=>kL (P:=cP G A _ env Oc ns _) he fun d e1=>?_;obtain⟨nm,k,hk,hkk⟩:=X.any.tgt h1;rw[<- X.kd]at h4;rcases Bool.eq_false_or_eq_true (gZ env.kindOf y np v)with hs|hs
 .rw[hs,Bool.not_true,Bool.or_false]at h4;obtain⟨el,gs,rfl⟩:=zS h4;exact fP (P:=fun v=>gZ env.kindOf y np v=true->bn c (.p el gs) v=true->cP G A (exec (.Assign [.Name y np] v pos) env) env Oc ns _ _) h3 (fun _ _ _ _ _ hs h3=>yg (fun own hn=>X.cx own hn.1) h3 e1 nm hk hkk (X.any.nown h2) X.any.fn hs) hs h3
 .exact IM nm hk hkk (X.any.nown h2) X.any.fn hs (X.ev h3 e1)
theorem IY (v:Expr):Dc v=true\/∃vs k p,v=.Tuple vs k p:=by
 rcases v with⟨⟩|⟨⟩
 case Tuple=>exact .inr ⟨_,_,_,rfl⟩
 all_goals exact .inl rfl
theorem jx {a b:aB}(h:jg.n a=.n b):a=b:=by cases h;rfl
theorem KA {tg:aH}:fE G A S c env ns Oc (.u tg e):=fun{x ρ out} X h he=>by
 refine eA h fun t v pos h=>dR h fun es k tp h=>ig h fun h1 h2 h3 h4=>GB he fun xs hx he=>fj (P:=cP G A _ env Oc ns _) he fun hl=>?_;have ht:∀own,own.is ns->cQ G env own (.Tuple es k tp) tg:=fun own hn=>(X.cx own hn.1).target h1;have key:∀r,swappedStores [.Tuple es k tp] v env=pure r->(∀names,r=some names->(∀own,own.is ns->gQ G env own names tg)/\names.length=tg.length)->cP G A (exec (.Assign [.Tuple es k tp] v pos) env) env Oc ns ρ (.n (bx ρ tg xs)):=fun r hr hn=>by
  rcases r with _|names
  .exact IO ht hl hr (X.ev h4 hx)
  .exact Gz (hn names rfl).1 hl (bX h2) hr (hn names rfl).2 (X.ev h4 hx)
 rcases IY v with hv|⟨vs,k',p',rfl⟩
 .exact key none (qX hv) fun _ e=>za e
 .obtain⟨r,hr⟩:=Option.isSome_iff_exists.mp (show(t4 (fun y=>c.sc.lookup y) es vs).isSome=true from h3);rw[<- X.kd]at hr;refine key r (Ba X.any.fn hr) fun names e1=>?_;subst e1;obtain⟨n1,n2⟩:=t5 hr;have hT:∀own,own.ns=ns.l->oL G env own es tg:=fun own hn=>by
   cases (X.cx own hn).target h1 with
   |tup h _=>exact h
  exact⟨fun own hn=>Ii (hT own hn.1) n1 n2,n2.trans (Eb (hT ⟨ns.l,fun _=>none⟩ rfl))⟩
theorem Kt:fE G A S c env ns Oc (.aug n o e):=fun X h he=>by refine lO h fun t o' v pos h=>aF h fun y np h=>qZ h fun q0 h1 h2 h3 h4=>au he fun a hg he=>au he fun b hb he=>kL (P:=cP G A _ env Oc ns _) he fun d e1=>?_;obtain rfl:=bX q0;obtain⟨nm,k,hk,hkk⟩:=X.any.tgt h1;exact IG nm hk hkk (X.any.nown h2) (iw h3) hg (X.ev h4 hb) e1
theorem Jc:fE G A S c env ns Oc (.newO n es):=fun X h he=>by refine eA h fun t v pos h=>aF h fun y np h=>jC h fun xs lp h=>ig h fun h1 h2 hp h3=>au he fun ds hds he=>fj (P:=cP G A _ env Oc ns _) he fun hl=>?_;obtain⟨nm,k,hk,hkk⟩:=X.any.tgt h1;exact zx nm hk hkk (X.any.own' h2) (X.free hp) X.any.fn rfl (az hl (by decide)) fun own O s hn I=>vM I ((bb es (X.cx own hn.1) h3).el ds hds) hl
theorem Eu:fE G A S c env ns Oc (.splitO n a b):=fun X h he=>by refine eA h fun t v pos h=>aF h fun y np h=>fZ h fun ob m ap es p h=>aS h fun arg h=>uq h fun h1 h2 q2 h3 h4 h5 h6 h7=>oE he fun xx ha he=>oE he fun yy hb he=>fj (P:=cP G A _ env Oc ns _) he fun g=>?_;obtain rfl:=bX q2;obtain⟨g1,g2⟩:=ah g;obtain⟨nm,k,hk,hkk⟩:=X.any.tgt h1;exact zx nm hk hkk (X.any.own' (ah h2).1) (X.free (ah h2).2) X.any.fn rfl (bX (ah (b:=sokAll _) g2).1) fun own O s hn I=>AC I h3 h4 h5 (X.ev h6 ha own O hn) (X.ev h7 hb own O hn) (bX g1) g2
theorem Ks:fE G A S c env ns Oc (.a n e):=fun X h he=>by refine nD h fun y np m es ap p sp h=>aS h fun elt h=>jj h fun q0 h1 h2 h3 h4 h5=>ef he fun xs hg he=>au he fun d hd he=>fj (P:=cP G A _ env Oc ns _) he fun hl=>?_;obtain rfl:=bX q0;exact IF (X.any.name h1) (X.any.own' h2) hg h3 h4 X.any.fn (X.ev h5 hd) hl
theorem iC.grow (X:iC G A S c env ns)(h:c.own.contains n=true)(w:Addr):iC G A S { c with own:=n::c.own } env ⟨ns.l,some (n,w)⟩:=by
 refine⟨fun own hn=>?_,X.ck,fun p e=>?_,fun e=>za e.symm⟩
 .have y:=X.cx own hn;refine⟨y.nm,y.sc,fun m=>?_,y.fn,y.F,y.gl,y.hh,y.hu⟩;rw[<- y.ow m,List.contains_iff_mem,List.contains_iff_mem,List.mem_cons];exact⟨fun q=>q.elim (fun q=>q▸List.contains_iff_mem.mp h) id, .inr⟩
 .obtain rfl:=aC e;show(n==n&&c.own.contains n)=true;rw[beq_self_eq_true,h];rfl
theorem Ja (hb:∀w:Addr,k6 G A S { c with own:=n::c.own } env ⟨ns.l,some (n,w)⟩ Oc sts):fE G A S c env ns Oc (.grow n tg sts):=fun{x ρ out} X h he=>by refine nE h fun target iter bd z pos h=>aJ h fun h=>aF h fun y np h=>jj h fun h1 h2 h3 h4 h5 h6=>?_;have he:rE (fun d ρ'=>(bE ρ' tg d).bind fun ρ''=>eK S ρ'' sts) n Co 0 ρ=some out:=he;obtain⟨xs,hg⟩:=HW (by decide) he;exact Gy (X.any.name h3) (X.any.own' h4) (X.nop h5) hg h2 (fun own hn=>(X.cx own hn).target h1) (fun w x ρ' o ho=>au ho fun ρ'' hb' ho=>⟨ρ'',hb',hb w (X.grow h4 w) h6 ho⟩) he
theorem Ky:fE G A S c env ns Oc (.rev n):=fun X h he=>by refine nD h fun y np m es ap p sp h=>aJ h fun h=>ig h fun q0 h1 h2 h3=>ef he fun xs hg he=>aC he▸?_;obtain rfl:=bX q0;exact IL (X.any.name h1) (X.any.own' h2) hg h3 X.any.fn
theorem Ku:fE G A S c env ns Oc (.del n i):=fun X h he =>
 qg h fun z pos h=>aS h fun z h=>cS h fun z y5 sp h=>aF h fun y np h=>gv h fun h1 h2 h3=>ef he fun xs hg he=>au he fun j hj he=>aC he ▸
  IH (X.any.name h1) (X.any.own' h2) hg (H2 h3) hj
theorem Kv (ha:k6 G A S c env ns Oc a')(hb:k6 G A S c env ns Oc b'):fE G A S c env ns Oc (.i e a' b'):=fun X h he =>
 kO h fun t xs ys pos h=>gv h fun h1 h2 h3=>oU he (fun ht he=>Hf (X.evT h1 ht) (fun _=>ha X h2 he) Ld) fun ht he=>Hf (X.evT h1 ht) Fu fun _=>hb X h3 he
theorem Jb (hb:k6 G A S c env ns Oc sts):fE G A S c env ns Oc (.l tg src sts):=fun{x ρ out} X h he=>by refine nE h fun target iter bd z pos h=>aJ h fun h=>ig h fun h1 h2 h4 h5=>au he fun ds hds he=>?_;have hbody:∀x ρ' o,((bE ρ' tg x).bind fun ρ''=>eK S ρ'' sts)=some o->∃ρ'',bE ρ' tg x=some ρ''/\cP G A (execs bd env) env Oc ns ρ'' o:=fun x ρ' o ho=>au ho fun ρ'' hb' ho=>⟨ρ'',hb',hb X h5 ho⟩;refine II (fun own O hn=>?_) (gq src (O:=[]) (tg:=target) X.any h4 (ah (ah h2).1).1 ds hds).2 (fun own hn=>(X.cx own hn.1).target h1) hbody he;have:=(gq src (O:=O) (tg:=target) (X.cx own hn.1) h4 (ah (ah h2).1).1 ds hds).1;rw[iw (ah (ah h2).1).2,(ah h2).2]at this;exact this
theorem Kx:fE G A S c env ns Oc (.r e):=fun X h he =>
 dH h fun z pos h=>da h fun v h=>kL (P:=cP G A _ env Oc ns _) he fun d e1=>IK (X.ev h e1)
theorem Je (hb:k6 G A S c env ns Oc sts):fE G A S c env ns Oc (.tryE sts):=fun X h he =>
 nF h fun bd z1 z2 z3 pos h=>ar h fun w1 w2 h=>aJ h fun h=>aJ h fun h=>IN (hb X h he)
theorem Jd:fE G A S c env ns Oc (.retZ f args):=fun X h he =>
 au he fun ds hds he=>au he fun d hd he=>fj (P:=cP G A _ env Oc ns _) he fun g=>X.rz (X.nop (ah h).1) g h hds hd
theorem Et:fE G A S c env ns Oc (.assert e):=fun X h he =>
 qe h fun v m pos h=>oU he (fun ht he=>aC he▸A4 (X.evT h ht)) fun _ he=>za he
theorem Kw:k6 G A S c env ns Oc .n:=fun X h he=>aJ h fun _=>aC he▸IJ
theorem I9 (hs:fE G A S c env ns Oc st)(hr:k6 G A S c env ns Oc sts):k6 G A S c env ns Oc (.c st sts):=fun{xs ρ out} X h he =>
 ar h fun x xs h=>oQ h fun h1 h2=>by
  have he:(match ex S ρ st with|some (.n ρ')=>eK S ρ' sts|o=>o)=some out:=he;rcases e:ex S ρ st with _|ρ'|d
  .rw[e]at he;exact za he
  .rw[e]at he;exact zw (hs X h1 e) (fun ρ2 e=>jx e▸hr X h2 he) (fun d e=>jg.noConfusion e)
  .rw[e]at he;exact zw (hs X h1 e) (fun ρ2 e=>jg.noConfusion e) (fun d' e=>aC he▸e)
mutual
theorem jo:∀(st:St){c:Cx}{ns:Nk},fE G A S c env ns Oc st
 |.s ..,_,_=>Kz
 |.u ..,_,_=>KA
 |.aug ..,_,_=>Kt
 |.newO ..,_,_=>Jc
 |.splitO ..,_,_=>Eu
 |.a ..,_,_=>Ks
 |.rev ..,_,_=>Ky
 |.del ..,_,_=>Ku
 |.i _ a b,_,_=>Kv (fg a) (fg b)
 |.l _ _ body,_,_=>Jb (fg body)
 |.r ..,_,_=>Kx
 |.tryE body,_,_=>Je (fg body)
 |.retZ ..,_,_=>Jd
 |.assert ..,_,_=>Et
 |.hole,_,_=>fun X h he=>za he
 |.grow _ _ body,_,_=>Ja fun w=>fg body
theorem fg:∀(sts:oK){c:Cx}{ns:Nk},k6 G A S c env ns Oc sts
 |.n,_,_=>Kw
 |.c s r,_,_=>I9 (jo s) (fg r)
end
end
end
section
section
variable {G:GC}{A:Around}
theorem rf {kindOf:Str->Option NameKind}:∀(xs:List Str)(vs:eU)(m:Str->Option Value)(y:Str),y∉xs->bindL kindOf (xs.zip vs) m y=m y
 |[],_,m,y,_=>rfl
 |_::_,[],m,y,_=>rfl
 |x::xs,v::vs,m,y,h=>by
  refine(rf xs vs _ y fun q=>h (.tail _ q)).trans ?_;by_cases c:kindOf x=some .local
  .rw[if_pos c];exact if_neg fun q:y=x=>h (by rw[q];exact .head _)
  .rw[if_neg c]
theorem mF {kindOf:Str->Option NameKind}:∀(xs:List Str)(vs:eU)(m:Str->Option Value)(y:Str)(v:Value),xs.Nodup->kindOf y=some .local->(xs.zip vs).lookup y=some v->bindL kindOf (xs.zip vs) m y=some v
 |[],_,_,_,_,_,_,e=>nn e
 |_::_,[],_,_,_,_,_,e=>nn e
 |x::xs,u::vs,m,y,v,hn,hk,e=>by
  obtain⟨h1,h2⟩:=List.nodup_cons.mp hn;rw[List.zip_cons_cons,List.lookup_cons]at e;by_cases c:y=x
  .subst c;rw[beq_self_eq_true]at e;obtain rfl:=aC e;refine(rf xs vs _ y h1).trans ?_;rw[if_pos hk];exact if_pos rfl
  .rw[beq_eq_false_iff_ne.mpr c]at e;exact mF xs vs _ y v h2 hk e
theorem yB {kindOf:Str->Option NameKind}:∀(l:List (Str × Value))(m:Str->Option Value),bindC kindOf l m=bindL (fun n=>if kindOf n=some .local then none else some .local) l m
 |[],_=>rfl
 |(n,v)::r,m=>by
  refine(yB r _).trans (congrArg (bindL _ r) ?_);show _=if(if kindOf n=some .local then none else some NameKind.local)=some .local then _ else _;by_cases c:kindOf n=some .local
  .rw[if_pos c,if_pos c,if_neg nofun]
  .rw[if_neg c,if_neg c,if_pos rfl]
theorem zO {kindOf:Str->Option NameKind}(xs:List Str)(vs:eU)(m:Str->Option Value)(y:Str)(v:Value)(hn:xs.Nodup)(hk:kindOf y≠some .local)(e:(xs.zip vs).lookup y=some v):bindC kindOf (xs.zip vs) m y=some v:=
 (congrFun (yB _ m) y).trans (mF xs vs m y v hn (if_neg hk) e)
inductive uo (G:GC):List Str->aH->Prop
 |nil:uo G [] []
 |cons {x n xs ns}:G.names[n]?=some x->uo G xs ns->uo G (x::xs) (n::ns)
set_option tactic.hygienic true in
theorem F5 (hnd:G.names.Nodup):∀{xs:List Str}{tg:aH}{vs:eU}{ds:List D},uo G xs tg->ai w O h vs ds->∀{n:Nat}{d:D}{y:Str},(tg.zip ds).lookup n=some d->G.names[n]?=some y ->
  ∃v,(xs.zip vs).lookup y=some v/\av w O h v d:=by
 intro xs tg vs ds hp
 induction hp generalizing vs ds with
 |nil=>intro r n d y h;simp at h
 |cons h1 h2 ih =>
  rename_i x m xs tg;intro r n d y hl hy;cases ds with
  |nil=>simp at hl
  |cons d0 ds =>
   obtain⟨v,vs,rfl,r1,r2⟩:=r.cons_inv;rw[List.zip_cons_cons,List.lookup_cons]at hl;rw[List.zip_cons_cons,List.lookup_cons];by_cases c:n=m
   .subst c;simp only[beq_self_eq_true]at hl;obtain rfl:=aC hl;rw[h1]at hy;obtain rfl:=aC hy;exact⟨v,by simp,r1⟩
   .have hb:(n==m)=false:=by simpa using c
    rw[hb]at hl;have hyx:y≠x:=fun e=>c (j5 hnd (e▸hy) h1);have hb2:(y==x)=false:=by simpa using hyx
    rw[hb2];exact ih r2 hl hy
end
end
section
section
variable {G:GC}{A:Around}{S:cL}
structure gP (G:GC)(a:Addr)(fd:FuncData)(body:dY)(xs:List Str):Prop where
 at':∃o,G.h₀.get? a=some o/\o.data=.func fd
 code:G.h₀.CodeRec fd.code fd.qualname
 body:fd.body=.stmts body
 clo:fd.closure=[]
 gl:fd.globals=mainGlobals
 bi:fd.builtins=builtinsNs
 bind:∀vals:eU,vals.length=xs.length->bindArgs fd ⟨vals,[]⟩=pure (xs.zip vals)
 co:fd.scope.isCoroutine=false
 gen:fd.scope.isGenerator=false
 kind:fd.scope.kind=.function
noncomputable def hJ (nm:List Str)(f:Fn)(fd:FuncData)(xs:List Str):Bool:=
 decide xs.Nodup&&decide f.params.Nodup&&decide (f.params.map (nm[·]?)=xs.map some)&&f.params.all (fun n=>!f.own.contains n) &&
 fd.scope.names.all (fun p=>p.2 != .free)&&xs.all (fun x=>fd.scope.names.lookup x==some .local || fd.scope.names.lookup x==some .cell)
theorem pE {nm:List Str}{f:Fn}{fd:FuncData}{xs:List Str}(h:hJ nm f fd xs=true):((((xs.Nodup/\f.params.Nodup)/\f.params.map (nm[·]?)=xs.map some)/\f.params.all (fun n=>!f.own.contains n)=true)/\fd.scope.names.all (fun p=>p.2 != .free)=true)/\xs.all (fun x=>fd.scope.names.lookup x==some .local || fd.scope.names.lookup x==some .cell)=true:=
 let⟨h,h7⟩:=bH h
 let⟨h,h6⟩:=bH h
 let⟨h,h5⟩:=bH h
 let⟨h,h4⟩:=bH h
 let⟨h2,h3⟩:=bH h
 ⟨⟨⟨⟨⟨bX h2,bX h3⟩,bX h4⟩,h5⟩,h6⟩,h7⟩
def ve (nm:List Str)(f:Fn)(fd:FuncData)(body:dY)(xs:List Str):Bool:=
 nr ⟨nm,fd.scope.names,f.own⟩ f.body body&&hJ nm f fd xs&&fd.scope.names.all (fun p=>p.2 != .cell || fd.scope.names.lookup p.1==some .cell)
theorem Du:∀{ps:aH}{xs:List Str},ps.map (nm[·]?)=xs.map some->nm=G.names->uo G xs ps
 |[],[],_,_=>.nil
 |[],_::_,h,_=>by simp at h
 |_::_,[],h,_=>by simp at h
 |n::ps,x::xs,h,e=>by simp only[fU,List.cons.injEq]at h;exact .cons (e▸h.1) (Du h.2 e)
theorem uV (ok:oI G)(hh:A.handled=none)(B:aX G s.heap)(p1:0<s1.toks)(ov:dB Oc s.heap)(r:ai G.w Oc s.heap vs ds)(Df:gP G a fd body xs)(hf:hJ G.names f fd xs=true)(hl:ds.length=f.params.length)
  (x:InCallC s (callEnvC fd s.heap.objs.size a).locals (bindL (callEnvC fd s.heap.objs.size a).kindOf (xs.zip vs) fun _=>none) (callEnvC fd s.heap.objs.size a).cells (bindC (callEnvC fd s.heap.objs.size a).kindOf (xs.zip vs) fun _=>none) s1) :
  ∃O M,FI G A (callEnvC fd s.heap.objs.size a) ⟨f.own,fun _=>none⟩ O Oc M (bx [] f.params ds) s1/\(∀b∈M,s.heap.get? b=none)/\Ext G s s1:=by
 obtain⟨⟨⟨⟨⟨h2,h3⟩,h4⟩,h5⟩,h6⟩,h7⟩:=pE hf;generalize hce:callEnvC fd s.heap.objs.size a=ce at x ⊢;have e1:ce.scope=fd.scope:=by rw[<- hce];rfl
 have e2:ce.locals=s.heap.objs.size:=by rw[<- hce];rfl
 have e3:ce.globals=fd.globals:=by rw[<- hce];rfl
 have e4:ce.cells=cellsFrom (s.heap.objs.size+1) fd.scope.names []:=by rw[<- hce];rfl
 have e5:ce.builtins=fd.builtins:=by rw[<- hce];rfl
 have xk:=x.toInCall.keep;obtain⟨hh1,tk1,e6⟩:=x.toInCall.same;have X:Ext G s s1:=by refine⟨by rw[e6];exact⟨rfl,rfl⟩, .of xk,B.all xk,p1,fun b e=>bA (fun o q=>xk b o q) e⟩
 have hab:∀y c,ce.cells.lookup y=some c->s.heap.objs.size<c:=fun y c e=>by have:=x.above y c (mem_of_lookup e);rw[e2]at this;exact this
 have fr:∀b,s.heap.objs.size<=b->s.heap.get? b=none:=fun b q=>fJ q;have fr0:∀b,s.heap.get? b=none->G.h₀.get? b=none:=fun b e=>bA (fun o q=>B.keep b o q) e
 let mcs:=fd.scope.names.filterMap fun p=>ce.cells.lookup p.1
 have hM:∀b∈ce.locals::mcs,s.heap.get? b=none:=fun b m=>by
  rcases bM m with rfl|m
  .rw[e2];exact fr _ (gC _)
  .obtain⟨p,_,hp⟩:=List.mem_filterMap.mp m;have:=x.above p.1 b (mem_of_lookup hp);rw[e2]at this;exact fr _ (gp this)
 have celem:∀y c,ce.cells.lookup y=some c->c∈ce.locals::mcs:=fun y c e=>dP _ (List.mem_filterMap.mpr ⟨(y, .cell),(dm _ _ _ _ (e4▸mem_of_lookup e)).1,e⟩);have kd:∀y,ce.kindOf y=fd.scope.names.lookup y:=fun y=>by show ce.scope.names.lookup y=_;rw[e1]
 have nofree:∀y,ce.kindOf y≠some .free:=fun y e=>by rw[kd]at e;exact ff (bQ h6 _ (mem_of_lookup e))
 have val:∀n y d,G.names[n]?=some y->(bx [] f.params ds).get n=some d->∃v,(xs.zip vs).lookup y=some v/\av G.w Oc s.heap v d/\n∉f.own:=fun n y d hy hd=>by
  rw[iT _ _ _ _ h3]at hd;cases q:(f.params.zip ds).lookup n with
  |none=>rw[q]at hd;simp[aB.get]at hd
  |some d' =>
   rw[q]at hd;obtain rfl:=aC hd;obtain⟨v,e,rv⟩:=F5 ok.nd (Du h4 rfl) r q hy;have hm:n∈f.params:=by have:=(gA (by rw[List.map_fst_zip (by lia)];exact h3)).mp q;exact(List.of_mem_zip this).1
   have:=bQ h5 n hm;exact⟨v,e,rv,by simpa using this⟩
 have grow:∀{v d},av G.w Oc s.heap v d->av G.w ((ce.locals::mcs)++Oc) s1.heap v d:=fun r=>(r.news hM).keep X.keep;have cellv:∀y c,ce.cells.lookup y=some c->s1.heap.IsCell c (bindC ce.kindOf (xs.zip vs) (fun _=>none) y):=fun y c e=>x.cell y c e;have jL:∀{n v d},n∉f.own->av G.w Oc s.heap v d->cG G.w ⟨f.own,fun _=>none⟩ n ((ce.locals::mcs)++Oc) s1.heap v d:=fun hn r=>iV hn (grow r);refine⟨(ce.locals::mcs)++Oc,ce.locals::mcs,⟨⟨ok,hh,X.base,X.pos,fun b m=>?_,⟨e1▸Df.kind,e3.trans Df.gl,e5.trans Df.bi,mv _ dX,fr0 _ (hM _ dX),fun n b e=>(by exact nn e),fun y c e=>⟨mv _ (celem y c e),fr0 _ (hM _ (celem y c e))⟩,fun y z c e e'=>name_of_addr x.apart (mem_of_lookup e) (mem_of_lookup e'),fun y hy=>?_,⟨_,x.toInCall.ns,fun n y d h8 h9 h10=>?_⟩,fun n y d h8 h9 h10=>?_⟩⟩,fun b m=>mv _ m,dX,celem,fun n b e=>(by exact nn e),fun b m=>fr0 _ (hM b m),fun b m o e=>?_,fun b m=>kK _ m,fun b m m'=>?_,fun n m b e=>(by exact nn e)⟩,hM,X⟩
 .rcases dx m with m|m
  .rcases bM m with rfl|m
   .obtain⟨o,es,ep,e,dd,_⟩:=x.toInCall.ns;exact⟨o,e, .inr fun vs q=>by rw[dd]at q;cases q⟩
   .obtain⟨p,_,hp⟩:=List.mem_filterMap.mp m;obtain⟨o,e,dd⟩:=cellv p.1 b hp;exact⟨o,e, .inr fun vs q=>by rw[dd]at q;cases q⟩
  .obtain⟨o,e,q⟩:=ov b m;exact⟨o,xk b o e,q⟩
 .rcases hy with hy|hy
  .rw[kd]at hy;obtain⟨c,hc⟩:=cb _ (s.heap.objs.size+1) _ (mem_of_lookup hy);obtain⟨c',e'⟩:=cg (l:=ce.cells) (by rw[e4];exact hc);exact⟨c',_,e',cellv y c' e'⟩
  .exact absurd hy (nofree y)
 .obtain⟨v,v1,v2,v3⟩:=val n y d h8 h10;exact⟨v,mF _ _ _ _ _ h2 h9 v1,jL v3 v2⟩
 .have hnl:ce.kindOf y≠some .local:=fun q=>by rw[q]at h9;rcases h9 with h9|h9 <;> cases h9
  obtain⟨v,v1,v2,v3⟩:=val n y d h8 h10;rcases h9 with h9|h9
  .rw[kd]at h9;obtain⟨c,hc⟩:=cb _ (s.heap.objs.size+1) _ (mem_of_lookup h9);obtain⟨c',e'⟩:=cg (l:=ce.cells) (by rw[e4];exact hc);have:=cellv y c' e';rw[zO _ _ _ _ _ h2 hnl v1]at this;exact⟨c',v,e',this,jL v3 v2⟩
  .exact absurd h9 (nofree y)
 .rcases bM m with rfl|m
  .obtain⟨o',es,ep,e',dd,_⟩:=x.toInCall.ns;rw[e']at e;obtain rfl:=aC e;exact gB dd
  .obtain⟨p,_,hp⟩:=List.mem_filterMap.mp m;obtain⟨o',e',dd⟩:=cellv p.1 b hp;rw[e']at e;obtain rfl:=aC e;exact lG dd
 .obtain⟨o,e,_⟩:=ov b m';rw[hM b m]at e;exact nn e
end
end
section
section
variable {G:GC}{A:Around}{S:cL}
theorem pA (ok:oI G)(hh:A.handled=none)(hr:A.depth<recursionLimit)(hu:A.units+103<cLine)(B:aX G s.heap)(p:0<s.toks)(ov:dB Oc s.heap)(r:ai G.w Oc s.heap vs ds)
  (Df:gP G a fd body xs)(hf:ve G.names f fd body xs=true)(F:∀env,kq G (A.deeper env) S.cal)(gl:g8 G S.gl)(Z:JB G (A.deeper (callEnvC fd s.heap.objs.size a)) S ⟨G.names,fd.scope.names,f.own⟩ (callEnvC fd s.heap.objs.size a) ⟨f.own,none⟩) (h:aW S f ds=some d):dW G A Oc (call (.ref a) vs) s d:=fun Q E q=>by
 have hl:ds.length=f.params.length:=by
  by_cases c:ds.length=f.params.length
  .exact c
  .exact nn ((if_neg c).symm.trans h)
 obtain⟨h10,hck⟩:=bH hf;obtain⟨h1,hf0⟩:=bH h10;obtain⟨⟨⟨⟨⟨h2,h3⟩,h4⟩,h5⟩,h6⟩,h7⟩:=pE hf0;have hpl:xs.length=f.params.length:=by have:=congrArg List.length h4;simpa using this.symm
 obtain⟨o,ho,hdat⟩:=Df.at';have hvl:vs.length=xs.length:=by rw[r.length,hl,hpl]
 refine wpAny_call (codeAny_call_function hr (B.keep _ _ ho) hdat Df.co Df.gen Df.body (Df.code.keeps B.keep) ?_);rw[Df.bind vs hvl,Df.clo];refine bB (wpAny_with_toks (gC s.toks) (wpAny_newFunctionEnv_cells Df.kind (fun y hy=>?_) fun env he s1 x tk=>?_))
 .obtain⟨y1,y2⟩:=y;have hm:=(List.of_mem_zip hy).1;have:=bQ h7 y1 hm;rcases Bool.or_eq_true_iff.mp this with e|e
  .exact .inl (by simpa using e)
  .have e:fd.scope.names.lookup y1=some .cell:=by simpa using e
   refine .inr ⟨e, ?_⟩;obtain⟨c,hc⟩:=cb _ (s.heap.objs.size+1) _ (mem_of_lookup e);obtain⟨c',e'⟩:=cg hc;exact Option.isSome_iff_exists.mpr ⟨c',e'⟩
 .have he:env=callEnvC fd s.heap.objs.size a:=he;subst he;refine⟨(ok.lim.keeps B.keep).keeps x.toInCall.keep,codeAny_func ?_⟩;obtain⟨O,M,FF,hM,X⟩:=uV (A:=A.deeper (callEnvC fd s.heap.objs.size a)) ok hh B (iu p tk) ov r Df hf0 hl x;have hb:∃out,eK S (bx [] f.params ds) f.body=some out/\(match out with|.r d'=>d'=d|.n _=>d=.none):=by exact au ((if_pos hl).symm.trans h) fun o e h=>⟨o,e,by cases o with|r d'=>exact aC h|n _=>exact(aC h).symm⟩
  obtain⟨out,e1,e2⟩:=hb;have FX:iC G (A.deeper (callEnvC fd s.heap.objs.size a)) S ⟨G.names,fd.scope.names,f.own⟩ (callEnvC fd s.heap.objs.size a) ⟨f.own,none⟩ :=
   ⟨fun own hn=>⟨rfl,rfl,fun n=>by rw[hn];simp,Df.kind,F _,gl,hh,(by show A.units+3+100<cLine;assumption)⟩,fun y c e=>.inl (by
    have m:=(dm _ _ _ _ (show(y,c)∈cellsFrom (s.heap.objs.size+1) fd.scope.names []from mem_of_lookup e)).1;have:=bQ hck _ m;have h9:fd.scope.names.lookup y=some .cell:=by simpa using this
    exact h9),(fun p e=>za e),fun _=>Z⟩
  refine fg f.body FX h1 e1 _ O M s1 ⟨rfl,fun p e=>za e⟩ FF _ _ (fun ρ' own' O' M' s' eo _ F' st=>?_) (fun d' v s' eo sx rv=>?_)
  .subst eo;cases e2;exact q _ _ ((X.sext.trans st.sx).ext hM) .none
  .subst eo;cases e2;exact q _ _ ((X.sext.trans sx).ext hM) rv
end
end
section
section
variable {G:GC}{A:Around}
noncomputable abbrev dG:dK:=⟨[],fun _=>none⟩
theorem fC:cG G.w dG n O h v d=av G.w O h v d:=by unfold cG;rw[if_neg (by simp)]
structure oJ (G:GC)(h:Heap)(f:Addr)(fd:FuncData)(body:dY)(clos:List (Str × Addr)):Prop where
 at':∃o,h.get? f=some o/\o.data=.func fd
 code:∃c,fd.code=.ref c/\mw h c fd.qualname
 body:fd.body=.stmts body
 clo:fd.closure=clos
 gl:fd.globals=mainGlobals
 bi:fd.builtins=builtinsNs
 co:fd.scope.isCoroutine=false
 gen:fd.scope.isGenerator=false
 kind:fd.scope.kind=.function
theorem oJ.keepBut {h h':Heap}{body:dY}{clos:List (Str × Addr)}{W:a9}(x:oJ G h f fd body clos)(k:aI W h h')(hW:∀a∈W,∀o,h.get? a=some o->(∀fd,o.data≠.func fd)/\(∀vs,o.data≠.fields vs)):oJ G h' f fd body clos:=
 { x with
  at':=let⟨o,e,d⟩:=x.at';⟨o,k _ _ (fun m=>(hW _ m _ e).1 _ d) e (.inr fun vs q=>by rw[d]at q;cases q),d⟩
  code:=by obtain⟨c,e,o,vs,t,a,b,d,r⟩:=x.code;exact⟨c,e,o,vs,t,k _ _ (fun m=>(hW _ m _ a).2 _ d) a (.inl (by rw[b];nofun)),b,d,r⟩ }
theorem oJ.keep {fd:FuncData}{body:dY}{clos:List (Str × Addr)}(x:oJ G h f fd body clos)(k:eh h h'):oJ G h' f fd body clos:=
 x.keepBut (W:=[]) (fun b o _ e c=>k b o e c) (fun _ m=>by cases m)
theorem rR {clos:List (Str × Addr)}{xs:List Str}{vs:eU}{ρ:aB}{Q:bg}{E:bg}
  (ok:oI G)(hh:A.handled=none)(hr:A.depth<recursionLimit)(B:aX G s.heap)(p:0<s.toks)(ov:dB O s.heap)(N:oJ G s.heap f fd body clos)
  (bind:bindArgs fd ⟨vs,[]⟩=pure (xs.zip vs))(loc:∀x∈xs,fd.scope.names.lookup x=some .local)(nocell:∀x∈fd.scope.names,x.2≠.cell)
  (cin:∀x c,clos.lookup x=some c->c∈O/\G.h₀.get? c=none)(inj:∀x y c,clos.lookup x=some c->clos.lookup y=some c->x=y)
  (ce:∀x,fd.scope.names.lookup x=some .free->∃c v,clos.lookup x=some c/\s.heap.IsCell c v)
  (hl:∀n x d,G.names[n]?=some x->fd.scope.names.lookup x=some .local->ρ.get n=some d->∃v,(xs.zip vs).reverse.lookup x=some v/\av G.w O s.heap v d)
  (hf:∀n x d,G.names[n]?=some x->fd.scope.names.lookup x=some .free->ρ.get n=some d->∃c v,clos.lookup x=some c/\s.heap.IsCell c (some v)/\av G.w O s.heap v d)
  (k:∀env s1,env.scope=fd.scope->env.cells=clos->s.heap.get? env.locals=none->Ext G s s1->di G (A.deeper env) env dG (env.locals::O) ρ s1 ->
   ∀E',wpAny (br G) (A.deeper env) (execs body env) (fun fl s'=>Q (match fl with|.ret v=>v|_=>.none) s') E' s1) :
  wpAny (br G) A (call (.ref f) vs) Q E s:=by
 obtain⟨o,ho,hdat⟩:=N.at';obtain⟨c,hc,hci⟩:=N.code;refine wpAny_call (codeAny_call_function hr ho hdat N.co N.gen N.body (by rw[hc];exact hci.rec') ?_);rw[bind,N.clo];refine bB (wpAny_newFunctionEnv nocell (fun y hy=>loc y.1 (List.of_mem_zip hy).1) (fun h' hns hsb=>⟨?_,codeAny_func ?_⟩) N.kind)
 .exact((ok.lim.keeps B.keep).keeps fun b o e=>hsb.extBut b o (Nat.ne_of_lt (Heap.lt_size e)) (fO _ e))
 .generalize he:newEnv fd.scope s.heap.objs.size fd.globals clos (fd.qualname ++ ".<locals>.") (some f) fd.code none fd.builtins=env;have e1:env.scope=fd.scope:=by rw[<- he];rfl
  have e2:env.locals=s.heap.objs.size:=by rw[<- he];rfl
  have e3:env.globals=fd.globals:=by rw[<- he];rfl
  have e4:env.cells=clos:=by rw[<- he];rfl
  have e5:env.builtins=fd.builtins:=by rw[<- he];rfl
  have kk:∀b o,s.heap.get? b=some o->h'.get? b=some o:=fun b o e=>hsb.extBut b o (Nat.ne_of_lt (Heap.lt_size e)) (fO _ e);have X:Ext G s { s with heap:=h',toks:=s.toks+(xs.zip vs).length }:=Ext.all B kk (iu p (je _ _));have hL:s.heap.get? env.locals=none:=by rw[e2];exact ax _
  have hns:h'.Ns env.locals (fun x=>(xs.zip vs).reverse.lookup x):=by rw[e2];exact hns
  have kd:∀y,env.kindOf y=fd.scope.names.lookup y:=fun y=>by show env.scope.names.lookup y=_;rw[e1]
  have grow:∀{v d},av G.w O s.heap v d->av G.w (env.locals::O) h' v d:=fun r=>(av.news (N:=[env.locals]) r fun b m=>by rcases aV m with rfl;exact hL).keep X.keep;have nocell':∀y,env.kindOf y≠some .cell:=fun y e=>by rw[kd]at e;exact nocell _ (mem_of_lookup e) rfl
  refine k env _ e1 e4 hL X ⟨ok,hh,X.base,X.pos,fun b m=>?_,⟨by rw[e1];exact N.kind,by rw[e3];exact N.gl,by rw[e5];exact N.bi,dX,bA (fun o q=>B.keep _ o q) hL,fun n a e=>(by exact nn e),fun x c e=>?_,fun x y c=>by rw[e4];exact inj x y c,fun x hx=>?_,⟨_,hns,fun n x d h1 h2 h3=>?_⟩,fun n x d h1 h2 h3=>?_⟩⟩ _
  .rcases bM m with rfl|m
   .obtain⟨o,es,ep,e,dd,_⟩:=hns;exact⟨o,e, .inr fun vs q=>by rw[dd]at q;cases q⟩
   .obtain⟨o,e,q⟩:=ov b m;exact⟨o,kk b o e,q⟩
  .rw[e4]at e;exact⟨dP _ (cin x c e).1,(cin x c e).2⟩
  .have hx:fd.scope.names.lookup x=some .free:=by
    rcases hx with hx|hx
    .exact absurd hx (nocell' x)
    .rwa [kd]at hx
   obtain⟨c,v,a1,a2⟩:=ce x hx;exact⟨c,v,by rw[e4];exact a1,a2.keeps kk⟩
  .rw[kd]at h2;obtain⟨v,a1,a2⟩:=hl n x d h1 h2 h3;exact⟨v,a1,by rw[fC];exact grow a2⟩
  .have h2:fd.scope.names.lookup x=some .free:=by
    rcases h2 with h2|h2
    .exact absurd h2 (nocell' x)
    .rwa [kd]at h2
   obtain⟨c,v,a1,a2,a3⟩:=hf n x d h1 h2 h3;exact⟨c,v,by rw[e4];exact a1,a2.keeps kk,by rw[fC];exact grow a3⟩
theorem Ie {e:E}{v:Expr}{np pos:Pos}{d:D}{s:Shared}{Q:Flow->Shared->Prop}{E:bg}(X:cy G A S c env dG)(I:di G A env dG O ρ s)
  (nm:G.names[n]?=some x)(hk:env.kindOf x=some .local)(hs:gZ env.kindOf x np v=false)(hc:bn c e v=true)(he:ev S ρ e=some d)
  (q:∀s',bl G [env.locals] s s'->di G A env dG O (ρ.set n d) s'->Q .next s'):wpAny (br G) A (exec (.Assign [.Name x np] v pos) env) Q E s:=by
 refine wpAny_Assign_Name ((aD e X hc).1 d he s I _ _ fun u s1 x1 r1=>?_) (by rw[jO X.fn,hs]);refine gJ (W:=[env.locals]) (I.ext x1) nm hk (.inl rfl) (iV (by simp) r1) ⟨dX,fun hc c e=>by rw[hk]at hc;cases hc⟩ fun s2 x2 _ I2=>?_;exact q s2 (x1.sext.trans x2) I2
end
end
section
section
variable {G:GC}{A:Around}
structure kB (G:GC):Prop where
 out:∀t∈G.tabs,G.h₀.get? t.P=none
 inj:∀t∈G.tabs,∀t'∈G.tabs,t.P=t'.P->t=t'
theorem E7 {env:Env}{t:wC}{scope:Scope}{body:FuncBody}{s:Shared}{Q:bg}{E:bg}(T:kB G)(B:aX G s.heap)(ht:t∈G.tabs)(hc:env.code=.ref t.c)
  (q:∀c' h' tk,Heap.ExtBut t.P s.heap h'->eh s.heap h'->aX G h'->0<tk->mw h' c' t.qual->Q (.ref c') { s with heap:=h',toks:=tk })(p:0<s.toks) :
  wpAny (br G) A (functionCode env t.pos firstLine name t.qual params scope body) Q E s:=by
 obtain⟨C,ps,e1,e2,e3⟩:=B.memo t ht;rcases e3 with e3|⟨c',e3,e4⟩
 .refine wpAny_with_toks (gC s.toks) (wpAny_functionCodeX hc (C.code e1 e2) (C.tab e1) e3 fun c' h' tk hx hge hlt hco hrec htb hnew htk=>?_);obtain⟨P',_,_,⟨⟨o,vs,f1,f2,f3,f4⟩,_⟩⟩:=hnew;have ci:mw h' c' t.qual:=by obtain⟨c₂,o₂,vs₂,t₂,g1,g2,g3,g4⟩:=hrec;cases g1;rw[f1]at g2;obtain rfl:=aC g2;rw[f3]at g3;cases g3;exact⟨o,vs,t₂,f1,f2,f3,g4⟩
  have kp:eh s.heap h':=fun b o e c=>hx b o (fun q=>by
   rw[q,e1]at e;obtain rfl:=aC e;rcases c with c|c
   .exact c rfl
   .exact c _ rfl) e
  refine q c' h' tk hx kp ⟨fun b o e=>hx b o (fun q=>by rw[q,T.out t ht]at e;exact nn e) (B.keep b o e),fun t' ht'=>?_⟩ (iu p htk) ci;by_cases hP:t'.P=t.P
  .obtain rfl:=T.inj _ ht' _ ht hP;refine⟨CodeHd.of hco htb,_,htb.2, ?_, .inr ⟨c', ?_,ci⟩⟩
   .simpa using TriplesOk_snoc _ _ _ _ e2
   .simpa using codeAmong_snoc _ e2 e3
  .obtain⟨⟨o',vs',file,tf,flags,tg,inF,text,tt,b1,b2,b3⟩,ps',d1,d2,d3⟩:=B.memo t' ht';refine⟨⟨o',vs',file,tf,flags,tg,inF,text,tt,kp _ _ b1 (.inl (by rw[b2];nofun)),b2,b3⟩,ps',hx _ _ hP d1,d2, ?_⟩;rcases d3 with d3|⟨c₃,d3,o₃,vs₃,t₃,i1,i2,i3⟩
   .exact .inl d3
   .exact .inr ⟨c₃,d3,o₃,vs₃,t₃,kp _ _ i1 (.inl (by rw[i2];nofun)),i2,i3⟩
 .exact wpAny_functionCode_hit hc (C.code e1 e2) e3 (q c' s.heap s.toks (fun b o _ e=>e) (.refl _) B p e4)
theorem FP {env:Env}{t:wC}{body:dY}{clos:List (Str × Addr)}{s:Shared}{Q:bg}{E:bg}(ok:oI G)(T:kB G)(B:aX G s.heap)(ht:t∈G.tabs)(hc:env.code=.ref t.c)
  (hcl:closureFor scope env=pure clos)(hne:clos≠[])(hge:env.globals=mainGlobals)(hco:scope.isCoroutine=false)(hgen:scope.isGenerator=false)(hk:scope.kind=.function)(hdoc:docOf body=none)
  (q:∀f fd s',Ext G s s'->s.heap.get? f=none->oJ G s'.heap f fd body clos->fd.params=params->fd.scope=scope->fd.defaults=.none->fd.kwdefaults=.none->Q (.ref f) s')(p:0<s.toks) :
  wpAny (br G) A (makeFunction name t.qual params (.stmts body) scope env [] [] [] t.pos t.pos.line) Q E s:=by
 obtain⟨bm,ob,hbm,hne0,hneG,hbo,hcls,hdict,hdata⟩:=ok.bm;rw[makeFunction_eq];simp -iota only[List.zip_nil_right,List.filterMap_nil,List.isEmpty_nil,if_true,pure_bind];unfold makeTail;rw[hcl,hge];refine aN (bB ?_);cases clos with
 |nil=>exact absurd rfl hne
 |cons u r =>
  simp -iota only[List.isEmpty_cons,Bool.false_eq_true,if_false];refine aN (wpAny_newTextTuple ?_);refine aN (E7 T (B.all fun b o e=>fO _ e) ht hc (fun c' h' tk hx kp B' p' ci=>?_) p);refine aN (wpAny_builtinsFor (ok.g.keeps B'.keep) hbm hne0 (B'.keep _ _ hbo) hcls hdict hdata ?_);refine aN (wpAny_nsGet (ok.g.keeps B'.keep) ?_);refine aN ?_;rw[hdoc];refine bB ?_;refine wpAny_newObj_type ?_ (by size_fits);have k0:eh s.heap h':=fun b o e c=>kp b o (fO _ e) c;have back0:∀b,h'.get? b=none->s.heap.get? b=none:=fun b e=>by
   cases hb:s.heap.get? b with
   |none=>rfl
   |some o =>
    by_cases hP:b=t.P
    .subst hP;obtain⟨_,ps,e1,_⟩:=B'.memo t ht;rw[e]at e1;exact nn e1
    .rw[hx b o hP (fO _ hb)]at e;cases e
  have hf:h'.get? h'.objs.size=none:=ax _;obtain⟨o,vs,tk',i1,i2,i3,i4⟩:=ci;refine q _ _ _ ⟨⟨rfl,rfl⟩,fun b o e c=>fO _ (k0 b o e c),B'.all fun b o e=>fO _ e,p',fun b e=>back0 b (bA (fun o q=>fO _ q) e)⟩ (back0 _ hf)
   ⟨⟨_,ie _ rfl,rfl⟩,⟨c',rfl,o,vs,tk',fO _ i1,i2,i3,i4⟩,rfl,rfl,rfl,rfl,hco,hgen,hk⟩ rfl rfl rfl rfl
theorem BW {env:Env}{t:wC}{body:dY}{clos:List (Str × Addr)}{s:Shared}{Q:Flow->Shared->Prop}{E:bg}(ok:oI G)(T:kB G)(B:aX G s.heap)(ht:t∈G.tabs)(hc:env.code=.ref t.c)(hq:qualnameIn env name name=t.qual)
  (hcl:closureFor scope env=pure clos)(hne:clos≠[])(hge:env.globals=mainGlobals)(hco:scope.isCoroutine=false)(hgen:scope.isGenerator=false)(hk:scope.kind=.function)(hdoc:docOf body=none)
  (hd0:params.defaults=[])(hk0:params.kw_defaults=[])(ha:annTrees params none env=[])
  (q:∀f fd s',Ext G s s'->s.heap.get? f=none->oJ G s'.heap f fd body clos->fd.params=params->fd.scope=scope->fd.defaults=.none->fd.kwdefaults=.none->wpAny (br G) A (storeName env name (.ref f)) (fun _ s''=>Q .next s'') E s') (p:0<s.toks) :
  wpAny (br G) A (exec (.FunctionDef name params body [] none [] scope none name t.pos) env) Q E s:=by
 refine nestDef_K hd0 hk0 ha ?_;rw[hq];exact FP ok T B ht hc hcl hne hge hco hgen hk hdoc q p
end
end
section
noncomputable def Fc (n x i:Nat):Nat:=x / 2^(n*i) % 2^n
def cH (n x k:Nat):aH:=(List.range k).map (Fc n x)
theorem fI (n x k:Nat):(cH n x k).length=k:=(dq _).trans List.length_range
theorem HH (n x i:Nat):Fc n x i<2^n:=Nat.mod_lt _ (Nat.two_pow_pos n)
theorem Fd (h:i<k):Fc n (x % 2^(n*k)) i=Fc n x i:=by
 delta Fc
 have e:n*k=n*i+(n*(k-i-1)+n):=by
  have:k=i+((k-i-1)+1):=by rw[Nat.sub_add_cancel (Nat.sub_pos_of_lt h),Nat.add_sub_cancel' (gp h)]
  conv=>lhs;rw[this]
  rw[Nat.mul_add,Nat.mul_add,Nat.mul_one]
 rw[e,Nat.pow_add,Nat.mod_mul_right_div_self,Nat.pow_add,Nat.mod_mul_left_mod]
theorem BX:Fc n (x / 2^(n*k)) i=Fc n x (k+i):=by
 delta Fc
 rw[Nat.div_div_eq_div_mul,<- Nat.pow_add,<- Nat.mul_add]
theorem kG (n x a b:Nat):cH n (x % 2^(n*a)) a++cH n (x / 2^(n*a)) b=cH n x (a+b):=by
 delta cH
 rw[List.range_add,List.map_append,fv]
 congr 1
 .exact List.map_congr_left fun i hi=>Fd (List.mem_range.mp hi)
 .exact List.map_congr_left fun i _=>BX
theorem pe (n x:Nat)(h:x<2^n):cH n x 1=[x]:=by simp[cH,Fc,Nat.mod_eq_of_lt h]
noncomputable def fD (n:Nat):aH->Nat
 |[]=>0
 |d::r=>d+2^n*fD n r
theorem gM (n:Nat):∀(xs ys:aH),fD n (xs++ys)=fD n xs+2^(n*xs.length)*fD n ys
 |[],ys=>by show _=0+2^0*fD n ys;rw[Nat.pow_zero,Nat.one_mul,Nat.zero_add];rfl
 |x::xs,ys=>by show x+2^n*fD n (xs++ys)=x+2^n*fD n xs+_;rw[gM n xs ys,nR,Nat.mul_add,Nat.mul_add,Nat.mul_one,Nat.pow_add,<- Nat.add_assoc,<- Nat.mul_assoc,Nat.mul_comm (2^n) (2^(n*xs.length))]
theorem yj:∀{xs:aH},(∀x∈xs,x<2^n)->fD n xs<2^(n*xs.length)
 |[],_=>Nat.one_pos
 |x::xs,h=>by
  have h1:=h x dX;have h2:=yj (n:=n) (xs:=xs) fun y m=>h y (dP _ m);show x+2^n*fD n xs<_;rw[nR,Nat.mul_add,Nat.mul_one,Nat.pow_add];have h3:2^n*fD n xs+2^n<=2^(n*xs.length)*2^n:=by
   rw[Nat.mul_comm (2^(n*xs.length))]
   calc 2^n*fD n xs+2^n=2^n*(fD n xs+1):=by rw[Nat.mul_add,Nat.mul_one]
    _<=_:=Nat.mul_le_mul_left _ h2
  lia
theorem wt (n:Nat):∀(k x:Nat),fD n (cH n x k)=x % 2^(n*k)
 |0,x=>(Nat.mod_one x).symm
 |k+1,x=>by rw[Nat.add_comm k 1,<- kG n x 1 k,gM,fI,Nat.mul_one,wt n k,pe _ _ (Nat.mod_lt _ (Nat.two_pow_pos n))];rw[show∀d,fD n [d]=d from fun _=>rfl,Nat.mul_add,Nat.mul_one,Nat.pow_add,Nat.mod_mul]
noncomputable abbrev aa (n:Nat):D:=PyData.int (n:Int)
theorem ja {n k:Nat}(h:n<2^k):ib (n:Int)<=k:=by
 delta ib Builtin.Int.intBits
 by_cases c:n=0
 .subst c;simp
 .have:((n:Int)==0)=false:=by simpa using c
  rw[this];simp only[Bool.false_eq_true,if_false,Int.natAbs_natCast];have:=(Nat.log2_lt c).mpr h
  assumption
theorem yS {n:Nat}(h:n<2^64):fits (n:Int)=true:=by have:=ja h;exact eD (by exact rJ ‹_› rfl)
theorem Go (a k:Nat):(a:Int).fdiv (2^((k:Int)).toNat)=((a / 2^k:Nat):Int):=by
 rw[kj,Int.fdiv_eq_ediv_of_nonneg _ (by exact_mod_cast nv _)]
 norm_cast
theorem FN (x k:Nat):x &&& (x / 2^k*2^k)=x / 2^k*2^k:=by
 rw[<- Nat.shiftRight_eq_div_pow,<- Nat.shiftLeft_eq];apply Nat.eq_of_testBit_eq;intro i;rw[Nat.testBit_and,Nat.testBit_shiftLeft];by_cases c:k<=i
 .rw[Nat.testBit_shiftRight];simp[c]
 .simp[c]
theorem GL (x k:Nat):Builtin.bitXor (x:Int) (((x / 2^k:Nat):Int)*2^((k:Int)).toNat)=((x % 2^k:Nat):Int):=by
 have e:(((x / 2^k:Nat):Int)*2^((k:Int)).toNat)=((x / 2^k*2^k:Nat):Int):=by rw[kj];norm_cast
 rw[e,PyProof.Rows.bitXor_and];have:Builtin.bitAnd (x:Int) ((x / 2^k*2^k:Nat):Int)=((x / 2^k*2^k:Nat):Int):=by rw[PyProof.Rows.bitAnd_pp (Int.natCast_nonneg _) (Int.natCast_nonneg _)];simp only[kj,FN]
 rw[this];rw[Int.two_mul,Int.add_sub_add_right,<- Int.ofNat_sub (Nat.div_mul_le_self x _),Nat.mul_comm];exact congrArg Int.ofNat (Nat.sub_eq_of_eq_add (Nat.mod_add_div x (2^k)).symm)
theorem mT (a k:Nat):cX .RShift (aa a) (aa k)=some (aa (a / 2^k)):=by
 show ej .RShift a k=_
 delta ej
 simp only[Go];rw[if_pos (by simp)]
theorem mS {m:Nat}(h:a<2^m)(hm:m+k<=2^27):cX .LShift (aa a) (aa k)=some (aa (a*2^k)):=by
 show ej .LShift a k=_;have:=ja h;have c:(decide ((0:Int)<=(k:Int))&&decide ((ib (a:Int):Int)+(k:Int)<=2^27))=true:=by
  rw[g9,kh,kh];have e:(2:Int)^27=134217728:=by decide
  rw[e]
  lia
 have e:ej .LShift (a:Int) (k:Int)=if decide ((0:Int)<=(k:Int))&&decide ((ib (a:Int):Int)+(k:Int)<=2^27)then some (.int ((a:Int)*2^(k:Int).toNat))else none:=rfl;rw[e,if_pos c,kj]
 norm_cast
theorem eF (a b:Nat):cX .Add (aa a) (aa b)=some (aa (a+b)):=by
 show ej .Add a b=_
 norm_cast
theorem aQ (h:b<=a):cX .Sub (aa a) (aa b)=some (aa (a-b)):=by show ej .Sub a b=_;exact congrArg (fun i=>some (PyData.int i)) (Int.ofNat_sub h).symm
theorem gj {a b:Nat}(ha:a<2^64)(hb:b<2^64):cX .Mult (aa a) (aa b)=some (aa (a*b)):=by
 show ej .Mult a b=_
 delta ej
 simp only[yS ha,yS hb,Bool.and_self,if_true]
 norm_cast
theorem sV (x k:Nat):cX .BitXor (aa x) (aa (x / 2^k*2^k))=some (aa (x % 2^k)):=by
 show ej .BitXor x _=_
 delta ej
 have:=GL x k;rw[show(((x / 2^k:Nat):Int)*2^((k:Int)).toNat)=((x / 2^k*2^k:Nat):Int) by rw[kj];norm_cast]at this;simp only[this]
theorem ln (a b:Nat):cY .Eq (aa a) (aa b)=some (.bool (decide (a=b))):=by
 show(if eT 8 (aa a)&&eT 8 (aa b)then some (PyData.bool (PyData.eqv (aa a) (aa b)))else none)=_;rw[if_pos (by rfl)]
 congr 2
 show decide ((a:Int)=(b:Int))=_;exact decide_eq_decide.mpr (by lia)
section
variable {G:GC}{A:Around}{s:Shared}
theorem AY {D:Addr}{vs:Array Value}{k:Int}{t:Tok}{v:Value}{Q:Unit->Shared->Prop}{E:bg}(hl:s.heap.PlainList D vs)(h0:0<=k)(hf:k<2^63)(hn:k<vs.size)
  (q:∀h',h'.PlainList D (vs.setIfInBounds k.toNat v)->Heap.SameBut D s.heap h'->Q () { s with heap:=h' }):wpAny (br G) A (setItem (.ref D) (.int k t) v) Q E s:=by
 obtain⟨n,ho⟩:=id hl;have hi:s.heap.IsList D vs:=hl.isList;unfold setItem
 try with_reducible refine wpAny_holding ?_
 first|refine aN (bB ?_)|skip
 refine aN (wpAny_sequenceKey hi.typeIs (by decide) ?_);refine aN (wpAny_callSpecial?_slot (name:=Str.ofString "__setitem__") hi.typeIs slot_list_setitem
  (wpAny_call_entry slot_list_setitem hi.typeIs entry_list_setitem ?_ (args_list_setitem _ _ _)))
 show wpAny _ _ (Builtin.List.listSubscript? (.int k t) >>= _) _ _ s;refine aN (wpAny_listSubscript_int (fitsIndex_of h0 hf) ?_);clear hf;obtain⟨j,rfl⟩:=Int.eq_ofNat_of_zero_le h0;have hj:j<vs.size:=by lia
 have hx:vs[j]?=some vs[j]:=Array.getElem?_eq_getElem hj;show wpAny _ _ ((seqItemAt D j >>= fun r=>pure (r.map (j,·))) >>= _) _ _ s;refine aN (aN (wpAny_seqItemAt ho rfl (bB ?_)));rw[hx];show wpAny _ _ (setSeqItemAt D j v >>= _) _ _ s;have hm:Obj.mapSeq (·.setIfInBounds j v) { cls:=.type "list",data:=.seq vs n }={ cls:=.type "list",data:=.seq (vs.setIfInBounds j v) n }:=by simp[Obj.mapSeq]
 have fin:(s.heap.update D (Obj.mapSeq (·.setIfInBounds j v))).PlainList D (vs.setIfInBounds j v):=⟨n,by rw[Heap.get?_update_self _ ho (by rw[hm];rfl),hm]⟩;refine aN (wpAny_setSeqItemAt ho rfl ?_)
 first
  |exact aN (bB (bB ⟨.none,rfl,bB (q _ fin (Heap.SameBut.update ..))⟩))
  |exact bB ⟨.none,rfl,bB (q _ fin (Heap.SameBut.update ..))⟩
def IV (vs:eU)(ns:aH):Prop:=vs.length=ns.length/\∀(i n:Nat),ns[i]?=some n->∃t:Tok,vs[i]?=some (Value.int (n:Int) t)
theorem IV.reps (x:IV vs ns):ai w O h vs (ns.map aa):=by refine ai.of_get (by simpa using x.1) fun i v d h1 h2=>?_;rw[List.getElem?_map]at h2;obtain⟨n,h3,rfl⟩:=Option.map_eq_some_iff.mp h2;obtain⟨t,h4⟩:=x.2 i n h3;rw[h1]at h4;obtain rfl:=aC h4;exact .int
theorem IV.of (r:ai w O h vs (ns.map aa)):IV vs ns:=by refine⟨by simpa using r.length,fun i n h1=>?_⟩;obtain⟨v,h2,h3⟩:=r.get i (aa n) (by rw[List.getElem?_map,h1];rfl);obtain⟨t,rfl⟩:=h3.int_inv;exact⟨t,h2⟩
set_option tactic.hygienic true in
theorem IV.set (x:IV vs ns)(k n:Nat)(t:Tok):IV (vs.set k (Value.int (n:Int) t)) (ns.set k n):=by
 refine⟨by simpa using x.1,fun i m h=>?_⟩;rw[List.getElem?_set]at h ⊢;by_cases c:k=i
 .subst c;rw[if_pos rfl]at h ⊢;split at h
  .rename_i hk;obtain rfl:=aC h;rw[if_pos (by rw[x.1];exact hk)];exact⟨t,rfl⟩
  .exact nn h
 .rw[if_neg c]at h ⊢;exact x.2 i m h
theorem bl.drop (x:bl G (L::W) s s')(h:s.heap.get? L=none):bl G W s s':=
 ⟨x.same,fun b o m e c=>x.keep b o (fun q=>by
   rcases bM q with rfl|q
   .rw[h]at e;exact nn e
   .exact m q) e c,x.base,x.pos,fun b m e=>if c:b=L then c▸h else x.back b (fun q=>(bM q).elim c m) e⟩
noncomputable def jy:List Str:=["a_digits", "inner", "n", "x", "L", "R", "mid", "shift", "upper", "lower", "digits", "a"]
noncomputable def S0:cL:=⟨fun _ _=>none,fun _=>none,false⟩
theorem Cp:kq G A S0.cal:=⟨fun f x ds d _ h=>(by exact nn h)⟩
theorem vm:g8 G S0.gl:=fun n x d _ h=>(by exact nn h)
theorem j6 (h:Nat.ble a b=true):a<=b:=Nat.le_of_ble_eq_true h
theorem bi (h:o=some x)(e:k x=r):o.bind k=r:=by rw[h];exact e
theorem li (h:o=some (.list x))(e:k x=r):ju o k=r:=bi h e
theorem si (h:o=some (.str x))(e:k x=r):wg o k=r:=bi h e
theorem ti (h:o=some (.tuple x))(e:k x=r):IX o k=r:=bi h e
theorem ag (ha:ev S ρ a=some x)(hb:ev S ρ b=some y)(h:cX o x y=some z):ev S ρ (.b o a b)=some z:=bi ha (bi hb h)
theorem ab (h:ρ.get n=some d):ev S ρ (.v n)=some d:=h
theorem aq:ev S ρ (.l d)=some d:=rfl
theorem ad (h:ev S ρ e=some d)(hs:kI S ρ es=some ds):kI S ρ (.c e es)=some (d::ds):=bi h (bi hs rfl)
theorem jw {np pos:Pos}{args:dU}{ds:List D}{Q:bg}{E:bg}(I:di G A env dG O ρ s)
  (hk:env.kindOf x=some .free\/env.kindOf x=some .cell)(hc:env.cells.lookup x=some ci)(hq:s.heap.IsCell ci (some (.ref f))) (h1:(x==("__classdict__" : Str))=false) (h2:(x==("__debug__" : Str))=false)
  (hf:∃o fd,s.heap.get? f=some o/\o.data=.func fd)(hst:ct args=true)(ha:kZ G A args env dG O ρ ds)
  (k:∀s1 vs,Ext G s s1->ai G.w O s1.heap vs ds->wpAny (br G) A (call (.ref f) vs) Q E s1):wpAny (br G) A (eval (.Call (.Name x np) args [] pos) env) Q E s:=by
 obtain⟨o,fd,f1,f2⟩:=hf;have go:wpAny (br G) A (callWith pos (.ref f) [] (backTo pos (starEach args env)) (backToKw pos (keywordEach [] env))) Q E s:=by refine callWith_function_kw (o:=o) (fd:=fd) (bc hst (ha s pos I _ _ fun vs s1 x1 r1=>⟨⟨x1.keep _ _ f1 (.inr fun vs q=>by rw[f2]at q;cases q),f2⟩, ?_⟩));exact k s1 vs x1 r1
 refine wpAny_Call_Name_kw (wpAny_Name ?_ h2);rcases hk with hk|hk
 .exact wpAny_loadName_free I.envr.fn hk hc hq go h1
 .exact wpAny_loadName_cell I.envr.fn hk hc hq go
end
end
section
section
variable {G:GC}{A:Around}{s:Shared}
noncomputable def jr:List (Str × NameKind):=[("x", .local),("L", .local),("R", .local),("mid", .local),("shift", .local),("upper", .local),("lower", .local),("a_digits", .free),("inner", .free),("n", .free)]
noncomputable abbrev JG:E:=.b .RShift (.b .Add (.v 4) (.v 5)) (.l (.int 1))
noncomputable abbrev BZ:E:=.b .Mult (.b .Sub (.v 6) (.v 4)) (.v 2)
noncomputable abbrev My:E:=.b .RShift (.v 3) (.v 7)
noncomputable abbrev Ls:E:=.b .BitXor (.v 3) (.b .LShift (.v 8) (.v 7))
noncomputable abbrev Fh:E:=.q .Eq (.b .Add (.v 4) (.l (.int 1))) (.v 5)
def xD (s:Stmt)(k:Str->Expr->Bool):Bool:=lI s fun t v=>bD t fun m _=>k m v
@[elab_as_elim] theorem ny {s:Stmt}{k:Str->Expr->Bool}{P:Stmt->Prop}(h:xD s k=true)(q:∀m np v p,k m v=true->P (.Assign [.Name m np] v p)):P s:=by refine eA h fun t v p h=>?_;exact aF h fun m np h=>q m np v p h
def tG (s:Stmt)(k:Str->dU->Bool):Bool:=tJ s fun z _=>bY z k
@[elab_as_elim] theorem lL {s:Stmt}{k:Str->dU->Bool}{P:Stmt->Prop}(h:tG s k=true)(q:∀f np a cp ep,k f a=true->P (.Expr (.Call (.Name f np) a [] cp) ep)):P s:=by refine lP h fun z ep h=>?_;exact aP h fun f np a cp h=>q f np a cp ep h
def ze (s:Stmt)(k:Expr->dY->Bool):Bool:=zf s fun t b e _=>bK e (k t b)
@[elab_as_elim] theorem kN {s:Stmt}{k:Expr->dY->Bool}{P:Stmt->Prop}(h:ze s k=true)(q:∀t b p,k t b=true->P (.If t b [] p)):P s:=by refine kO h fun t b e p h=>?_;exact aJ h fun h=>q t b p h
def G7 (s:Stmt)(k:Str->Expr->Expr->Bool):Bool:=lI s fun z v=>eH z fun z i _=>bD z fun y _=>k y i v
@[elab_as_elim] theorem xK {s:Stmt}{k:Str->Expr->Expr->Bool}{P:Stmt->Prop}(h:G7 s k=true)(q:∀y np i sp v p,k y i v=true->P (.Assign [.Subscript (.Name y np) i sp] v p)):P s:=by refine eA h fun z v p h=>?_;refine cS h fun z i sp h=>?_;exact aF h fun y np h=>q y np i sp v p h
def qd (s:Stmt)(k:Expr->Bool):Bool:=fm s fun z _=>fQ z k
@[elab_as_elim] theorem gV {s:Stmt}{k:Expr->Bool}{P:Stmt->Prop}(h:qd s k=true)(q:∀e p,k e=true->P (.Return (some e) p)):P s:=by refine dH h fun z p h=>?_;exact da h fun e h=>q e p h
def Ds (s:Stmt)(k:Bool):Bool:=fm s fun z _=>gF z k
@[elab_as_elim] theorem vR {s:Stmt}{k:Bool}{P:Stmt->Prop}(h:Ds s k=true)(q:∀p,k=true->P (.Return none p)):P s:=by refine dH h fun z p h=>?_;exact cZ h fun h=>q p h
def zd (x:Expr)(o:Operator)(k:Expr->Expr->Bool):Bool:=tD x fun l o' r _=>Dq o' o (k l r)
@[elab_as_elim] theorem kM {k:Expr->Expr->Bool}{P:Expr->Prop}(h:zd x o k=true)(q:∀l r p,k l r=true->P (.BinOp l o r p)):P x:=by refine lJ h fun l o' r p h=>?_;exact rX h fun h=>q l r p h
def Do (s:Stmt)(k:Str->Arguments->dY->Scope->Str->Pos->Bool):Bool:=gG s fun n ps ib z1 z2 z3 sc z4 bnd p=>bK z1 <| gF z2 <| bK z3 <| gF z4 (k n ps ib sc bnd p)
@[elab_as_elim] theorem qb {s:Stmt}{k:Str->Arguments->dY->Scope->Str->Pos->Bool}{P:Stmt->Prop}(h:Do s k=true)(q:∀n ps ib sc bnd p,k n ps ib sc bnd p=true->P (.FunctionDef n ps ib [] none [] sc none bnd p)):P s:=by refine km h fun n ps ib z1 z2 z3 sc z4 bnd p h=>?_;refine aJ h fun h=>?_;refine cZ h fun h=>?_;refine aJ h fun h=>?_;exact cZ h fun h=>q n ps ib sc bnd p h
def Id (c:Cx)(i:Nat)(e:E)(s:Stmt):Bool:=xD s fun m v=>c.nm[i]?==some m&&c.sc.lookup m==some .local&&!lZ v&&bn c e v
def Lu (c:Cx)(es:Es)(s:Stmt):Bool:=tG s fun f a=>f==("inner" : Str)&&dC c es a
def JW (c:Cx)(t:Expr)(y1:Str)(i1 v1:Expr):Bool:=bn c Fh t&&y1==("a_digits" : Str)&&bn c (.v 4) i1&&bn c (.v 3) v1&&!lZ v1
def G9 (c:Cx)(s2 s3 s4 s5 s6 s7:Stmt):Bool:=Id c 6 JG s2&&Id c 7 BZ s3&&Id c 8 My s4&&Id c 9 Ls s5&&Lu c (.c (.v 9) (.c (.v 4) (.c (.v 6) .n))) s6&&Lu c (.c (.v 8) (.c (.v 6) (.c (.v 5) .n))) s7
inductive Jy (c:Cx):dY->Prop
 |mk {t:Expr}{y1:Str}{q1:Pos}{i1:Expr}{q2:Pos}{v1:Expr}{q3:Pos}{q4:Pos}{q5:Pos}{s2 s3 s4 s5 s6 s7:Stmt}(h1:JW c t y1 i1 v1=true)(h2:G9 c s2 s3 s4 s5 s6 s7=true):Jy c [.If t [.Assign [.Subscript (.Name y1 q1) i1 q2] v1 q3, .Return none q4] [] q5,s2,s3,s4,s5,s6,s7]
def oo (c:Cx)(b:dY):Bool:=
 aZ b fun s1 r=>aZ r fun s2 r=>aZ r fun s3 r=>aZ r fun s4 r=>aZ r fun s5 r=>aZ r fun s6 r=>gE r fun s7=>G9 c s2 s3 s4 s5 s6 s7&&ze s1 fun t b=>aZ b fun a r=>gE r fun r=>Ds r <| G7 a fun y1 i1 v1=>JW c t y1 i1 v1
theorem vu {c:Cx}{b:dY}(h:oo c b=true):Jy c b:=by refine ar h fun s1 r h=>ar h fun s2 r h=>ar h fun s3 r h=>ar h fun s4 r h=>ar h fun s5 r h=>ar h fun s6 r h=>aS h fun s7 h=>?_;refine kN (ah h).2 fun t b p k=>ar k fun a r k=>aS k fun r k=>vR k fun p2 k=>xK k fun y np i sp v p3 k=>.mk k (ah h).1
theorem rN {env:Env}{O:a9}{ρ:aB}{i:Nat}{e:E}{st:Stmt}{d:D}{Q:Flow->Shared->Prop}{E:bg}(X:cy G A S c env dG)(I:di G A env dG O ρ s)
  (h:Id c i e st=true)(he:ev S ρ e=some d)(q:∀s',bl G [env.locals] s s'->di G A env dG O (ρ.set i d) s'->Q .next s'):wpAny (br G) A (exec st env) Q E s:=by
 refine ny h fun m np v p h=>ig h fun h1 h2 h3 h4=>?_;exact Ie X I (X.nm▸eC h1) (by show env.scope.names.lookup m=_;rw[X.sc];exact eC h2) (yh (iw h3) _ _ _) h4 he q
theorem G4 {env:Env}{O:a9}{ρ:aB}{f ci:Addr}{es:Es}{ds:List D}{st:Stmt}{Q:Flow->Shared->Prop}{E:bg}(X:cy G A S c env dG)(I:di G A env dG O ρ s)
  (h:Lu c es st=true)(hk:env.kindOf "inner" = some .free\/env.kindOf "inner" = some .cell) (hc:env.cells.lookup ("inner" : Str)=some ci) (hq:s.heap.IsCell ci (some (.ref f)))
  (hf:∃o fd,s.heap.get? f=some o/\o.data=.func fd)(he:kI S ρ es=some ds)
  (k:∀s1 vs,Ext G s s1->ai G.w O s1.heap vs ds->wpAny (br G) A (call (.ref f) vs) (fun v s'=>match v with|.ref _=>False|_=>Q .next s') E s1):wpAny (br G) A (exec st env) Q E s:=by
 refine lL h fun y np a cp ep h=>oQ h fun h1 h2=>?_;obtain rfl:=eC h1;exact wpAny_Expr (jw I hk hc hq rfl rfl hf (dA.ns (bb es) X h2) ((bb es X h2).el _ he) k) (j7 X.fn) (dJ rfl _ _ _)
theorem iY {A B C:Str}{x y z:Addr}{k:Str}{v:Addr}{P:Str->Addr->Prop}(h:([(A,x),(B,y),(C,z)]:List (Str × Addr)).lookup k=some v)(a:P A x)(b:P B y)(c:P C z):P k v:=by
 rcases bM (mem_of_lookup h)with e|m
 .cases e;exact a
 .rcases bM m with e|m
  .cases e;exact b
  .cases aV m;exact c
theorem zA {A B C:Str}{x y z:Addr}(n1:z≠y)(n2:y≠x)(n3:z≠x){k k':Str}{v:Addr}(h:([(A,x),(B,y),(C,z)]:List (Str × Addr)).lookup k=some v)(h':([(A,x),(B,y),(C,z)]:List (Str × Addr)).lookup k'=some v):k=k':=
 iY (P:=fun k v=>∀k',([(A,x),(B,y),(C,z)]:List (Str × Addr)).lookup k'=some v->k=k') h
  (fun k' h'=>iY (P:=fun k' v=>v=x->A=k') h' (fun _=>rfl) (fun e=>absurd e n2) (fun e=>absurd e n3) rfl)
  (fun k' h'=>iY (P:=fun k' v=>v=y->B=k') h' (fun e=>absurd e.symm n2) (fun _=>rfl) (fun e=>absurd e n1) rfl)
  (fun k' h'=>iY (P:=fun k' v=>v=z->C=k') h' (fun e=>absurd e.symm n3) (fun e=>absurd e.symm n1) (fun _=>rfl) rfl) k' h'
set_option tactic.hygienic true in
@[elab_as_elim] theorem oD {n:Nat}{v:D}{P:Nat->D->Prop}(h:aB.get [(a,x),(b,y),(c,z),(d,w)] n=some v)(pa:P a x)(pb:P b y)(pc:P c z)(pd:P d w):P n v:=by
 rw[aB.get_cons]at h;split at h
 .rename_i e;subst e;exact aC h▸pa
 .rw[aB.get_cons]at h;split at h
  .rename_i e;subst e;exact aC h▸pb
  .rw[aB.get_cons]at h;split at h
   .rename_i e;subst e;exact aC h▸pc
   .rw[aB.get_cons]at h;split at h
    .rename_i e;subst e;exact aC h▸pd
    .exact nn h
theorem Ed {A B C y:Str}{P:Str->Prop}(h:[A,B,C].contains y=true)(a:P A)(b:P B)(c:P C):P y:=by
 rcases bM (List.contains_iff_mem.mp h)with e|m
 .exact e▸a
 .rcases bM m with e|m
  .exact e▸b
  .exact aV m▸c
theorem yV {sc:List (Str × NameKind)}{A B C y:Str}{P:Str->Prop}(hs:sc.all (fun p=>p.2 != .free || [A,B,C].contains p.1)=true)(h:sc.lookup y=some .free)(a:P A)(b:P B)(c:P C):P y:=
 Ed (show[A,B,C].contains y=true from bQ hs _ (mem_of_lookup h)) a b c
theorem bT (nm:∀(i:Nat) (x:Str),jy[i]?=some x->G.names[i]?=some x){n:Nat}{y z:Str}(h:G.names[n]?=some y)(hz:jy[n]?=some z):y=z:=aC (h.symm.trans (nm n z hz))
theorem fq {h:Heap}(x:h.IsCell c v):∃o,h.get? c=some o/\gu o:=by obtain⟨o,e,d⟩:=x;exact⟨o,e, .inr fun vs q=>by rw[d]at q;cases q⟩
structure sH (G:GC)(h:Heap)(f D ca ci cn:Addr)(nb:Nat)(fd:FuncData)(body:dY):Prop where
 N:oJ G h f fd body [("n",cn),("inner",ci),("a_digits",ca)]
 a:h.IsCell ca (some (.ref D))
 i:h.IsCell ci (some (.ref f))
 n:∃t,h.IsCell cn (some (.int (nb:Int) t))
def Bk (o:Obj):Prop:=(∀fd,o.data≠.func fd)/\(∀vs,o.data≠.fields vs)/\∀v,o.data≠.cell v
theorem le (x:h.IsCell c v)(k:aI W h h')(hW:∀a∈W,∀o,h.get? a=some o->Bk o):h'.IsCell c v:=
 let⟨o,e,d⟩:=x;⟨o,k _ _ (fun m=>(hW _ m _ e).2.2 _ d) e (.inr fun vs q=>by rw[d]at q;cases q),d⟩
theorem sH.but {h h':Heap}{f D ca ci cn:Addr}{nb:Nat}{fd:FuncData}{body:dY}{W:a9}(x:sH G h f D ca ci cn nb fd body)(k:aI W h h')(hW:∀a∈W,∀o,h.get? a=some o->Bk o):sH G h' f D ca ci cn nb fd body:=
 ⟨x.N.keepBut k fun a m o e=>⟨(hW a m o e).1,(hW a m o e).2.1⟩,le x.a k hW,le x.i k hW,let⟨t,y⟩:=x.n;⟨t,le y k hW⟩⟩
theorem sH.keep {f D ca ci cn:Addr}{nb:Nat}{fd:FuncData}{body:dY}(x:sH G h f D ca ci cn nb fd body)(k:eh h h'):sH G h' f D ca ci cn nb fd body:=
 x.but (W:=[]) (fun b o _ e c=>k b o e c) fun _ m=>by cases m
theorem zv {h:Heap}(x:h.Ns a m):∀b∈[a],∀o,h.get? b=some o->Bk o:=fun b mb o e=>by
 rcases aV mb with rfl
 obtain⟨o',es,ep,e',d,_⟩:=x;rw[e']at e;obtain rfl:=aC e;exact⟨fun _ q=>(by rw[d]at q;cases q),fun _ q=>(by rw[d]at q;cases q),fun _ q=>(by rw[d]at q;cases q)⟩
theorem sv {h:Heap}(x:h.PlainList a vs):∀b∈[a],∀o,h.get? b=some o->Bk o:=fun b mb o e=>by
 rcases aV mb with rfl
 obtain⟨n,e'⟩:=x;rw[e']at e;have e:=aC e;have hd:o.data=.seq vs n:=by rw[<- e]
 exact⟨fun _ q=>(by rw[hd]at q;cases q),fun _ q=>(by rw[hd]at q;cases q),fun _ q=>(by rw[hd]at q;cases q)⟩
theorem yd {xs:aH}{a b:aH}(h1:L<=m)(h2:m<=R)(h3:R<=xs.length)(ha:a.length=m-L) :
  (xs.take L++a++xs.drop m).take m++b++(xs.take L++a++xs.drop m).drop R=xs.take L++(a++b)++xs.drop R:=by
 have e:(xs.take L++a).length=m:=by rw[lla,List.length_take,ha,Nat.min_eq_left (az h1 (az h2 h3)),Nat.add_sub_cancel' h1]
 rw[List.take_left' e,List.drop_append,e,List.drop_of_length_le (az (Nat.le_of_eq e) h2),List.nil_append,List.drop_drop,Nat.add_sub_cancel' h2,List.append_assoc (xs.take L)]
end
end
section
section
variable {G:GC}{A:Around}{s:Shared}
theorem IV.three (h:IV vals [x,L,R]):∃t1 t2 t3,vals=[.int x t1, .int L t2, .int R t3]:=by
 obtain⟨t1,h1⟩:=h.2 0 x rfl;obtain⟨t2,h2⟩:=h.2 1 L rfl;obtain⟨t3,h3⟩:=h.2 2 R rfl;refine⟨t1,t2,t3,List.ext_getElem? fun i=>?_⟩
 match i with
 |0=>exact h1
 |1=>exact h2
 |2=>exact h3
 |n+3 =>
  rw[Ao (by rw[h.1];exact Nat.le_add_left 3 n)];rfl
theorem di.turn {env:Env}{D:Addr}{vs vs':Array Value}{s':Shared}(I:di G A env dG O ρ s)(x:bl G [D] s s')(l:s.heap.PlainList D vs)(l':s'.heap.PlainList D vs')(hD:D∈O)(hc:∀y c,env.cells.lookup y=some c->c≠D):di G A env dG O ρ s':=by
 obtain⟨n,e⟩:=id l;obtain⟨n',e'⟩:=id l';have ne_loc:env.locals∉[D]:=fun m=>by obtain⟨mm,⟨o,es,ep,e2,e3,_⟩,_⟩:=I.envr.ns;rw[aV m,e]at e2;obtain rfl:=aC e2;cases e3
 have ne_cell:∀y c,env.cells.lookup y=some c->c∉[D]:=fun y c h m=>hc y c h (aV m);exact⟨I.ok,I.hh,x.base,x.pos,I.ov.but x.keep fun a m=>by rcases aV m with rfl;exact⟨_,e', .inl (by show Value.type _≠_;nofun)⟩,
  I.envr.but x.keep (fun a m o h=>by
   rcases aV m with rfl
   rw[e]at h;have h:=aC h;subst h;exact⟨ir rfl rfl,fun _=>hD⟩) ne_loc ne_cell fun n a vs h=>by exact nn h⟩
theorem dL {h:Heap}{c D:Addr}{v:Option Value}{vs:Array Value}(x:h.IsCell c v)(l:h.PlainList D vs):c≠D:=fun q=>by obtain⟨o,e,d⟩:=x;obtain⟨n,e'⟩:=l;rw[q,e']at e;have e:=aC e;rw[<- e]at d;cases d
theorem bl.of_list {D:Addr}{vs vs':Array Value}{h':Heap}(B:aX G s.heap)(p:0<s.toks)(hD:G.h₀.get? D=none)(l:s.heap.PlainList D vs)(l':h'.PlainList D vs')(hs:Heap.SameBut D s.heap h'):bl G [D] s { s with heap:=h' }:=by
 obtain⟨n,e⟩:=id l;refine⟨⟨rfl,rfl⟩,dN (aR hs),B.but (aR hs) (fun a m=>by rcases aV m with rfl;exact hD) (fun a m o q=>?_),p,fun b m e'=>bA (fun o q=>aR hs b o m q) e'⟩;rcases aV m with rfl
 rw[e]at q;have q:=aC q;subst q;exact ir rfl rfl
def JK (x L R nb:Nat):aB:=[(3,aa x),(4,aa L),(5,aa R),(2,aa nb)]
def Lj (G:GC)(f D ca ci cn:Addr)(nb:Nat)(fd:FuncData)(body:dY)(k:Nat):Prop:=
 ∀{A:Around}{s:Shared}{xs:aH}{x L R:Nat}{vals:eU}{vs:Array Value},A.handled=none->A.depth+k<recursionLimit->A.units+3*(k+1)+100<cLine->aX G s.heap->0<s.toks ->
   sH G s.heap f D ca ci cn nb fd body->s.heap.PlainList D vs->IV vs.toList xs->IV vals [x,L,R]->L<R->R<=xs.length->R-L<=2^k->nb*xs.length<=2^26->x<2^(nb*(R-L)) ->
   ∀(Q:bg)(E:bg),(∀s' vs',bl G [D] s s'->s'.heap.PlainList D vs'->IV vs'.toList (xs.take L++cH nb x (R-L)++xs.drop R)->Q .none s')->wpAny (br G) A (call (.ref f) vals) Q E s
theorem tT {L m R:Nat}(h1:L<=m)(h2:m<=R):m-L+(R-m)=R-L:=(Nat.add_comm _ _).trans (Nat.sub_add_sub_cancel h2 h1)
theorem JP (h:L<R)(h1:¬ L+1=R)(b:L+R<2*m+2):L<m:=by lia
theorem JQ (h:L<R)(a:2*m<=L+R):m<R:=by lia
theorem JR (hk:R<=2*p+L)(a:2*m<=L+R):m<=p+L:=by lia
theorem JS (hk:R<=2*p+L)(b:L+R<2*m+2):R<=p+m:=by lia
theorem CY (h:L<R)(h1:¬ L+1=R)(hk:R-L<=2*p)(hm:m=(L+R) / 2):L<m/\m<R/\m-L<=p/\R-m<=p:=by have a:2*m<=L+R:=hm▸Nat.mul_div_le _ _;have b:L+R<2*m+2:=hm▸Nat.lt_mul_div_succ (L+R) (by decide);clear hm;have c:=Nat.le_add_of_sub_le hk;exact⟨JP h h1 b,JQ h a,Nat.sub_le_of_le_add (JR c a),Nat.sub_le_of_le_add (JS c b)⟩
set_option tactic.hygienic true in
theorem vv (ok:oI G)(nm:∀(i:Nat) (x:Str),jy[i]?=some x->G.names[i]?=some x){f D ca ci cn:Addr}{nb:Nat}{fd:FuncData}{body:dY}
  (hb:oo ⟨G.names,jr,[]⟩ body=true)(hsc:fd.scope.names=jr)(hbind:∀a b c,bindArgs fd ⟨[a,b,c],[]⟩=pure [(("x" : Str),a),(("L" : Str),b),(("R" : Str),c)])
  (h0:G.h₀.get? ca=none/\G.h₀.get? ci=none/\G.h₀.get? cn=none/\G.h₀.get? D=none)(hne:ca≠ci/\ci≠cn/\ca≠cn)(hnb:0<nb){k:Nat}(ih:∀j,k=j+1->Lj G f D ca ci cn nb fd body j):Lj G f D ca ci cn nb fd body k:=by
 intro A s xs x L R vals vs hh hr hu B p C l iv ivv hLR hR hk hsz hx Q E q;obtain⟨t1,t2,t3,rfl⟩:=ivv.three;obtain⟨hca,hci,hcn,hD⟩:=h0;obtain⟨tn,Cn⟩:=C.n;have neD':∀y c,([("n",cn),("inner",ci),("a_digits",ca)]:List (Str × Addr)).lookup y=some c->c≠D:=fun y c h=>iY (P:=fun _ c=>c≠D) h (dL Cn l) (dL C.i l) (dL C.a l);refine rR (O:=[ca,ci,cn,D]) (xs:=["x", "L", "R"]) (ρ:=JK x L R nb) ok hh (by lia) B p (fun a m=>?_) C.N (hbind _ _ _) (fun y hy=>?_) (fun y hy=>?_) (fun y c h=>?_) (fun y z c h h'=>?_) (fun y hy=>?_) (fun n y d h1 h2 h3=>?_) (fun n y d h1 h2 h3=>?_) fun env s1 e1 e2 e3 X1 I1 E'=>?_
 .rcases bM m with rfl|m
  .exact fq C.a
  .rcases bM m with rfl|m
   .exact fq C.i
   .rcases bM m with rfl|m
    .exact fq Cn
    .obtain rfl:=aV m;obtain⟨n,e⟩:=l;exact⟨_,e, .inl (by show Value.type _≠_;nofun)⟩
 .rw[hsc];exact eC (bQ (show(["x", "L", "R"]:List Str).all (fun y=>jr.lookup y==some .local)=true from rfl) y hy)
 .rw[hsc]at hy;exact bQ (show jr.all (fun p=>decide (p.2≠.cell))=true from rfl) y hy |> bX
 .exact iY (P:=fun _ c=>c∈([ca,ci,cn,D]:a9)/\G.h₀.get? c=none) h ⟨.tail _ (.tail _ (.head _)),hcn⟩ ⟨.tail _ (.head _),hci⟩ ⟨.head _,hca⟩
 .exact zA hne.1 hne.2.1 hne.2.2 h h'
 .rw[hsc]at hy;exact yV (P:=fun y=>∃c v,([("n",cn),("inner",ci),("a_digits",ca)]:List (Str × Addr)).lookup y=some c/\s.heap.IsCell c v) (A:="a_digits") (B:="inner") (C:="n") rfl hy ⟨_,_,rfl,C.a⟩ ⟨_,_,rfl,C.i⟩ ⟨_,_,rfl,Cn⟩
 .revert h1 h2;refine oD h3 ?_ ?_ ?_ ?_
  .intro h1 _;obtain rfl:=bT nm h1 rfl;exact⟨_,rfl, .int⟩
  .intro h1 _;obtain rfl:=bT nm h1 rfl;exact⟨_,rfl, .int⟩
  .intro h1 _;obtain rfl:=bT nm h1 rfl;exact⟨_,rfl, .int⟩
  .intro h1 h2;obtain rfl:=bT nm h1 rfl;rw[hsc]at h2;exact absurd h2 (by decide)
 .revert h1 h2;refine oD h3 ?_ ?_ ?_ ?_
  .intro h1 h2;obtain rfl:=bT nm h1 rfl;rw[hsc]at h2;exact absurd h2 (by decide)
  .intro h1 h2;obtain rfl:=bT nm h1 rfl;rw[hsc]at h2;exact absurd h2 (by decide)
  .intro h1 h2;obtain rfl:=bT nm h1 rfl;rw[hsc]at h2;exact absurd h2 (by decide)
  .intro h1 _;obtain rfl:=bT nm h1 rfl;exact⟨cn,_,rfl,Cn, .int⟩
 .have hI:=vu hb;clear hb;cases hI;rename_i hb hr
  .refine qZ hb fun b1 b2 b3 b4 b5=>jj hr fun b6 b7 b8 b9 b11 b13=>?_;have b2:=eC b2;have b5:=iw b5;have X:cy G (A.deeper env) S0 ⟨G.names,jr,[]⟩ env dG:=⟨rfl,by rw[e1,hsc],fun n=>by simp,by rw[e1];exact C.N.kind,Cp,vm,hh,by show A.units+3+100<cLine;lia⟩;have kd:∀y,env.kindOf y=jr.lookup y:=fun y=>by show env.scope.names.lookup y=_;rw[e1,hsc]
   have hfn:=X.fn;have hw:(2:Nat)^26<2^64:=by decide
   have hm1:nb*(R-L)<=nb*xs.length:=Nat.mul_le_mul_left _ (az (Nat.sub_le _ _) hR);have hm2:R<=nb*xs.length:=az hR (Nat.le_mul_of_pos_left _ hnb);have h26:(2:Nat)^26=67108864:=by decide
   have ne_loc:env.locals∉[D]:=fun m=>by obtain⟨n,e⟩:=l;rw[aV m]at e3;rw[e3]at e;exact nn e
   have ldD:∀{s2:Shared}{Q:bg}{E:bg}{np:Pos},s2.heap.IsCell ca (some (.ref D))->Q (.ref D) s2->wpAny (br G) (A.deeper env) (eval (.Name "a_digits" np) env) Q E s2:=fun h q =>
    wpAny_Name (wpAny_loadName_free hfn ((kd _).trans rfl) (by rw[e2];rfl) h q) rfl
   rw[arm_execs_cons];refine aN (wpAny_If ((aD Fh X b1).2 (decide (L+1=R)) ?_ s1 I1 _ _ fun s2 x2=>?_))
   .exact bi (bi (ag (x:=aa L) (y:=aa 1) (z:=aa (L+1)) rfl rfl (eF L 1)) (bi (ab (show(JK x L R nb).get 5=some (aa R)from rfl)) (ln _ _))) rfl
   have I2:=I1.ext x2;have C2:=(C.keep X1.keep).keep x2.keep;have l2:s2.heap.PlainList D vs:=bq (bq l X1.keep) x2.keep;by_cases hone:L+1=R
   .refine y7 (eD hone) ?_;subst b2;rw[arm_execs_cons];refine aN (wpAny_Assign_Subscript ((aD (.v 3) X b4).1 (aa x) rfl s2 I2 _ _ fun v s3 x3 r3=>?_) (dJ b5 _ _ _));obtain⟨tv,rfl⟩:=r3.int_inv;have I3:=I2.ext x3;refine ldD (fc C2.a x3.keep) ((aD (.v 4) X b3).1 (aa L) rfl s3 I3 _ _ fun iv' s4 x4 r4=>?_);obtain⟨ti,rfl⟩:=r4.int_inv;have I4:=I3.ext x4;have l4:s4.heap.PlainList D vs:=bq (bq l2 x3.keep) x4.keep;have hvl:vs.size=xs.length:=by have:=iv.1;simpa using this
    refine AY l4 (by lia) (by lia) (by rw[hvl];lia) fun h' l5 hs=>?_;have x5:=bl.of_list I4.base I4.pos hD l4 l5 hs;rw[arm_execs_cons];refine aN (wpAny_Return_none (bB (bB ?_)));refine q _ _ ((((X1.sext.trans x2.sext).trans x3.sext).trans x4.sext).trans x5) l5 ?_;rw[Array.toList_setIfInBounds,kj];have hx':x<2^nb:=by rw[<- hone]at hx;simpa using hx
    have e:xs.take L++cH nb x (R-L)++xs.drop R=xs.set L x:=by rw[<- hone,Nat.add_sub_cancel_left,pe _ _ hx',List.set_eq_take_append_cons_drop,if_pos (iu hLR hR)];simp
    rw[e];exact iv.set L x tv
   .refine CE (fun c=>hone (bX c)) ?_;refine wpAny_execs_nil ?_;show wpAny _ _ (execs _ env) _ _ _;obtain⟨j,rfl⟩:∃j,k=j+1:=by
     cases k with
     |zero=>simp at hk;lia
     |succ j=>exact⟨j,rfl⟩
    have h2k:2^(j+1)=2*2^j:=by rw[Nat.pow_succ,Nat.mul_comm]
    generalize hmid:(L+R) / 2^1=mid;have hmid':mid=(L+R) / 2:=by rw[<- hmid]
    obtain⟨g1,g2,g3,g4⟩:=CY hLR hone (h2k▸hk) hmid';generalize hsh:(mid-L)*nb=sh;have hsh':sh=nb*(mid-L):=by rw[<- hsh,Nat.mul_comm]
    have hsz':sh+nb*(R-mid)=nb*(R-L):=by rw[hsh',<- Nat.mul_add,tT (gp g1) (gp g2)]
    have hup:x / 2^sh<2^(nb*(R-mid)):=by rw[Nat.div_lt_iff_lt_mul (Nat.two_pow_pos _),<- Nat.pow_add,Nat.add_comm,hsz'];exact hx
    have hlo:x % 2^sh<2^(nb*(mid-L)):=by rw[<- hsh'];exact Nat.mod_lt _ (Nat.two_pow_pos _)
    have hnb26:nb<=2^26:=az (Nat.le_mul_of_pos_right _ (iu (Nat.zero_lt_of_lt g2) hR)) hsz;rw[arm_execs_cons];refine aN (rN X I2 b6 (ag (ag (ab rfl) (ab rfl) (eF L R)) aq (mT (L+R) 1)) fun s3 x3 I3=>?_);show wpAny _ _ (execs _ env) _ _ _;rw[hmid]at I3;rw[arm_execs_cons];refine aN (rN X I3 b7 (ag (ag (ab rfl) (ab rfl) (aQ (gp g1))) (ab rfl) (gj (fy (az (Nat.sub_le _ _) (az (gp g2) (az hm2 hsz))) hw) (fy hnb26 hw))) fun s4 x4 I4=>?_);show wpAny _ _ (execs _ env) _ _ _;rw[hsh]at I4;rw[arm_execs_cons];refine aN (rN X I4 b8 (ag (ab rfl) (ab rfl) (mT x sh)) fun s5 x5 I5=>?_);show wpAny _ _ (execs _ env) _ _ _;rw[arm_execs_cons];refine aN (rN X I5 b9 (ag (ab rfl) (ag (ab rfl) (ab rfl) (mS hup (az (Nat.le_of_eq ((Nat.add_comm _ _).trans hsz')) (az hm1 (az hsz (by decide)))))) (sV x sh)) fun s6 x6 I6=>?_);show wpAny _ _ (execs _ env) _ _ _;have x26:bl G [env.locals] s2 s6:=((x3.trans x4).trans x5).trans x6;obtain⟨m2,hns2,_⟩:=id I2.envr.ns;have C6:=C2.but x26.keep (zv hns2);have l6:s6.heap.PlainList D vs:=x26.keep.plain (fun m=>ne_loc (by rw[aV m];exact List.mem_singleton.mpr rfl)) l2;have hcell:∀y c,env.cells.lookup y=some c->c≠D:=fun y c h=>neD' y c (by rw[<- e2];exact h);have atf:∀{h:Heap}{body':dY},sH G h f D ca ci cn nb fd body'->∃o fd',h.get? f=some o/\o.data=.func fd':=fun C=>let⟨o,e,d⟩:=C.N.at';⟨o,_,e,d⟩;rw[arm_execs_cons];refine aN (G4 X I6 b11 (.inl ((kd _).trans rfl)) (by rw[e2];rfl) C6.i (atf C6) (ds:=[aa (x % 2^sh),aa L,aa mid]) rfl fun s7 vs7 x7 r7=>?_);have C7:=C6.keep x7.keep;have l7:=bq l6 x7.keep;have I7:=I6.ext x7;refine ih j rfl (A:=A.deeper env) hh (by show A.depth+1+j<_;lia) (by show A.units+3+3*(j+1)+100<_;lia) x7.base x7.pos C7 l7 iv (IV.of (ns:=[x % 2^sh,L,mid]) r7) g1 (az (gp g2) hR) g3 hsz hlo _ _ fun s8 vs8 x8 l8 iv8=>?_;have C8:=C7.but x8.keep (sv l7);have I8:=I7.turn x8 l7 l8 (by simp) hcell;show wpAny _ _ (execs _ env) _ _ _;rw[arm_execs_cons];refine aN (G4 X I8 b13 (.inl ((kd _).trans rfl)) (by rw[e2];rfl) C8.i (atf C8) (ds:=[aa (x / 2^sh),aa mid,aa R]) rfl fun s9 vs9 x9 r9=>?_);have C9:=C8.keep x9.keep;have l9:=bq l8 x9.keep;have hlen:(xs.take L++cH nb (x % 2^sh) (mid-L)++xs.drop mid).length=xs.length:=by rw[lla,lla,List.length_take,List.length_drop,fI,Nat.min_eq_left (az (gp (Nat.lt_trans g1 g2)) hR),Nat.add_sub_cancel' (gp g1),Nat.add_sub_cancel' (az (gp g2) hR)]
    refine ih j rfl (A:=A.deeper env) hh (by show A.depth+1+j<_;lia) (by show A.units+3+3*(j+1)+100<_;lia) x9.base x9.pos C9 l9 iv8 (IV.of (ns:=[x / 2^sh,mid,R]) r9) g2 (by rw[hlen];exact hR) g4 (by rw[hlen];exact hsz) hup _ _ fun s10 vs10 x10 l10 iv10=>?_;show wpAny _ _ (execs _ env) _ _ _;refine wpAny_execs_nil (q s10 vs10 ?_ l10 ?_)
    .have sub1:∀a∈[env.locals],a∈[env.locals,D]:=fun a m=>by rcases aV m with rfl;simp
     have sub2:∀a∈[D],a∈[env.locals,D]:=fun a m=>by rcases aV m with rfl;simp
     exact bl.drop ((((((X1.sext.trans x2.sext).trans (x26.mono sub1)).trans x7.sext).trans (x8.mono sub2)).trans x9.sext).trans (x10.mono sub2)) e3
    .rw[yd (gp g1) (gp g2) hR (fI ..)]at iv10;have e:cH nb (x % 2^sh) (mid-L)++cH nb (x / 2^sh) (R-mid)=cH nb x (R-L):=by rw[hsh',kG,tT (gp g1) (gp g2)]
     rw[e]at iv10;exact iv10
end
end
section
section
variable {G:GC}{A:Around}{s:Shared}{O:a9}
theorem yZ (ok:oI G)(nm:∀(i:Nat) (x:Str),jy[i]?=some x->G.names[i]?=some x){f D ca ci cn:Addr}{nb:Nat}{fd:FuncData}{body:dY}
  (hb:oo ⟨G.names,jr,[]⟩ body=true)(hsc:fd.scope.names=jr)(hbind:∀a b c,bindArgs fd ⟨[a,b,c],[]⟩=pure [(("x" : Str),a),(("L" : Str),b),(("R" : Str),c)])
  (h0:G.h₀.get? ca=none/\G.h₀.get? ci=none/\G.h₀.get? cn=none/\G.h₀.get? D=none)(hne:ca≠ci/\ci≠cn/\ca≠cn)(hnb:0<nb):∀k,Lj G f D ca ci cn nb fd body k
 |0=>vv ok nm hb hsc hbind h0 hne hnb fun j e=>by cases e
 |k+1=>vv ok nm hb hsc hbind h0 hne hnb fun j e=>by cases e;exact yZ ok nm hb hsc hbind h0 hne hnb k
theorem tB {u:Tok}{vs:Array Value}{xs:List D}{Q E:bg}(la:s.heap.IsList a vs)(ra:ai G.w O s.heap vs.toList xs)
  (h0:0<=n)(h1:n<=16777216)(hl:xs.length*n.toNat<=16777216)
  (q:∀h' (ws:Array Value),(∀b o,s.heap.get? b=some o->h'.get? b=some o)->h'.PlainList s.heap.objs.size ws->ai G.w O h' ws.toList (List.replicate n.toNat xs).flatten->Q (.ref s.heap.objs.size) { s with heap:=h' }):wpAny (br G) A (binaryOp .Mult (.ref a) (.int n u)) Q E s:=by
 obtain⟨⟨cls,d,data,sl⟩,ho,hcl,k,hd⟩:=id la;simp only at hcl hd;subst hcl hd;have e63:(2:Int)^63=9223372036854775808:=by decide
 have e24:(2:Nat)^24=16777216:=by decide
 have e1:=ra.length;simp only[jR]at e1;have hsz':vs.size*n.toNat<=2^24:=by rw[e1,e24];exact hl
 refine wpAny_binaryOp_repeat_ref (T:="list") (U:="int") (by decide) ⟨_,ho,rfl⟩ (fun s'=>typeIs_int s' n u) noFill_list_mul F.fills_int_mul F.slot_int_rmul repeat_list F.slot_int_index.lookup
  (call_meets F.slot_int_rmul (typeIs_int s n u) F.entry_int_rmul (F.args_int_rmul_2 _ _) (lm_int_rmul_list_any n u a vs k d sl)
   ⟨ho,rfl,⟨_,ho,rfl⟩,call_meets F.slot_list_mul ⟨_,ho,rfl⟩ F.entry_list_mul (F.args_list_mul_2 _ _)
    (lm_list_mul_any a vs k d sl n u (by simp[Builtin.List.listFitsIndex];lia) (by lia) (by simp[Builtin.List.listTooLong,sizeLine];assumption))
    ⟨ho, ?_⟩⟩)
 have hk:∀o b' o',s.heap.get? b'=some o'->(s.heap.push o).get? b'=some o':=fun o b' o' e=>fO _ e;refine q _ _ (hk _) ⟨_,ie _ rfl⟩ ?_;rw[listMul_foldl_if]
 simpa using(ai.rep ra n.toNat).keep (.of (hk _))
end
end
section
section
variable {G:GC}{A:Around}
theorem lA {Oc:a9}{s:Shared}{vs:eU}{ds:List D}{Q:bg}{E:bg}(ok:oI G)(hh:A.handled=none)(hr:A.depth<recursionLimit)(B:aX G s.heap)(p:0<s.toks)(ov:dB Oc s.heap)(r:ai G.w Oc s.heap vs ds)
  (Df:gP G a fd body xs)(hf0:hJ G.names f fd xs=true)(hl:ds.length=f.params.length)
  (k:∀s1 O M,FI G (A.deeper (callEnvC fd s.heap.objs.size a)) (callEnvC fd s.heap.objs.size a) ⟨f.own,fun _=>none⟩ O Oc M (bx [] f.params ds) s1->(∀b∈M,s.heap.get? b=none)->Ext G s s1 ->
   ∀E':bg,(∀e s',wpAny (br G) (A.deeper (callEnvC fd s.heap.objs.size a)) (leaving (callEnvC fd s.heap.objs.size a) e) (fun _ s''=>E e s'') (fun e' s''=>E e' s'') s'->E' e s')->wpAny (br G) (A.deeper (callEnvC fd s.heap.objs.size a)) (execs body (callEnvC fd s.heap.objs.size a)) (fun fl s'=>Q (match fl with|.ret v=>v|_=>.none) s') E' s1):wpAny (br G) A (call (.ref a) vs) Q E s:=by
 obtain⟨⟨⟨⟨⟨h2,h3⟩,h4⟩,h5⟩,h6⟩,h7⟩:=pE hf0;have hpl:xs.length=f.params.length:=by have:=congrArg List.length h4;simpa using this.symm
 obtain⟨o,ho,hdat⟩:=Df.at';have hvl:vs.length=xs.length:=by rw[r.length,hl,hpl]
 refine wpAny_call (codeAny_call_function hr (B.keep _ _ ho) hdat Df.co Df.gen Df.body (Df.code.keeps B.keep) ?_);rw[Df.bind vs hvl,Df.clo];refine bB (wpAny_with_toks (gC s.toks) (wpAny_newFunctionEnv_cells Df.kind (fun y hy=>?_) fun env he s1 x tk=>?_))
 .obtain⟨y1,y2⟩:=y;have hm:=(List.of_mem_zip hy).1;have:=bQ h7 y1 hm;rcases Bool.or_eq_true_iff.mp this with e|e
  .exact .inl (by simpa using e)
  .have e:fd.scope.names.lookup y1=some .cell:=by simpa using e
   refine .inr ⟨e, ?_⟩;obtain⟨c,hc⟩:=cb _ (s.heap.objs.size+1) _ (mem_of_lookup e);obtain⟨c',e'⟩:=cg hc;exact Option.isSome_iff_exists.mpr ⟨c',e'⟩
 .have he:env=callEnvC fd s.heap.objs.size a:=he;subst he;refine⟨(ok.lim.keeps B.keep).keeps x.toInCall.keep,codeAny_func ?_⟩;obtain⟨O,M,FF,hM,X⟩:=uV (A:=A.deeper (callEnvC fd s.heap.objs.size a)) ok hh B (iu p tk) ov r Df hf0 hl x;exact k s1 O M FF hM X _ fun _ _ h=>h
theorem oW {env:Env}{ρ:aB}{c:Addr}{v:Value}{Q:Unit->Shared->Prop}{E:bg}(I:di G A env dG O ρ s)(nm:G.names[n]?=some x)(hk:env.kindOf x=some .cell)(hc:env.cells.lookup x=some c)(hg:ρ.get n=none)
  (q:∀h',h'.IsCell c (some v)->bl G [c] s { s with heap:=h' }->di G A env dG O ρ { s with heap:=h' }->Q () { s with heap:=h' }):wpAny (br G) A (storeName env x v) Q E s:=by
 obtain⟨c',v0,hc',hq⟩:=I.envr.ce x (.inl hk);rw[hc]at hc';obtain rfl:=aC hc';refine wpAny_storeName_cell I.envr.fn hk hc hq fun h' hn' hs'=>?_;obtain⟨oc,e1,e2⟩:=id hq;have ht:bG O [c] s.heap:=fun a ma o e=>by
  rcases aV ma with rfl
  rw[e1]at e;obtain rfl:=aC e;exact⟨lG e2,fun _=>(I.envr.cin _ _ hc).1⟩
 have hkb:aI [c] s.heap h':=dN (aR hs');have B:aX G h':=I.base.but (aR hs') (fun a ma=>by rcases aV ma with rfl;exact(I.envr.cin _ _ hc).2) fun a ma o e=>(ht a ma o e).1;have ov:dB O h':=I.ov.but hkb fun a ma=>by
  rcases aV ma with rfl
  obtain⟨o,e1,e2⟩:=hn';exact⟨o,e1, .inr fun vs q=>by rw[e2]at q;cases q⟩
 obtain⟨m,hm,hmv⟩:=I.envr.ns;have loc_ne:env.locals∉[c]:=fun ma=>by
  rcases aV ma with e
  obtain⟨o,es,ep,e3,e4,_⟩:=hm;rw[e,e1]at e3;obtain rfl:=aC e3;rw[e2]at e4;cases e4
 refine q h' hn' ⟨⟨rfl,rfl⟩,hkb,B,I.pos,fun b mb e=>bA (fun o q=>aR hs' b o mb q) e⟩ ⟨I.ok,I.hh,B,I.pos,ov,⟨I.envr.fn,I.envr.gl,I.envr.bi,I.envr.lin,I.envr.lfr,I.envr.oin,I.envr.cin,I.envr.inj, ?_,⟨m,hkb.ns loc_ne hm, ?_⟩, ?_⟩⟩
 .intro y hy;obtain⟨c',v',e,qc⟩:=I.envr.ce y hy;by_cases hcc:c'=c
  .subst hcc;exact⟨_,_,e,hn'⟩
  .exact⟨c',v',e,hkb.cell (by simpa using hcc) qc⟩
 .intro n' y d' h1 h2 h3;obtain⟨v',e,r'⟩:=hmv n' y d' h1 h2 h3;rw[fC]at r';exact⟨v',e,by rw[fC];exact av.but r' hkb ht⟩
 .intro n' y d' h1 h2 h3;obtain⟨c',v',e,qc,r'⟩:=I.envr.cl n' y d' h1 h2 h3;have hcc:c'∉[c]:=fun ma=>by
   rcases aV ma with rfl
   have:=I.envr.inj _ _ _ e hc;subst this;have:=j5 I.ok.nd h1 nm;subst this;rw[hg]at h3;exact nn h3
  rw[fC]at r';exact⟨c',v',e,hkb.cell hcc qc,by rw[fC];exact av.but r' hkb ht⟩
end
end
section
section
def eI (p:Arguments)(xs:List Str):Bool:=bK p.posonlyargs <| gF p.vararg <| bK p.kwonlyargs <| bK p.kw_defaults <| gF p.kwarg <| bK p.defaults <| (p.args.map (·.arg)==xs&&p.args.all (·.annotation.isNone))
theorem vc:∀{l:List α},(∀x∈l,f x=g x)->l.filterMap f=l.filterMap g
 |[],_=>rfl
 |x::l,h=>by rw[List.filterMap_cons,List.filterMap_cons,h x dX,vc fun y m=>h y (dP _ m)]
theorem yt {xs:List Str}{vals:eU}(hn:xs.Nodup)(hl:vals.length=xs.length):(xs.filterMap fun n=>((xs.zip vals).lookup n).map fun v=>(n,v))=xs.zip vals:=by
 induction xs generalizing vals with
 |nil=>rfl
 |cons x xs ih =>
  cases vals with
  |nil=>cases hl
  |cons v vals =>
   obtain⟨h1,h2⟩:=List.nodup_cons.mp hn;have hl:vals.length=xs.length:=by simpa using hl
   have e:(xs.filterMap fun n=>(((x,v)::xs.zip vals).lookup n).map fun v=>(n,v))=xs.filterMap fun n=>((xs.zip vals).lookup n).map fun v=>(n,v) :=
    vc fun n hn=>by have:(n==x)=false:=beq_eq_false_iff_ne.mpr fun q=>h1 (q▸hn);rw[List.lookup_cons,this]
   rw[List.zip_cons_cons,List.filterMap_cons,e,ih h2 hl];simp
theorem EA {xs:List Str}{vals:eU}(hl:vals.length=xs.length):∀n∈xs,((xs.zip vals).lookup n).isNone=false:=by
 induction xs generalizing vals with
 |nil=>intro n h;cases h
 |cons x xs ih =>
  cases vals with
  |nil=>cases hl
  |cons v vals =>
   intro n h;rw[List.zip_cons_cons,List.lookup_cons];cases hb:n==x with
   |true=>rfl
   |false =>
    rcases bM h with rfl|h
    .simp at hb
    .exact ih (by simpa using hl) n h
theorem JN (h:c=false):(if c=true then X else Z)=Z:=if_neg (by rw[h];exact nP)
theorem Jo (l:List α)(n:Nat):l.zip (([]:List β).drop n)=[]:=by rw[List.drop_nil,List.zip_nil_right]
theorem Fy {F:α->β->Sem (ForInStep β)}{k:β->Sem γ}{r:Sem γ}(hl:l=[])(h:k i=r):(forIn l i F >>= k)=r:=by subst hl;exact h
theorem nH (h:eI p xs=true):∃as,p=⟨[],as,none,[],[],none,[]⟩/\as.map (·.arg)=xs/\as.all (·.annotation.isNone)=true:=by obtain⟨a,b,c,d,e,f,g⟩:=p;have h:(bK a <| gF c <| bK d <| bK e <| gF f <| bK g <| (b.map (·.arg)==xs&&b.all (·.annotation.isNone)))=true:=h;refine aJ h fun h=>cZ h fun h=>aJ h fun h=>aJ h fun h=>cZ h fun h=>aJ h fun h=>?_;obtain⟨h1,h2⟩:=bH h;exact⟨_,rfl,eC h1,h2⟩
theorem kD {fd:FuncData}{xs:List Str}(hp:eI fd.params xs=true)(hn:xs.Nodup)(hd:fd.defaults=.none){vals:eU}(hl:vals.length=xs.length):bindArgs fd ⟨vals,[]⟩=pure (xs.zip vals):=by
 obtain⟨as,hpar,rfl,_⟩:=nH hp;have e:bindArgs fd ⟨vals,[]⟩=bindArgs { fd with params:=⟨[],as,none,[],[],none,[]⟩,defaults:=.none } ⟨vals,[]⟩:=by rw[<- hpar,<- hd]
 have key:∀xs:List Str,xs.Nodup->vals.length=xs.length->(!((xs.take (xs.length-(([]:eU).drop (([]:eU).length-xs.length)).length)).filter fun n=>((xs.zip vals).lookup n).isNone).isEmpty)=false:=fun xs hn hl=>by rw[List.drop_nil,List.filter_eq_nil_iff.mpr fun n hn=>by rw[EA hl n (List.mem_of_mem_take hn)];exact nP];rfl
 refine e.trans ((JN ?_).trans ((JN (key _ hn hl)).trans ?_))
 .show(decide (vals.length > (as.map (·.arg)).length)&&true)=false;rw[hl,fH (Nat.lt_irrefl _)];rfl
 .refine Fy (α:=Str × Value) (Jo _ _) ?_;have z:∀xs:List Str,xs.Nodup->vals.length=xs.length->(pure ((xs++[]).filterMap fun n=>((xs.zip vals).lookup n).map fun v=>(n,v)):Sem (List (Str × Value)))=pure (xs.zip vals):=fun xs hn hl=>by rw[List.append_nil,yt hn hl]
  exact z _ hn hl
end
section
variable {G:GC}{A:Around}
noncomputable abbrev G1:E:=.b .FloorDiv (.b .Sub (.b .Add (.m .bitlen (.v 11) .n) (.v 2)) (.l (.int 1))) (.v 2)
def Cu (c:Cx)(t:wC)(y0:Str)(l0 r0:Expr)(nmI:Str)(params:Arguments)(ib:dY)(sc:Scope)(bnd:Str)(ipos:Pos)(ts:Expr)(y1:Str)(a1:dU)(y2:Str):Bool:=(y0==("a_digits" : Str)&&bn c (.i (.c (.l (.int 0)) .n)) l0&&bn c G1 r0&&nmI==("inner" : Str)&&bnd==("inner" : Str)&&eI params ["x", "L", "R"])&&(decide (sc.names=jr)&&decide (sc.kind=.function)&&!sc.isCoroutine&&!sc.isGenerator&&(docOf ib).isNone&&decide (ipos=t.pos))&&(oo ⟨c.nm,jr,[]⟩ ib&&bn c (.v 11) ts&&y1==("inner" : Str)&&dC c (.c (.v 11) (.c (.l (.int 0)) (.c (.f .len (.c (.v 0) .n)) .n))) a1&&y2==("a_digits" : Str))
inductive Jz (c:Cx)(t:wC):dY->Prop
 |mk {y0:Str}{np0:Pos}{l0:Expr}{r0:Expr}{bp:Pos}{ps1:Pos}{nmI:Str}{params:Arguments}{ib:dY}{sc:Scope}{bnd:Str}{ipos:Pos}{ts:Expr}{y1:Str}{np1:Pos}{a1:dU}{cp1:Pos}{xp1:Pos}{ips:Pos}{y2:Str}{np2:Pos}{rp2:Pos}(h:Cu c t y0 l0 r0 nmI params ib sc bnd ipos ts y1 a1 y2=true):Jz c t ([.Assign [.Name y0 np0] (.BinOp l0 .Mult r0 bp) ps1, .FunctionDef nmI params ib [] none [] sc none bnd ipos, .If ts [.Expr (.Call (.Name y1 np1) a1 [] cp1) xp1] [] ips, .Return (some (.Name y2 np2)) rp2])
def tm (c:Cx)(t:wC)(b:dY):Bool:=
 aZ b fun s1 r=>aZ r fun s2 r=>aZ r fun s3 r=>gE r fun s4=>xD s1 fun y0 v=>zd v .Mult fun l0 r0=>Do s2 fun nmI params ib sc bnd ipos=>ze s3 fun ts b=>gE b fun s=>tG s fun y1 a1=>qd s4 fun e=>bD e fun y2 _=>Cu c t y0 l0 r0 nmI params ib sc bnd ipos ts y1 a1 y2
theorem xm (h:tm c t b=true):Jz c t b:=by refine ar h fun s1 r h=>ar h fun s2 r h=>ar h fun s3 r h=>aS h fun s4 h=>ny h fun y0 p0 v p1 h=>kM h fun l0 r0 p2 h=>qb h fun nmI params ib sc bnd ipos h=>kN h fun ts b p3 h=>aS h fun s h=>lL h fun y1 p4 a1 p5 p6 h=>gV h fun e p7 h=>aF h fun y2 p8 h=>.mk h
noncomputable def fK:List (Str × NameKind):=[("a", .local),("n", .cell),("a_digits", .cell),("inner", .cell),("len", .globalImplicit)]
theorem q6 (h:eI params xs=true)(env:Env):params.defaults=[]/\params.kw_defaults=[]/\annTrees params none env=[]:=by
 obtain⟨as,rfl,_,h2⟩:=nH h;refine⟨rfl,rfl, ?_⟩;unfold annTrees;simp only[List.append_nil,Option.toList_none];have:∀l:List Arg,(l.all fun x=>x.annotation.isNone)=true->annotationsOf l env=[]:=by
  intro l
  induction l with
  |nil=>intro _;rfl
  |cons x l ih =>
   intro h;obtain⟨x1,x2,x3⟩:=x;simp only[List.all_cons,g9,Option.isNone_iff_eq_none]at h;obtain⟨rfl,h⟩:=h;exact ih h
 rw[this as h2];rfl
noncomputable def yE (look:Str->Option Addr):List (Str × NameKind)->List (Str × Addr)->Option (List (Str × Addr))
 |[],acc=>some acc
 |p::r,acc=>if(p.2==.free)=true then(look p.1).bind fun c=>yE look r ((p.1,c)::acc)else yE look r acc
theorem oX {env:Env}{look:Str->Option Addr}(hl:∀y c,look y=some c->env.cells.lookup y=some c) :
  ∀{names:List (Str × NameKind)}{acc cl:List (Str × Addr)},yE look names acc=some cl->forIn (m:=Sem) names acc (fun x cells=>if(x.2==.free)=true then(do let a <- cellOf env x.1;pure (.yield ((x.1,a)::cells)))else pure (.yield cells))=pure cl
 |[],acc,cl,h=>by rw[List.forIn_nil];exact congrArg pure (aC h)
 |p::r,acc,cl,h=>by
  rw[List.forIn_cons];by_cases hk:(p.2==.free)=true
  .refine au ((if_pos hk).symm.trans h) fun c hc h=>?_;have e:cellOf env p.1=pure c:=by show(match env.cells.lookup p.1 with|some a=>pure a|none=>_)=_;rw[hl _ _ hc]
   rw[if_pos hk,e];exact oX hl h
  .rw[if_neg hk];exact oX hl ((if_neg hk).symm.trans h)
theorem oY {sc:Scope}{env:Env}{nms:List (Str × NameKind)}{tri cl:List (Str × Addr)}(h:sc.names=nms)(hl:∀y c,tri.lookup y=some c->env.cells.lookup y=some c)(hc:yE (fun y=>tri.lookup y) nms []=some cl):closureFor sc env=pure cl:=by unfold closureFor;rw[h];exact congrArg (· >>= fun x=>pure x) (oX hl hc)
theorem uB (h:sc.names=jr)(h1:env.cells.lookup ("a_digits" : Str)=some ca)(h2:env.cells.lookup ("inner" : Str)=some ci)(h3:env.cells.lookup ("n" : Str)=some cn) :
  closureFor sc env=pure [(("n" : Str),cn),(("inner" : Str),ci),(("a_digits" : Str),ca)] :=
 oY h (fun y c e=>iY (P:=fun y c=>env.cells.lookup y=some c) e h3 h2 h1) rfl
theorem ql (z:xs.length<=16777216)(ha:a∉O)(l:h.PlainList a vs)(r:ai w O h vs.toList xs):av w O h (.ref a) (.list xs):=
 .list_of z ha l.isList (fun o e=>by obtain⟨n,e'⟩:=l;rw[e]at e';obtain rfl:=aC e';rfl) r
theorem di.learn (I:di G A env dG O ρ s)(nm:G.names[n]?=some x)(hk:env.kindOf x=some .cell)(hc:env.cells.lookup x=some c)(hq:s.heap.IsCell c (some v))(r:av G.w O s.heap v d):di G A env dG O (ρ.set n d) s:=by
 obtain⟨m,hm,hmv⟩:=I.envr.ns;refine⟨I.ok,I.hh,I.base,I.pos,I.ov,⟨I.envr.fn,I.envr.gl,I.envr.bi,I.envr.lin,I.envr.lfr,I.envr.oin,I.envr.cin,I.envr.inj,I.envr.ce,⟨m,hm,fun n' y d' h1 h2 h3=>?_⟩,fun n' y d' h1 h2 h3=>?_⟩⟩
 .rw[aB.get_set]at h3;by_cases e:n'=n
  .subst e;rw[nm]at h1;obtain rfl:=aC h1;rw[hk]at h2;cases h2
  .rw[if_neg e]at h3;exact hmv n' y d' h1 h2 h3
 .rw[aB.get_set]at h3;by_cases e:n'=n
  .subst e;rw[nm]at h1;obtain rfl:=aC h1;rw[if_pos rfl]at h3;obtain rfl:=aC h3;exact⟨c,v,hc,hq,by rw[fC];exact r⟩
  .rw[if_neg e]at h3;exact I.envr.cl n' y d' h1 h2 h3
theorem qL:∀K:Nat,(List.replicate K [aa 0]).flatten=(List.replicate K 0).map aa
 |0=>rfl
 |K+1=>by simp only[List.replicate_succ,List.flatten_cons,qL K,fU];rfl
theorem Fp (h1:ρ.get 11=some (aa x))(h2:ρ.get 2=some (aa nb))(hnb:0<nb)(hnb2:nb<=2^26):ev S0 ρ G1=some (aa ((ib (x:Int)+nb-1) / nb)):=by
 have e0:ev S0 ρ (.m .bitlen (.v 11) .n)=some (aa (ib (x:Int))):=by exact bi (ab h1) (bi (x:=[]) rfl rfl)
 refine ag (ag (ag e0 (ab h2) (eF _ _)) (y:=aa 1) rfl (aQ (by lia))) (ab h2) ?_;have e:cX .FloorDiv (aa (ib (x:Int)+nb-1)) (aa nb)=if(nb:Int) != 0&&decide ((nb:Int).natAbs.log2<9000)then some (.int (((ib (x:Int)+nb-1:Nat):Int).fdiv (nb:Int)))else none:=rfl;rw[e,if_pos]
 .rw[Int.fdiv_eq_ediv_of_nonneg _ (by lia)];norm_cast
 .have h1:((nb:Int) != 0)=true:=by simp;exact Nat.ne_of_gt ‹_›
  have h2:nb.log2<27:=by rw[Nat.log2_lt (by exact Nat.ne_of_gt ‹_›)];exact fy hnb2 (by decide)
  rw[h1,Int.natAbs_natCast];simp;exact rJ ‹_› rfl
theorem BC {a n:Nat}(h:1<=a):n<=a+n-1:=Nat.le_sub_of_add_le (Nat.add_comm 1 n▸Nat.add_le_add_right h n)
theorem yC {a n m q:Nat}(e:m+q=a+n-1)(h:q<n):a<=m:=
 Nat.le_of_add_le_add_right (b:=n) (az (Nat.le_add_of_sub_le (Nat.le_of_eq e.symm)) (Nat.add_le_add_left h m))
set_option tactic.hygienic true in
theorem Ab (ok:oI G)(T:kB G)(nm:∀(i:Nat) (x:Str),jy[i]?=some x->G.names[i]?=some x)(ht:t∈G.tabs)(Df:gP G a fd body ["a", "n"])
  (hout:tm ⟨G.names,fK,[]⟩ t body=true)(hs:fd.scope.names=fK)(hcode:fd.code=.ref t.c)(hq:fd.qualname ++ ".<locals>." ++ ("inner" : Str)=t.qual)
  {Oc:a9}{s:Shared}{vs:eU}{x nb K:Nat}(hh:A.handled=none)(hr:A.depth+30<recursionLimit)(hu:A.units+200<cLine)(B:aX G s.heap)(p:0<s.toks)(ov:dB Oc s.heap)(r:ai G.w Oc s.heap vs [aa x,aa nb])
  (hnb:0<nb)(hnb2:nb<=2^26)(hK:K=(ib (x:Int)+nb-1) / nb) (hsz:nb*K<=2^26)(hK2:K<=2^24):dW G A Oc (call (.ref a) vs) s (.list ((cH nb x K).map aa)):=fun Q E q=>by
 have h26:(2:Nat)^26=67108864:=by decide
 have h24:(2:Nat)^24=16777216:=by decide
 refine lA (f:=⟨[11,2],[], .n⟩) ok hh (by lia) B p ov r Df ?_ rfl fun s1 O M FF hM X1 E' _=>?_
 .unfold hJ;have e1:=nm 11 _ rfl;have e2:=nm 2 _ rfl;simp only[hs,fU,List.map_nil,e1,e2];rfl
 .generalize henv:callEnvC fd s.heap.objs.size a=env at FF ⊢;have e1:env.scope=fd.scope:=by rw[<- henv];rfl
  have e4:env.cells=[(("inner" : Str),s.heap.objs.size+3),(("a_digits" : Str),s.heap.objs.size+2),(("n" : Str),s.heap.objs.size+1)]:=by
   have:env.cells=cellsFrom (s.heap.objs.size+1) fd.scope.names []:=by rw[<- henv];rfl
   rw[this,hs];rfl
  have e5:env.code=.ref t.c:=by rw[<- hcode,<- henv];rfl
  have e6:env.qual=fd.qualname ++ ".<locals>.":=by rw[<- henv];rfl
  generalize hca:s.heap.objs.size+2=ca at e4;generalize hci:s.heap.objs.size+3=ci at e4;generalize hcn:s.heap.objs.size+1=cn at e4;have hne:ca≠ci/\ci≠cn/\ca≠cn:=by rw[<- hca,<- hci,<- hcn];refine⟨?_, ?_, ?_⟩ <;> (intro h;have h:(_:Nat)=_:=h;lia)
  have I1:=FF.inv;have hfn:=I1.envr.fn;have kd:∀y,env.kindOf y=fK.lookup y:=fun y=>by show env.scope.names.lookup y=_;rw[e1,hs]
  have hI:=xm hout;clear hout;cases hI;rename_i y0 np0 l0 r0 bp ps1 nmI params ib' sc bnd ipos ts y1 np1 a1 cp1 xp1 ips y2 np2 rp2 hout
  .refine gv hout fun ha hb hc=>jj ha fun b0 b1 b2 b3 b4 b5=>jj hb fun b6 b7 b8 b9 b10 b11=>qZ hc fun b12 b13 b14 b15 b16=>?_;obtain rfl:=eC b0;obtain rfl:=eC b3;obtain rfl:=eC b4;obtain rfl:=bX b11;obtain rfl:=eC b14;obtain rfl:=eC b16;have b6:=bX b6;have b7:=bX b7;have b8:=iw b8;have b9:=iw b9;have b10:=Option.isNone_iff_eq_none.mp b10;have X:cy G (A.deeper env) S0 ⟨G.names,fK,[]⟩ env dG:=⟨rfl,by rw[e1,hs],fun n=>by simp,hfn,Cp,vm,hh,by show A.units+3+100<cLine;lia⟩;have hlk1:env.cells.lookup ("a_digits" : Str)=some ca:=by rw[e4];rfl
   have hlk2:env.cells.lookup ("inner" : Str)=some ci:=by rw[e4];rfl
   have hlk3:env.cells.lookup ("n" : Str)=some cn:=by rw[e4];rfl
   have hfa:=hM ca (FF.mc _ _ hlk1);have hfi:=hM ci (FF.mc _ _ hlk2);rw[arm_execs_cons];refine aN (wpAny_Assign_Name (wpAny_BinOp ((aD _ X b1).1 (.list [aa 0]) rfl s1 I1 _ _ fun v s2 x2 r2=>(aD _ X b2).1 (aa K) (by rw[hK];exact Fp rfl rfl hnb hnb2) s2 (I1.ext x2) _ _ fun u s3 x3 r3=>?_)) rfl);obtain⟨a',ws,rfl,_,la,ra⟩:=r2.list_inv;obtain⟨tk,rfl⟩:=r3.int_inv;have I3:=(I1.ext x2).ext x3;refine tB (vE la x3.keep) (ra.keep x3.keep) (by lia) (by lia) (by simp;assumption) fun h4 w4 k4 l4 r4=>?_;generalize hD:s3.heap.objs.size=D at l4 ⊢;have hD3:s3.heap.get? D=none:=by rw[<- hD];exact ax _
   have hDs:s.heap.get? D=none:=X1.back _ (x2.back _ (x3.back _ hD3));have hD0:G.h₀.get? D=none:=bA (fun o q=>B.keep _ o q) hDs;rw[kj,qL]at r4;have x4:Ext G s3 { s3 with heap:=h4 }:=Ext.all (t:=s3.toks) I3.base k4 I3.pos;have I4:=I3.ext x4;refine oW I4 (nm 0 _ rfl) ((kd _).trans rfl) hlk1 (by rfl) fun h5 c5 x5 I5=>?_;show wpAny _ _ (execs _ env) _ _ _;have neD:D≠ca:=dL c5 (x5.keep.plain (by intro m;obtain⟨c',v',p1,p2⟩:=I4.envr.ce ("a_digits" : Str) (.inl ((kd _).trans rfl));rw[hlk1]at p1;obtain rfl:=aC p1;exact dL p2 l4 (aV m).symm) l4) |>.symm;have l5:h5.PlainList D w4:=x5.keep.plain (fun m=>neD (aV m)) l4;have iv:IV w4.toList (List.replicate K 0):=IV.of r4;have hDO:D∉O:=I3.ov.new hD3;have J5:=I5.learn (nm 0 _ rfl) ((kd _).trans rfl) hlk1 c5 (ql (xs:=(List.replicate K 0).map aa) (by simp;assumption) hDO l5 iv.reps);rw[arm_execs_cons];obtain⟨d1,d2,d3⟩:=q6 b5 env;refine aN (BW ok T J5.base ht e5 (by unfold qualnameIn;rw[kd,e6];exact hq) (uB b6 hlk1 hlk2 hlk3) (by nofun) J5.envr.gl b8 b9 b7 b10 d1 d2 d3 (fun f fd' s6 x6 hf6 N6 hpar hscq hdf hkw=>?_) J5.pos);have I6:=J5.ext x6;have l6:s6.heap.PlainList D w4:=bq l5 x6.keep;have c6:s6.heap.IsCell ca (some (.ref D)):=fc c5 x6.keep;obtain⟨cn',vn,n1,n2,n3⟩:=I6.envr.cl 2 ("n" : Str) (aa nb) (nm 2 _ rfl) (.inl ((kd _).trans rfl)) rfl;rw[hlk3]at n1;obtain rfl:=aC n1;rw[fC]at n3;obtain⟨tn,rfl⟩:=n3.int_inv;refine oW (n:=1) I6 (nm 1 _ rfl) ((kd _).trans rfl) hlk2 (by rfl) fun h7 c7 x7 I7=>?_;show wpAny _ _ (execs _ env) _ _ _;have neDi:ci≠D:=by obtain⟨c',v',p1,p2⟩:=I6.envr.ce ("inner" : Str) (.inl ((kd _).trans rfl));rw[hlk2]at p1;obtain rfl:=aC p1;exact dL p2 l6
   have l7:h7.PlainList D w4:=x7.keep.plain (fun m=>neDi (aV m).symm) l6;have C7:sH G h7 f D ca ci cn nb fd' ib':=by
    refine⟨N6.keepBut x7.keep fun b m o e=>?_,x7.keep.cell (fun m=>hne.1 (aV m)) c6,c7,tn,x7.keep.cell (fun m=>hne.2.1 (aV m).symm) n2⟩;rcases aV m with rfl
    obtain⟨c',v',p1,p2⟩:=I6.envr.ce ("inner" : Str) (.inl ((kd _).trans rfl));rw[hlk2]at p1;obtain rfl:=aC p1;obtain⟨o',p3,p4⟩:=p2;rw[p3]at e;obtain rfl:=aC e;exact⟨fun fd h=>(by rw[p4]at h;cases h),fun vs h=>(by rw[p4]at h;cases h)⟩
   have hci0:=(I7.envr.cin _ _ hlk2).2;have hca0:=(I7.envr.cin _ _ hlk1).2;have hcn0:=(I7.envr.cin _ _ hlk3).2;have xall:bl G [ca,ci,D] s { s6 with heap:=h7 }:=by
    have m1:∀a∈[ca],a∈[ca,ci,D]:=fun a m=>by rcases aV m with rfl;simp
    have m2:∀a∈[ci],a∈[ca,ci,D]:=fun a m=>by rcases aV m with rfl;simp
    exact((((((X1.sext.trans x2.sext).trans x3.sext).trans x4.sext).trans (x5.mono m1)).trans x6.sext).trans (x7.mono m2))
   have fin:∀(s9:Shared)(w9:Array Value),bl G [D] { s6 with heap:=h7 } s9->s9.heap.PlainList D w9->IV w9.toList (cH nb x K)->s9.heap.IsCell ca (some (.ref D)) ->
     wpAny (br G) (A.deeper env) (execs [.Return (some (.Name ("a_digits" : Str) np2)) rp2] env) (fun fl s'=>Q (match fl with|.ret v=>v|_=>.none) s') E' s9:=fun s9 w9 x9 l9 iv9 c9=>by
    rw[arm_execs_cons];refine aN ?_;rw[arm_exec_Return];refine aN (wpAny_standAt (aN (wpAny_Name (wpAny_loadName_cell hfn ((kd _).trans rfl) hlk1 c9 ?_) rfl)));refine bB (bB (q _ _ ((xall.trans (x9.mono fun a m=>by rcases aV m with rfl;simp)).ext fun b m=>?_) (ql (by simp[fI];assumption) (ov.new hDs) l9 iv9.reps)));simp only[List.mem_cons,List.not_mem_nil,or_false]at m;rcases m with rfl|rfl|rfl
    .exact hfa
    .exact hfi
    .exact hDs
   rw[arm_execs_cons];refine aN (wpAny_If ((aD (.v 11) X b13).2 (decide (x≠0)) ?_ _ I7 _ _ fun s8 x8=>?_))
   .show(some (aa x)).bind eJ=_;show some ((x:Int) != 0)=_
    congr 1
    by_cases c:x=0
    .subst c;rfl
    .rw[eD c];simp;exact c
   have C8:=C7.keep x8.keep;have l8:=bq l7 x8.keep;have I8:=I7.ext x8;by_cases hx0:x=0
   .subst hx0;refine CE (fun c=>bX c rfl) (wpAny_execs_nil ?_);have hK0:K=0:=by rw[hK];have:ib ((0:Nat):Int)=0:=rfl;rw[this];exact Nat.div_eq_of_lt ((Nat.zero_add nb).symm▸Nat.sub_lt hnb Nat.one_pos)
    refine fin s8 w4 x8.sext l8 ?_ C8.a;rw[hK0]at iv ⊢;exact iv
   .refine y7 (eD hx0) ?_;have hib:x<2^ib (x:Int):=by
     unfold ib Builtin.Int.intBits;have:((x:Int)==0)=false:=by simpa using hx0
     rw[this];simp only[Bool.false_eq_true,if_false,Int.natAbs_natCast];exact Nat.lt_log2_self
    have hib1:1<=ib (x:Int):=by
     rcases Nat.eq_zero_or_pos (ib (x:Int))with c|c
     .rw[c]at hib;simp at hib;exact absurd hib hx0
     .exact c
    have hKpos:0<K:=by rw[hK];exact Nat.div_pos (BC hib1) hnb
    have hKx:x<2^(nb*K):=by refine iu hib (Nat.pow_le_pow_right (by decide) ?_);have e:=Nat.div_add_mod (ib (x:Int)+nb-1) nb;rw[<- hK]at e;exact yC e (Nat.mod_lt _ hnb)
    rw[arm_execs_cons];have es:=bb (O:=O) (ρ:=(bx [] [11,2] [aa x,aa nb]).set 0 (.list ((List.replicate K 0).map aa))) _ X b15;obtain⟨fo,hfo,hfd⟩:=C8.N.at';refine aN (wpAny_Expr (jw (ci:=ci) (f:=f) I8 (.inr ((kd _).trans rfl)) hlk2 C8.i rfl rfl ⟨fo,_,hfo,hfd⟩ es.ns (es.el [aa x,aa 0,aa K] ?_) fun s9 vs9 x9 r9=>?_) (j7 hfn) (dJ rfl _ _ _))
    .refine ad rfl (ad rfl (ad ?_ rfl));show some (PyData.int ((List.replicate K 0).map aa).length)=_;simp
    .have C9:=C8.keep x9.keep;have l9:=bq l8 x9.keep;refine yZ ok nm b12 (by rw[hscq];exact b6) (fun a b c=>kD (by rw[hpar];exact b5) (by decide) hdf rfl) ⟨hca0,hci0,hcn0,hD0⟩ hne hnb 24 (A:=A.deeper env) hh (fy (Nat.add_le_add_left (by decide:25<=30) A.depth) hr) (fy (Nat.add_le_add_left (by decide:178<=200) A.units) hu) x9.base x9.pos C9 l9 iv (IV.of (ns:=[x,0,K]) r9) hKpos (by simp) (by simpa using hK2) (by simpa using hsz) (by simpa using hKx) _ _ fun s10 vs10 x10 l10 iv10=>?_;show wpAny _ _ (execs _ env) _ _ _;refine wpAny_execs_nil (fin s10 vs10 ((x8.sext.trans x9.sext).trans x10) l10 ?_ ?_)
     .simpa using iv10
     .exact(C9.but x10.keep (sv l9)).a
end
end
section
section
variable {G:GC}{A:Around}{s:Shared}
noncomputable def jm:List (Str × NameKind):=[("L", .local),("R", .local),("mid", .local),("shift", .local),("digits", .free),("inner", .free),("n", .free)]
def xa (c:Cx)(t d0:Expr)(s2 s3:Stmt)(f1:Str)(a1:dU)(sh1:Expr)(f2:Str)(a2:dU):Bool:=bn c Fh t&&bn c (.s (.v 10) (.v 4)) d0&&Id c 6 JG s2&&Id c 7 BZ s3&&f1==("inner" : Str)&&dC c (.c (.v 6) (.c (.v 5) .n)) a1&&bn c (.v 7) sh1&&f2==("inner" : Str)&&dC c (.c (.v 4) (.c (.v 6) .n)) a2
inductive Jt (c:Cx):dY->Prop
 |mk {t:Expr}{d0:Expr}{q1:Pos}{q2:Pos}{s2 s3:Stmt}{f1:Str}{q7:Pos}{a1:dU}{q8:Pos}{sh1:Expr}{q9:Pos}{f2:Str}{q10:Pos}{a2:dU}{q11:Pos}{q12:Pos}{q13:Pos}(h:xa c t d0 s2 s3 f1 a1 sh1 f2 a2=true):Jt c ([.If t [.Return (some d0) q1] [] q2,s2,s3, .Return (some (.BinOp (.BinOp (.Call (.Name f1 q7) a1 [] q8) .LShift sh1 q9) .Add (.Call (.Name f2 q10) a2 [] q11) q12)) q13])
def nY (c:Cx)(b:dY):Bool:=
 aZ b fun s1 r=>aZ r fun s2 r=>aZ r fun s3 r=>gE r fun s4=>ze s1 fun t b=>gE b fun r=>qd r fun d0=>qd s4 fun z=>zd z .Add fun l c2=>zd l .LShift fun c1 sh1=>bY c1 fun f1 a1=>bY c2 fun f2 a2=>xa c t d0 s2 s3 f1 a1 sh1 f2 a2
theorem uL (h:nY c b=true):Jt c b:=by refine ar h fun s1 r h=>ar h fun s2 r h=>ar h fun s3 r h=>aS h fun s4 h=>kN h fun t b p1 h=>aS h fun r h=>gV h fun d0 p2 h=>gV h fun z p3 h=>kM h fun l c2 p4 h=>kM h fun c1 sh1 p5 h=>aP h fun f1 q1 a1 q2 h=>aP h fun f2 q3 a2 q4 h=>.mk h
structure sJ (G:GC)(h:Heap)(f cd ci cn:Addr)(ns:aH)(nb:Nat)(fd:FuncData)(body:dY):Prop where
 N:oJ G h f fd body [("n",cn),("inner",ci),("digits",cd)]
 d:∃v,h.IsCell cd (some v)/\av G.w [cd,ci,cn] h v (.list (ns.map aa))
 i:h.IsCell ci (some (.ref f))
 n:∃t,h.IsCell cn (some (.int (nb:Int) t))
theorem sJ.keep (x:sJ G h f cd ci cn ns nb fd body)(k:eh h h'):sJ G h' f cd ci cn ns nb fd body:=
 ⟨x.N.keep k,let⟨v,a,b⟩:=x.d;⟨v,fc a k,b.keep k⟩,fc x.i k,let⟨t,y⟩:=x.n;⟨t,fc y k⟩⟩
theorem sJ.but (x:sJ G h f cd ci cn ns nb fd body)(k:aI W h h')(hW:∀a∈W,∀o,h.get? a=some o->Bk o)(hd:∃v,h'.IsCell cd (some v)/\av G.w [cd,ci,cn] h' v (.list (ns.map aa))):sJ G h' f cd ci cn ns nb fd body:=
 ⟨x.N.keepBut k fun a m o e=>⟨(hW a m o e).1,(hW a m o e).2.1⟩,hd,le x.i k hW,let⟨t,y⟩:=x.n;⟨t,le y k hW⟩⟩
theorem IV.two (h:IV vals [L,R]):∃t1 t2,vals=[.int L t1, .int R t2]:=by
 obtain⟨t1,h1⟩:=h.2 0 L rfl;obtain⟨t2,h2⟩:=h.2 1 R rfl;refine⟨t1,t2,List.ext_getElem? fun i=>?_⟩
 match i with
 |0=>exact h1
 |1=>exact h2
 |n+2 =>
  rw[Ao (by rw[h.1];exact Nat.le_add_left 2 n)];rfl
def Lh (G:GC)(f cd ci cn:Addr)(ns:aH)(nb:Nat)(fd:FuncData)(body:dY)(k:Nat):Prop:=
 ∀{A:Around}{s:Shared}{L R:Nat}{vals:eU},A.handled=none->A.depth+k<recursionLimit->A.units+3*(k+1)+100<cLine->aX G s.heap->0<s.toks ->
   sJ G s.heap f cd ci cn ns nb fd body->IV vals [L,R]->L<R->R<=ns.length->R-L<=2^k->nb*ns.length<=2^26 ->
   ∀(Q:bg)(E:bg),(∀s' t,Ext G s s'->Q (.int ((fD nb ((ns.drop L).take (R-L)):Nat):Int) t) s')->wpAny (br G) A (call (.ref f) vals) Q E s
def Ai (L R nb:Nat)(ns:aH):aB:=[(4,aa L),(5,aa R),(2,aa nb),(10, .list (ns.map aa))]
theorem yi {ns:aH}(h1:L<=m)(h2:m<=R):(ns.drop L).take (R-L)=(ns.drop L).take (m-L)++(ns.drop m).take (R-m):=by rw[<- tT h1 h2,List.take_add,List.drop_drop,Nat.add_sub_cancel' h1]
set_option tactic.hygienic true in
theorem uM (ok:oI G)(nm:∀(i:Nat) (x:Str),jy[i]?=some x->G.names[i]?=some x){nb:Nat}{fd:FuncData}{body:dY}
  (hb:nY ⟨G.names,jm,[]⟩ body=true)(hsc:fd.scope.names=jm)(hbind:∀a b,bindArgs fd ⟨[a,b],[]⟩=pure [(("L" : Str),a),(("R" : Str),b)])
  (h0:G.h₀.get? cd=none/\G.h₀.get? ci=none/\G.h₀.get? cn=none)(hne:cd≠ci/\ci≠cn/\cd≠cn)(hnb:0<nb)(hdg:∀d∈ns,d<2^nb){k:Nat}(ih:∀j,k=j+1->Lh G f cd ci cn ns nb fd body j):Lh G f cd ci cn ns nb fd body k:=by
 intro A s L R vals hh hr hu B p C ivv hLR hR hk hsz Q E q;obtain⟨t1,t2,rfl⟩:=ivv.two;obtain⟨hcd,hci,hcn⟩:=h0;obtain⟨tn,Cn⟩:=C.n;obtain⟨dv,Cd,rd⟩:=C.d;refine rR (O:=[cd,ci,cn]) (xs:=["L", "R"]) (ρ:=Ai L R nb ns) ok hh (by lia) B p (fun a m=>?_) C.N (hbind _ _) (fun y hy=>?_) (fun y hy=>?_) (fun y c h=>?_) (fun y z c h h'=>?_) (fun y hy=>?_) (fun n y d h1 h2 h3=>?_) (fun n y d h1 h2 h3=>?_) fun env s1 e1 e2 e3 X1 I1 E'=>?_
 .rcases bM m with rfl|m
  .exact fq Cd
  .rcases bM m with rfl|m
   .exact fq C.i
   .exact aV m▸fq Cn
 .rw[hsc];exact eC (bQ (show(["L", "R"]:List Str).all (fun y=>jm.lookup y==some .local)=true from rfl) y hy)
 .rw[hsc]at hy;exact bQ (show jm.all (fun p=>decide (p.2≠.cell))=true from rfl) y hy |> bX
 .exact iY (P:=fun _ c=>c∈([cd,ci,cn]:a9)/\G.h₀.get? c=none) h ⟨.tail _ (.tail _ (.head _)),hcn⟩ ⟨.tail _ (.head _),hci⟩ ⟨.head _,hcd⟩
 .exact zA hne.1 hne.2.1 hne.2.2 h h'
 .rw[hsc]at hy;exact yV (P:=fun y=>∃c v,([("n",cn),("inner",ci),("digits",cd)]:List (Str × Addr)).lookup y=some c/\s.heap.IsCell c v) (A:="digits") (B:="inner") (C:="n") rfl hy ⟨_,_,rfl,Cd⟩ ⟨_,_,rfl,C.i⟩ ⟨_,_,rfl,Cn⟩
 .revert h1 h2;refine oD h3 ?_ ?_ ?_ ?_
  .intro h1 _;obtain rfl:=bT nm h1 rfl;exact⟨_,rfl, .int⟩
  .intro h1 _;obtain rfl:=bT nm h1 rfl;exact⟨_,rfl, .int⟩
  .intro h1 h2;obtain rfl:=bT nm h1 rfl;rw[hsc]at h2;exact absurd h2 (by decide)
  .intro h1 h2;obtain rfl:=bT nm h1 rfl;rw[hsc]at h2;exact absurd h2 (by decide)
 .revert h1 h2;refine oD h3 ?_ ?_ ?_ ?_
  .intro h1 h2;obtain rfl:=bT nm h1 rfl;rw[hsc]at h2;exact absurd h2 (by decide)
  .intro h1 h2;obtain rfl:=bT nm h1 rfl;rw[hsc]at h2;exact absurd h2 (by decide)
  .intro h1 _;obtain rfl:=bT nm h1 rfl;exact⟨cn,_,rfl,Cn, .int⟩
  .intro h1 _;obtain rfl:=bT nm h1 rfl;exact⟨cd,dv,rfl,Cd,rd⟩
 .have hI:=uL hb;clear hb;cases hI;rename_i hb
  .unfold xa at hb;simp only[g9,beq_iff_eq]at hb;obtain⟨⟨⟨⟨⟨⟨⟨⟨b1,b2⟩,b3⟩,b4⟩,b5⟩,b6⟩,b7⟩,b8⟩,b9⟩:=hb;subst b5 b8;have X:cy G (A.deeper env) S0 ⟨G.names,jm,[]⟩ env dG:=⟨rfl,by rw[e1,hsc],fun n=>by simp,by rw[e1];exact C.N.kind,Cp,vm,hh,by show A.units+3+100<cLine;lia⟩;have kd:∀y,env.kindOf y=jm.lookup y:=fun y=>by show env.scope.names.lookup y=_;rw[e1,hsc]
   have hfn:=X.fn;have h26:(2:Nat)^26=67108864:=by decide
   have h27:(2:Nat)^27=134217728:=by decide
   have h64:(2:Nat)^64=18446744073709551616:=by decide
   have hm1:nb*(R-L)<=nb*ns.length:=Nat.mul_le_mul_left _ (az (Nat.sub_le _ _) hR);have hm2:R<=nb*ns.length:=az hR (Nat.le_mul_of_pos_left _ hnb);have hnb26:nb<=2^26:=az (Nat.le_mul_of_pos_right _ (iu (Nat.zero_lt_of_lt hLR) hR)) hsz;rw[arm_execs_cons];refine aN (wpAny_If ((aD Fh X b1).2 (decide (L+1=R)) ?_ s1 I1 _ _ fun s2 x2=>?_))
   .exact bi (bi (ag (x:=aa L) (y:=aa 1) (z:=aa (L+1)) rfl rfl (eF L 1)) (bi (ab (show(Ai L R nb ns).get 5=some (aa R)from rfl)) (ln _ _))) rfl
   have I2:=I1.ext x2;have C2:=(C.keep X1.keep).keep x2.keep;by_cases hone:L+1=R
   .refine y7 (eD hone) ?_;rw[arm_execs_cons];refine aN ?_;rw[arm_exec_Return];have hLn:L<ns.length:=iu hLR hR;have hev:ev S0 (Ai L R nb ns) (.s (.v 10) (.v 4))=some (aa ns[L]):=by have e:ev S0 (Ai L R nb ns) (.s (.v 10) (.v 4))=(seqIndex? (L:Int) (ns.map aa).length).bind ((ns.map aa)[·]?):=rfl;rw[e,seqIndex_of (by lia) (by simp;assumption)];show(ns.map aa)[((L:Int)).toNat]?=_;rw[kj,List.getElem?_map,List.getElem?_eq_getElem hLn];rfl
    refine aN (wpAny_standAt (aN ((aD _ X b2).1 _ hev s2 I2 _ _ fun v s3 x3 r3=>?_)));obtain⟨tv,rfl⟩:=r3.int_inv;refine bB (bB (bB ?_));have e:fD nb ((ns.drop L).take (R-L))=ns[L]:=by rw[<- hone,show L+1-L=1 from Nat.add_sub_cancel_left ..,List.drop_eq_getElem_cons hLn,List.take_succ_cons,List.take_zero];rfl
    have:=q s3 tv ((X1.trans x2).trans x3);rw[e]at this;exact this
   .refine CE (fun c=>hone (bX c)) ?_;refine wpAny_execs_nil ?_;show wpAny _ _ (execs _ env) _ _ _;obtain⟨j,rfl⟩:∃j,k=j+1:=by
     cases k with
     |zero=>simp at hk;lia
     |succ j=>exact⟨j,rfl⟩
    have h2k:2^(j+1)=2*2^j:=by rw[Nat.pow_succ,Nat.mul_comm]
    generalize hmid:(L+R) / 2^1=mid;have hmid':mid=(L+R) / 2:=by rw[<- hmid]
    obtain⟨g1,g2,g3,g4⟩:=CY hLR hone (h2k▸hk) hmid';generalize hsh:(mid-L)*nb=sh;have hsh':sh=nb*(mid-L):=by rw[<- hsh,Nat.mul_comm]
    have hsz':sh+nb*(R-mid)=nb*(R-L):=by rw[hsh',<- Nat.mul_add,tT (gp g1) (gp g2)]
    have hlow:∀a b:Nat,((ns.drop a).take b).length<=b:=fun a b=>List.length_take_le _ _;have hsub:∀a b:Nat,∀d∈(ns.drop a).take b,d<2^nb:=fun a b d m=>hdg d (List.mem_of_mem_drop (List.mem_of_mem_take m));generalize hhi:fD nb ((ns.drop mid).take (R-mid))=hi;generalize hlo:fD nb ((ns.drop L).take (mid-L))=lo;have hhib:hi<2^(nb*(R-mid)):=by rw[<- hhi];exact iu (yj (hsub _ _)) (Nat.pow_le_pow_right Nat.two_pos (Nat.mul_le_mul_left _ (hlow _ _)))
    have htot:fD nb ((ns.drop L).take (R-L))=hi*2^sh+lo:=by rw[yi (gp g1) (gp g2),gM,hhi,hlo,hsh',List.length_take,List.length_drop,Nat.min_eq_left (Nat.sub_le_sub_right (az (gp g2) hR) L),Nat.add_comm,Nat.mul_comm]
    rw[arm_execs_cons];refine aN (rN X I2 b3 (ag (ag (ab rfl) (ab rfl) (eF L R)) aq (mT (L+R) 1)) fun s3 x3 I3=>?_);show wpAny _ _ (execs _ env) _ _ _;rw[hmid]at I3;rw[arm_execs_cons];refine aN (rN X I3 b4 (ag (ag (ab rfl) (ab rfl) (aQ (gp g1))) (ab rfl) (gj (fy (az (Nat.sub_le _ _) (az (gp g2) (az (az hR (Nat.le_mul_of_pos_left _ hnb)) hsz))) (by decide)) (fy hnb26 (by decide)))) fun s4 x4 I4=>?_);show wpAny _ _ (execs _ env) _ _ _;rw[hsh]at I4;have x24:bl G [env.locals] s2 s4:=x3.trans x4;obtain⟨m2,hns2,_⟩:=id I2.envr.ns;have C4:=C2.but x24.keep (zv hns2) (by obtain⟨c',v,a1,a2,a3⟩:=I4.envr.cl 10 ("digits" : Str) (.list (ns.map aa)) (nm 10 _ rfl) (.inr ((kd _).trans rfl)) rfl;rw[e2]at a1;obtain rfl:=aC a1;rw[fC]at a3;exact⟨v,a2,a3.sub fun a m=>dP _ m⟩);have atf:∀{h:Heap}{body':dY},sJ G h f cd ci cn ns nb fd body'->∃o fd',h.get? f=some o/\o.data=.func fd':=fun C=>let⟨o,e,d⟩:=C.N.at';⟨o,_,e,d⟩;rw[arm_execs_cons];refine aN ?_;rw[arm_exec_Return];refine aN (wpAny_standAt (aN ?_));have hlk:env.cells.lookup ("inner" : Str)=some ci:=by rw[e2];rfl
    have es1:=bb (O:=env.locals::[cd,ci,cn]) (ρ:=((Ai L R nb ns).set 6 (aa mid)).set 7 (aa sh)) _ X b6;have es2:=bb (O:=env.locals::[cd,ci,cn]) (ρ:=((Ai L R nb ns).set 6 (aa mid)).set 7 (aa sh)) _ X b9;refine wpAny_BinOp (wpAny_BinOp (jw (ci:=ci) (f:=f) I4 (.inl ((kd _).trans rfl)) hlk C4.i rfl rfl (atf C4) es1.ns (es1.el [aa mid,aa R] rfl) fun s5 vs5 x5 r5=>?_));have C5:=C4.keep x5.keep;have I5:=I4.ext x5;refine ih j rfl (A:=A.deeper env) hh (by show A.depth+1+j<_;lia) (by show A.units+3+3*(j+1)+100<_;lia) x5.base x5.pos C5 (IV.of (ns:=[mid,R]) r5) g2 hR g4 hsz _ _ fun s6 t6 x6=>?_;rw[hhi];have I6:=I5.ext x6;refine(aD (.v 7) X b7).1 (aa sh) rfl s6 I6 _ _ fun v s7 x7 r7=>?_;have I7:=I6.ext x7;refine mE (O:=[]) x7.base x7.pos (fun _ m=>by cases m) (av.int (i:=(hi:Int)) (t:=t6)) (r7.sub fun _ m=>by cases m) (mS hhib (az (Nat.le_of_eq ((Nat.add_comm _ _).trans hsz')) (az hm1 (az hsz (by decide))))) _ _ fun z s8 x8 r8=>?_;obtain⟨t8,rfl⟩:=r8.int_inv;have I8:=I7.ext x8;have C8:=((C5.keep x6.keep).keep x7.keep).keep x8.keep;refine jw (ci:=ci) (f:=f) I8 (.inl ((kd _).trans rfl)) hlk C8.i rfl rfl (atf C8) es2.ns (es2.el [aa L,aa mid] rfl) fun s9 vs9 x9 r9=>?_;refine ih j rfl (A:=A.deeper env) hh (by show A.depth+1+j<_;lia) (by show A.units+3+3*(j+1)+100<_;lia) x9.base x9.pos (C8.keep x9.keep) (IV.of (ns:=[L,mid]) r9) g1 (az (gp g2) hR) g3 hsz _ _ fun s10 t10 x10=>?_;rw[hlo];refine mE (O:=[]) x10.base x10.pos (fun _ m=>by cases m) (av.int (i:=((hi*2^sh:Nat):Int)) (t:=t8)) (av.int (i:=(lo:Int)) (t:=t10)) (eF _ _) _ _ fun z s11 x11 r11=>?_;obtain⟨t11,rfl⟩:=r11.int_inv;refine bB (bB ?_);have:=q s11 t11 (((((((((X1.trans x2).sext.trans x24).trans x5.sext).trans x6.sext).trans x7.sext).trans x8.sext).trans x9.sext).trans x10.sext).trans x11.sext |>.ext fun b m=>by rw[aV m];exact e3);rw[htot]at this;exact this
end
end
section
section
variable {G:GC}{A:Around}
theorem yJ (ok:oI G)(nm:∀(i:Nat) (x:Str),jy[i]?=some x->G.names[i]?=some x) 
  (hb:nY ⟨G.names,jm,[]⟩ body=true)(hsc:fd.scope.names=jm)(hbind:∀a b,bindArgs fd ⟨[a,b],[]⟩=pure [(("L" : Str),a),(("R" : Str),b)])
  (h0:G.h₀.get? cd=none/\G.h₀.get? ci=none/\G.h₀.get? cn=none)(hne:cd≠ci/\ci≠cn/\cd≠cn)(hnb:0<nb)(hdg:∀d∈ns,d<2^nb):∀k,Lh G f cd ci cn ns nb fd body k
 |0=>uM ok nm hb hsc hbind h0 hne hnb hdg fun j e=>by cases e
 |k+1=>uM ok nm hb hsc hbind h0 hne hnb hdg fun j e=>by cases e;exact yJ ok nm hb hsc hbind h0 hne hnb hdg k
def yI (c:Cx)(t:wC)(nmI:Str)(params:Arguments)(ib:dY)(sc:Scope)(bnd:Str)(ipos:Pos)(ts:Expr)(y1:Str)(a1:dU)(z0:Expr):Bool:=(nmI==("inner" : Str)&&bnd==("inner" : Str)&&eI params ["L", "R"])&&(decide (sc.names=jm)&&decide (sc.kind=.function)&&!sc.isCoroutine&&!sc.isGenerator&&(docOf ib).isNone&&decide (ipos=t.pos))&&(nY ⟨c.nm,jm,[]⟩ ib&&bn c (.v 10) ts&&y1==("inner" : Str)&&dC c (.c (.l (.int 0)) (.c (.f .len (.c (.v 10) .n)) .n)) a1&&bn c (.l (.int 0)) z0)
inductive Ju (c:Cx)(t:wC):dY->Prop
 |mk {nmI:Str}{params:Arguments}{ib:dY}{sc:Scope}{bnd:Str}{ipos:Pos}{ts:Expr}{y1:Str}{np1:Pos}{a1:dU}{cp1:Pos}{z0:Expr}{iep:Pos}{rp2:Pos}(h:yI c t nmI params ib sc bnd ipos ts y1 a1 z0=true):Ju c t ([.FunctionDef nmI params ib [] none [] sc none bnd ipos, .Return (some (.IfExp ts (.Call (.Name y1 np1) a1 [] cp1) z0 iep)) rp2])
def sS (c:Cx)(t:wC)(b:dY):Bool:=
 aZ b fun s1 r=>gE r fun s2=>Do s1 fun nmI params ib sc bnd ipos=>qd s2 fun e=>tH e fun ts z z0 _=>bY z fun y1 a1=>yI c t nmI params ib sc bnd ipos ts y1 a1 z0
theorem xb (h:sS c t b=true):Ju c t b:=by refine ar h fun s1 r h=>aS h fun s2 h=>qb h fun nmI params ib sc bnd ipos h=>gV h fun e p1 h=>lM h fun ts z z0 p2 h=>aP h fun y1 p3 a1 p4 h=>.mk h
noncomputable def fG:List (Str × NameKind):=[("digits", .cell),("n", .cell),("inner", .cell),("len", .globalImplicit)]
theorem uA (h:sc.names=jm)(h1:env.cells.lookup ("digits" : Str)=some cd)(h2:env.cells.lookup ("inner" : Str)=some ci)(h3:env.cells.lookup ("n" : Str)=some cn) :
  closureFor sc env=pure [(("n" : Str),cn),(("inner" : Str),ci),(("digits" : Str),cd)] :=
 oY h (fun y c e=>iY (P:=fun y c=>env.cells.lookup y=some c) e h3 h2 h1) rfl
set_option tactic.hygienic true in
theorem zX (ok:oI G)(T:kB G)(nm:∀(i:Nat) (x:Str),jy[i]?=some x->G.names[i]?=some x)(ht:t∈G.tabs)(Df:gP G a fd body ["digits", "n"])
  (hout:sS ⟨G.names,fG,[]⟩ t body=true)(hs:fd.scope.names=fG)(hcode:fd.code=.ref t.c)(hq:fd.qualname ++ ".<locals>." ++ ("inner" : Str)=t.qual)
  {Oc:a9}{s:Shared}{vs:eU}{ns:aH}{nb:Nat}(hh:A.handled=none)(hr:A.depth+30<recursionLimit)(hu:A.units+200<cLine)(B:aX G s.heap)(p:0<s.toks)(ov:dB Oc s.heap)(r:ai G.w Oc s.heap vs [.list (ns.map aa),aa nb])
  (hnb:0<nb)(hsz:nb*ns.length<=2^26)(hK2:ns.length<=2^24)(hdg:∀d∈ns,d<2^nb):dW G A Oc (call (.ref a) vs) s (aa (fD nb ns)):=fun Q E q=>by
 have h26:(2:Nat)^26=67108864:=by decide
 have h24:(2:Nat)^24=16777216:=by decide
 refine lA (f:=⟨[10,2],[], .n⟩) ok hh (by lia) B p ov r Df ?_ rfl fun s1 O M FF hM X1 E' _=>?_
 .unfold hJ;have e1:=nm 10 _ rfl;have e2:=nm 2 _ rfl;simp only[hs,fU,List.map_nil,e1,e2];rfl
 .generalize henv:callEnvC fd s.heap.objs.size a=env at FF ⊢;have e1:env.scope=fd.scope:=by rw[<- henv];rfl
  have e4:env.cells=[(("inner" : Str),s.heap.objs.size+3),(("n" : Str),s.heap.objs.size+2),(("digits" : Str),s.heap.objs.size+1)]:=by
   have:env.cells=cellsFrom (s.heap.objs.size+1) fd.scope.names []:=by rw[<- henv];rfl
   rw[this,hs];rfl
  have e5:env.code=.ref t.c:=by rw[<- hcode,<- henv];rfl
  have e6:env.qual=fd.qualname ++ ".<locals>.":=by rw[<- henv];rfl
  generalize hcd:s.heap.objs.size+1=cd at e4;generalize hci:s.heap.objs.size+3=ci at e4;generalize hcn:s.heap.objs.size+2=cn at e4;have hne:cd≠ci/\ci≠cn/\cd≠cn:=by rw[<- hcd,<- hci,<- hcn];refine⟨?_, ?_, ?_⟩ <;> (intro h;have h:(_:Nat)=_:=h;lia)
  have I1:=FF.inv;have hfn:=I1.envr.fn;have kd:∀y,env.kindOf y=fG.lookup y:=fun y=>by show env.scope.names.lookup y=_;rw[e1,hs]
  have hI:=xb hout;clear hout;cases hI;rename_i nmI params ib' sc bnd ipos ts y1 np1 a1 cp1 z0 iep rp2 hout
  .refine gv hout fun ha hb hc=>gv ha fun b3 b4 b5=>jj hb fun b6 b7 b8 b9 b10 b11=>qZ hc fun b12 b13 b14 b15 b16=>?_;obtain rfl:=eC b3;obtain rfl:=eC b4;obtain rfl:=bX b11;obtain rfl:=eC b14;have b6:=bX b6;have b7:=bX b7;have b8:=iw b8;have b9:=iw b9;have b10:=Option.isNone_iff_eq_none.mp b10;have X:cy G (A.deeper env) S0 ⟨G.names,fG,[]⟩ env dG:=⟨rfl,by rw[e1,hs],fun n=>by simp,hfn,Cp,vm,hh,by show A.units+3+100<cLine;lia⟩;have hlk1:env.cells.lookup ("digits" : Str)=some cd:=by rw[e4];rfl
   have hlk2:env.cells.lookup ("inner" : Str)=some ci:=by rw[e4];rfl
   have hlk3:env.cells.lookup ("n" : Str)=some cn:=by rw[e4];rfl
   have hfi:=hM ci (FF.mc _ _ hlk2);rw[arm_execs_cons];obtain⟨d1,d2,d3⟩:=q6 b5 env;refine aN (BW ok T I1.base ht e5 (by unfold qualnameIn;rw[kd,e6];exact hq) (uA b6 hlk1 hlk2 hlk3) (by nofun) I1.envr.gl b8 b9 b7 b10 d1 d2 d3 (fun f fd' s6 x6 hf6 N6 hpar hscq hdf hkw=>?_) I1.pos);have I6:=I1.ext x6;refine oW (n:=1) I6 (nm 1 _ rfl) ((kd _).trans rfl) hlk2 (by rfl) fun h7 c7 x7 I7=>?_;show wpAny _ _ (execs _ env) _ _ _;have xall:Ext G s { s6 with heap:=h7 }:=((X1.trans x6).sext.trans x7).ext fun b m=>by rw[aV m];exact hfi
   have C7:sJ G h7 f cd ci cn ns nb fd' ib':=by
    obtain⟨c',v,p1,p2,p3⟩:=I7.envr.cl 10 ("digits" : Str) (.list (ns.map aa)) (nm 10 _ rfl) (.inl ((kd _).trans rfl)) rfl;rw[hlk1]at p1;obtain rfl:=aC p1;obtain⟨c',vn,q1,q2,q3⟩:=I7.envr.cl 2 ("n" : Str) (aa nb) (nm 2 _ rfl) (.inl ((kd _).trans rfl)) rfl;rw[hlk3]at q1;obtain rfl:=aC q1;rw[fC]at p3 q3;obtain⟨tn,rfl⟩:=q3.int_inv;refine⟨N6.keepBut x7.keep fun b m o e=>?_,⟨v,p2,p3.sub fun a m=>?_⟩,c7,tn,q2⟩
    .rcases aV m with rfl
     obtain⟨c',v',p1,p2⟩:=I6.envr.ce ("inner" : Str) (.inl ((kd _).trans rfl));rw[hlk2]at p1;obtain rfl:=aC p1;obtain⟨o',p3,p4⟩:=p2;rw[p3]at e;obtain rfl:=aC e;exact⟨fun fd h=>(by rw[p4]at h;cases h),fun vs h=>(by rw[p4]at h;cases h)⟩
    .simp only[List.mem_cons,List.not_mem_nil,or_false]at m;rcases m with rfl|rfl|rfl
     .exact(I7.envr.cin _ _ hlk1).1
     .exact(I7.envr.cin _ _ hlk2).1
     .exact(I7.envr.cin _ _ hlk3).1
   have hci0:=(I7.envr.cin _ _ hlk2).2;have hcd0:=(I7.envr.cin _ _ hlk1).2;have hcn0:=(I7.envr.cin _ _ hlk3).2;rw[arm_execs_cons];refine aN ?_;rw[arm_exec_Return];refine aN (wpAny_standAt (aN (wpAny_IfExp ((aD (.v 10) X b13).2 (!ns.isEmpty) ?_ _ I7 _ _ fun s8 x8=>?_))))
   .show some (!(ns.map aa).isEmpty)=_;cases ns <;> rfl
   have C8:=C7.keep x8.keep;have I8:=I7.ext x8;cases hns:ns with
   |nil =>
    show wpAny _ _ (eval z0 env) _ _ _;refine(aD (.l (.int 0)) X b16).1 (aa 0) rfl s8 I8 _ _ fun v s9 x9 r9=>bB (bB (q _ _ ((xall.trans x8).trans x9) ?_));obtain⟨tv,rfl⟩:=r9.int_inv;subst hns;exact .int
   |cons d0 dr =>
    show wpAny _ _ (eval (.Call (.Name ("inner" : Str) np1) a1 [] cp1) env) _ _ _;have es:=bb (O:=O) (ρ:=bx [] [10,2] [.list (ns.map aa),aa nb]) _ X b15;obtain⟨fo,hfo,hfd⟩:=C8.N.at';refine jw (ci:=ci) (f:=f) I8 (.inr ((kd _).trans rfl)) hlk2 C8.i rfl rfl ⟨fo,_,hfo,hfd⟩ es.ns (es.el [aa 0,aa ns.length] ?_) fun s9 vs9 x9 r9=>?_
    .refine ad rfl (ad ?_ rfl);show some (PyData.int (ns.map aa).length)=_;simp
    .have C9:=C8.keep x9.keep;refine yJ ok nm b12 (by rw[hscq];exact b6) (fun a b=>kD (by rw[hpar];exact b5) (by decide) hdf rfl) ⟨hcd0,hci0,hcn0⟩ hne hnb hdg 24 (A:=A.deeper env) hh (by show A.depth+1+24<_;lia) (by show A.units+3+3*(24+1)+100<_;lia) x9.base x9.pos C9 (IV.of (ns:=[0,ns.length]) r9) (by rw[hns];simp) (gC _) (by simpa using hK2) hsz _ _ fun s10 t10 x10=>?_;refine bB (bB (q _ _ (((xall.trans x8).trans x9).trans x10) ?_));rw[List.drop_zero,Nat.sub_zero,List.take_length,hns];exact .int
end
end
section
section
variable {G:GC}
structure cI (G:GC)(cal:Nat->List D->Option D)(K U:Nat):Prop where
 go:∀A:Around,A.handled=none->A.depth+K<recursionLimit->A.units+U<cLine->kq G A cal
noncomputable def put (cal:Nat->List D->Option D)(n:Nat)(cf:List D->Option D):Nat->List D->Option D:=fun m ds=>if m=n then cf ds else cal m ds
theorem EB (h:S.rz=false):JB G A S c env ns:=fun e=>by rw[h]at e;exact ff e
set_option tactic.hygienic true in
theorem cI.add {K U n:Nat}{x:Str}{f:Fn}{fd:FuncData}{body:dY}{xs:List Str}{a:Addr}{cf:List D->Option D}{gl:Nat->Option D}(ok:oI G)(h:cI G cal K U)(hU:103<=U)(hn:G.names[n]?=some x)(hm:G.mg x=some (.ref a))
  (Df:gP G a fd body xs)(hf:ve G.names f fd body xs=true)(hg:g8 G gl)(hc:∀ds d,cf ds=some d->aW ⟨cal,gl,false⟩ f ds=some d):cI G (put cal n cf) (K+1) (U+3):=⟨fun A hh hr hu=>⟨fun m y ds d hy hcal=>by
 unfold put at hcal;split at hcal
 .rename_i e;subst e;rw[hn]at hy;obtain rfl:=aC hy;obtain⟨o,ho,hd⟩:=Df.at';exact⟨a,o,fd,hm,ho,hd,fun O s vs B p ov r=>pA (S:=⟨cal,gl,false⟩) ok hh (by lia) (by lia) B p ov r Df hf (fun env=>h.go _ hh (by show A.depth+1+K<_;lia) (by show A.units+3+U<_;lia)) hg (EB rfl) (hc ds d hcal)⟩
 .exact(h.go A hh (by exact gp ‹_›) (by lia)).go m y ds d hy hcal⟩⟩
def bV (x nb:Nat):Nat:=(ib (x:Int)+nb-1) / nb
def iN (ds:List D):Option D:=i2 ds fun x nb=>if 0<=x/\0<nb/\nb<=2^26/\nb.toNat*bV x.toNat nb.toNat<=2^26/\bV x.toNat nb.toNat<=2^24 then some (.list ((cH nb.toNat x.toNat (bV x.toNat nb.toNat)).map aa))else none
noncomputable def pX:List D->Option aH
 |[]=>some []
 |d::r=>dQ d fun n=>if 0<=n then(pX r).map (n.toNat :: ·)else none
theorem zb:∀{xs:List D}{ns:aH},pX xs=some ns->xs=ns.map aa
 |[],ns,h=>by obtain rfl:=aC h;rfl
 |d::r,ns,h=>by
  obtain⟨n,rfl,g⟩:=bj h;by_cases c:0<=n
  .rw[if_pos c]at g;obtain⟨ms,h1,rfl⟩:=Option.map_eq_some_iff.mp g;rw[fU,zb h1,aa,Int.toNat_of_nonneg c]
  .rw[if_neg c]at g;exact nn g
theorem pY:∀ns:aH,pX (ns.map aa)=some ns
 |[]=>rfl
 |n::ns=>by show(if 0<=(n:Int)then(pX (ns.map aa)).map ((n:Int).toNat :: ·)else none)=_;rw[if_pos (by lia),pY ns];simp
def iG (ds:List D):Option D:=d2 ds fun xs nb=>p9 xs fun xs=>dQ nb fun nb=>(pX xs).bind fun ns=>if 0<nb/\nb.toNat*ns.length<=2^26/\ns.length<=2^24/\ns.all (fun d=>decide (d<2^nb.toNat))then some (aa (fD nb.toNat ns))else none
set_option tactic.hygienic true in
theorem Bz (ok:oI G)(T:kB G)(nm:∀(i:Nat) (x:Str),jy[i]?=some x->G.names[i]?=some x)(hne:n1≠n2)
  (hn1:G.names[n1]?=some x1)(hn2:G.names[n2]?=some x2)(hm1:G.mg x1=some (.ref a1))(hm2:G.mg x2=some (.ref a2))(ht1:t1∈G.tabs)(ht2:t2∈G.tabs)
  (D1:gP G a1 fd1 body1 ["a", "n"]) (D2:gP G a2 fd2 body2 ["digits", "n"]) (ho1:tm ⟨G.names,fK,[]⟩ t1 body1=true)(ho2:sS ⟨G.names,fG,[]⟩ t2 body2=true)
  (hs1:fd1.scope.names=fK)(hs2:fd2.scope.names=fG)(hc1:fd1.code=.ref t1.c)(hc2:fd2.code=.ref t2.c)(hq1:fd1.qualname ++ ".<locals>." ++ ("inner" : Str)=t1.qual) (hq2:fd2.qualname ++ ".<locals>." ++ ("inner" : Str)=t2.qual) :
  cI G (put (put (fun _ _=>none) n1 iN) n2 iG) 30 200:=⟨fun A hh hr hu=>⟨fun m y ds d hy hcal=>by
 unfold put at hcal;split at hcal
 .rename_i e;subst e;rw[hn2]at hy;obtain rfl:=aC hy;obtain⟨o,ho,hd⟩:=D2.at';refine⟨a2,o,fd2,hm2,ho,hd,fun O s vs B p ov r=>?_⟩;obtain⟨xs,nb,rfl,hcal⟩:=o8 hcal;obtain⟨xs,rfl,hcal⟩:=d9 hcal;obtain⟨nb,rfl,hcal⟩:=bj hcal;obtain⟨ns,hns,hcal⟩:=Option.bind_eq_some_iff.mp hcal;obtain⟨⟨c1,c2,c3,c4⟩,rfl⟩:=gz hcal
  ···obtain⟨nb',rfl⟩:=Int.eq_ofNat_of_zero_le (Int.le_of_lt c1);have:=zb hns;subst this;exact zX ok T nm ht2 D2 ho2 hs2 hc2 hq2 hh hr hu B p ov r (by lia) (by simpa using c2) c3 (fun d hd=>by simpa using bQ c4 d hd)
 .split at hcal
  .rename_i e;subst e;rw[hn1]at hy;obtain rfl:=aC hy;obtain⟨o,ho,hd⟩:=D1.at';refine⟨a1,o,fd1,hm1,ho,hd,fun O s vs B p ov r=>?_⟩;obtain⟨x,nb,rfl,hcal⟩:=pG hcal;obtain⟨⟨c0,c1,c2,c3,c4⟩,rfl⟩:=gz hcal
   ··obtain⟨nb',rfl⟩:=Int.eq_ofNat_of_zero_le (Int.le_of_lt c1);obtain⟨x',rfl⟩:=Int.eq_ofNat_of_zero_le c0;exact Ab ok T nm ht1 D1 ho1 hs1 hc1 hq1 hh hr hu B p ov r (by lia) (by lia) rfl (by simpa using c3) (by simpa using c4)
  .exact nn hcal⟩⟩
end
end
section
inductive Jv (G:GC)(h:Heap)(mg:Str->Option Value)(d:DefRec)(x:Str)(xs:List Str):Prop
 |mk (a:Addr)(fd:FuncData)(hm:mg x=some (.ref a))(D:gP G a fd d.body xs)(hs:fd.scope=d.scope)(hq:fd.qualname=x)(o:Obj)(e:h.get? a=some o)(e':o.data=.func fd)
section
variable {p prog:Program}{loose:List Str}{mean:ExcName->Option Value}{w:World}{h:Heap}{mg mb:Str->Option Value}{c1 P1 c2 P2:Addr}{pos1 pos2:Pos}{nm:List Str}
noncomputable def fh (prog:Program)(w:World)(h:Heap)(mg mb:Str->Option Value)(c1 P1 c2 P2:Addr)(pos1 pos2:Pos)(nm:List Str):GC:=
 ⟨prog,w,ghostOf h [(c1,P1),(c2,P2)],mg,mb,[⟨c1,P1,pos1, "_int2digits.<locals>.inner"⟩,⟨c2,P2,pos2, "_digits2int.<locals>.inner"⟩],nm⟩
theorem JI (T:Top p loose mean mg mb h)(hT:TabsAt [(c1,P1),(c2,P2)] h)(hnd:nm.Nodup)(hnb:∀x∈cC,mg x=none):oI (fh prog w h mg mb c1 P1 c2 P2 pos1 pos2 nm):=by obtain⟨bm,ob,b1,b2,b3,b4,b5,b6⟩:=T.bmain;refine⟨ghost_ns hT T.g,ghost_ns hT T.b,(ghost_top hT T).nolimit,hnd,hnb,T.builtins,bm,ob,b1,b2,fun q=>?_,ghost_get hT b3 (fun q=>by rw[q]at b4;cases b4),b4,b5,b6⟩;obtain⟨o,es,ep,e,d,_⟩:=T.g;rw[<- q,b3]at e;obtain rfl:=aC e;rw[b6]at d;cases d
theorem FD (hne:P1≠P2):kB (fh prog w h mg mb c1 P1 c2 P2 pos1 pos2 nm):=by
 refine⟨fun t ht=>?_,fun t ht t' ht' e=>?_⟩
 .have ht:t∈[(⟨c1,P1,pos1, "_int2digits.<locals>.inner"⟩:wC),⟨c2,P2,pos2, "_digits2int.<locals>.inner"⟩]:=ht;simp only[List.mem_cons,List.not_mem_nil,or_false]at ht;rcases ht with rfl|rfl <;> exact hideAll_none _ (by simp)
 .have ht:t∈[(⟨c1,P1,pos1, "_int2digits.<locals>.inner"⟩:wC),⟨c2,P2,pos2, "_digits2int.<locals>.inner"⟩]:=ht;have ht':t'∈[(⟨c1,P1,pos1, "_int2digits.<locals>.inner"⟩:wC),⟨c2,P2,pos2, "_digits2int.<locals>.inner"⟩]:=ht';simp only[List.mem_cons,List.not_mem_nil,or_false]at ht ht';rcases ht with rfl|rfl <;> rcases ht' with rfl|rfl
  .rfl
  .exact absurd e hne
  .exact absurd e.symm hne
  .rfl
theorem FA (hT:TabsAt [(c1,P1),(c2,P2)] h):aX (fh prog w h mg mb c1 P1 c2 P2 pos1 pos2 nm) h:=by
 refine⟨fun b o e=>of_hideAll _ e,fun t ht=>?_⟩;have ht:t∈[(⟨c1,P1,pos1, "_int2digits.<locals>.inner"⟩:wC),⟨c2,P2,pos2, "_digits2int.<locals>.inner"⟩]:=ht;simp only[List.mem_cons,List.not_mem_nil,or_false]at ht;have h1:=hT (c1,P1) (by simp);have h2:=hT (c2,P2) (by simp);rcases ht with rfl|rfl
 .exact⟨h1.1,#[],h1.2,trivial, .inl rfl⟩
 .exact⟨h2.1,#[],h2.2,trivial, .inl rfl⟩
def G8 (p:Program)(x:Str)(d:DefRec):Prop:=(recsOf p).find? (fun e=>e.name==x)=some d
def jG (d:DefRec)(xs:List Str):Bool:=eI d.params xs&&decide xs.Nodup&&!d.scope.isCoroutine&&!d.scope.isGenerator&&decide (d.scope.kind=.function)
theorem xj (T:Top p loose mean mg mb h)(hT:TabsAt [(c1,P1),(c2,P2)] h)(hd:G8 p x d)(hp:jG d xs=true) :
  Jv (fh prog w h mg mb c1 P1 c2 P2 pos1 pos2 nm) h mg d x xs:=by
 have hn:d.name=x:=eC (List.find?_some (p:=fun e:DefRec=>e.name==x) hd);obtain⟨a,o,pm,code,doc,h1,h2,h3,h4⟩:=T.fn d (List.mem_of_find?_eq_some hd);simp only[jG,g9,Bool.not_eq_true',kh]at hp;obtain⟨⟨⟨⟨p1,p2⟩,p3⟩,p4⟩,p5⟩:=hp;refine⟨a,docDef d.name d.params d.body d.scope pm code doc,hn▸h1,⟨⟨o,ghost_get hT h2 (fun q=>by rw[q]at h3;cases h3),h3⟩, ?_,rfl,rfl,rfl,rfl,fun vals hl=>kD p1 p2 rfl hl,p3,p4,p5⟩,rfl,hn,o,h2,h3⟩;obtain⟨c,oc,vs,t,e1,e2,e3,e4⟩:=h4;refine⟨c,oc,vs,t,e1,ghost_get hT e2 (fun q=>?_),e3,e4⟩;rw[q]at e3;cases e3;simp at e4
theorem FB (T:Top p loose mean mg mb h)(hg:∀n x d,nm[n]?=some x->gl n=some d->valOf p x=some d/\sok d=true):g8 (fh prog w h mg mb c1 P1 c2 P2 pos1 pos2 nm) gl:=fun n x d hn hd=>by obtain⟨h1,h2⟩:=hg n x d hn hd;obtain⟨v,e,r⟩:=T.const x d h1;exact⟨v,e,fun O h'=>⟨[],r h',⟨fun a m=>(by cases m),h2⟩⟩⟩
theorem gc_end (hT:TabsAt [(c1,P1),(c2,P2)] s₁.heap)(X:Ext (fh prog w s₁.heap mg mb c1 P1 c2 P2 pos1 pos2 nm) s₁ s')(r:av w [] s'.heap v (.bool true))(hg:s₁.gens=#[])
  (hr:∀a x,cw.raises a x=false)(hp:cw.post args (.bool true) args=true):GoodWG cw cl mean args s₁ (.ok (.ret v)) s':=by
 obtain rfl:=r.bool_inv;obtain⟨sg,so⟩:=X.same;have keep:∀b o,b≠P1->b≠P2->s₁.heap.get? b=some o->s'.heap.get? b=some o:=fun b o n1 n2 e=>X.base.keep b o (ghost_ne e (by simp;exact⟨n1,n2⟩));have tabs:∀b,(b=P1\/b=P2)->isCodeTable s₁.heap b/\s₁.heap.get? b=some (tabObj #[])/\∃ps,s'.heap.get? b=some (tabObj ps):=fun b hb=>by
  have h1:=hT (c1,P1) (by simp);have h2:=hT (c2,P2) (by simp);have m1:=X.base.memo ⟨c1,P1,pos1, "_int2digits.<locals>.inner"⟩ (by show _∈[_,_];simp);have m2:=X.base.memo ⟨c2,P2,pos2, "_digits2int.<locals>.inner"⟩ (by show _∈[_,_];simp);rcases hb with rfl|rfl
  .obtain⟨_,ps,e,_⟩:=m1;exact⟨(h1.1.tab h1.2).isCodeTable,h1.2,ps,e⟩
  .obtain⟨_,ps,e,_⟩:=m2;exact⟨(h2.1.tab h2.2).isCodeTable,h2.2,ps,e⟩
 refine⟨.inl ⟨.bool true, .bool true,[],rfl,fun cls=>hr _ _, .bool true,hp,fun _=>⟨.nil,fun a m=>by cases m⟩⟩,⟨fun b o e=>?_,fun b o e=>?_⟩,so, .of_eq (sg.trans hg)⟩
 .by_cases hb:b=P1\/b=P2
  .obtain⟨t1,t2,ps,t3⟩:=tabs b hb;rw[t2]at e;obtain rfl:=aC e;exact .inr (.inl ⟨t1,rfl,#[],ps,rfl,by rw[Array.empty_append];exact t3⟩)
  .exact .inl (keep b o (fun q=>hb (.inl q)) (fun q=>hb (.inr q)) e)
 .by_cases hb:b=P1\/b=P2
  .obtain⟨t1,t2,ps,t3⟩:=tabs b hb;exact⟨_,t3⟩
  .exact⟨o,keep b o (fun q=>hb (.inl q)) (fun q=>hb (.inr q)) e⟩
end
end
section
section
variable {G:GC}{A:Around}
structure GQ (G:GC)(env law:Env)(s s':Shared)(e:Addr):Prop where
 same:s'.gens=s.gens/\s'.os=s.os
 pos:0<s'.toks
 via:∃h2 L2 t,eh s.heap h2/\aX G h2/\(∀b,h2.get? b=none->s.heap.get? b=none)/\s.heap.get? L2=none/\(∃o es ep,h2.get? L2=some o/\o.data=.dict es ep) /\
  Heap.FlyingW (hideAll h2 [L2,env.locals,law.locals]) [env,law] e (.type "ZeroDivisionError") t s'.heap/\h2.UpToSlots s'.heap
theorem An {env env2 law:Env}{e L2:Addr}{Q:Unit->Shared->Prop}{E:bg}(hfr:A.frames=some [env2,env,law])(hf:env.frame=some env.locals)(hlf:law.frame=some law.locals)(hlk:law.scope.kind=.function)(hf2:env2.frame=some L2)(hk:env.scope.kind=.function)(hk2:env2.scope.kind=.function)
  (x:Ext G s s2)(hL:∃m,s2.heap.Ns env.locals m)(hLl:∃m,s2.heap.Ns law.locals m)(hL2:s.heap.get? L2=none)(hns2:∃m,s2.heap.Ns L2 m)(hx:Heap.NewExc s2.heap h' e "ZeroDivisionError")
  (q:∀s',GQ G env law s s' e->Q () s'):wpAny (br G) A (leaving env2 (.ref e)) Q E { s2 with heap:=h' }:=by
 obtain⟨m,hm⟩:=hL;obtain⟨ml,hml⟩:=hLl;obtain⟨m2,hm2⟩:=hns2;obtain⟨ob,t,he,hc,hd⟩:=hx.there;have hen:(hideAll s2.heap [L2,env.locals,law.locals]).get? e=none:=by
  cases q:(hideAll s2.heap [L2,env.locals,law.locals]).get? e with
  |none=>rfl
  |some o=>have:=of_hideAll _ q;rw[hx.new]at this;exact nn this
 have fx:({ s2 with heap:=h' }:Shared).heap.FunFrames (hideAll s2.heap [L2,env.locals,law.locals]) [env2,env,law] :=
  .cons (by rw[hk2];decide) hf2 (hm2.keeps hx.keeps) (hideAll_none _ (by simp)) (.cons (by rw[hk];decide) hf (hm.keeps hx.keeps) (hideAll_none _ (by simp)) (.cons (by rw[hlk];decide) hlf (hml.keeps hx.keeps) (hideAll_none _ (by simp)) trivial))
 refine wpAny_leaving_firstW (base:=hideAll s2.heap [L2,env.locals,law.locals]) (a0:=t) hfr fx hf2 he (fun b o hb=>hx.keeps b o (of_hideAll _ hb)) hen hd rfl rfl fun h3 hl=>?_;obtain⟨k1,k2,k3,k4⟩:=hl;have xp:=x.pos;obtain⟨o2,es2,ep2,e3,e4,_⟩:=id hm2;refine q _ ⟨x.same,xp,s2.heap,L2,t,x.keep,x.base,x.back,hL2,⟨o2,es2,ep2,e3,e4⟩,⟨k1,hen,k2.2.2, ?_⟩,fun b o hb hn=>?_⟩
 .rw[hc]at k3;exact k3
 .exact k4 b o (hx.keeps b o hb) hn
theorem Gb {env law:Env}{f:Fn}{fd:FuncData}{body:dY}{xs:List Str}{a:Addr}{Oc:a9}{s:Shared}{vs:eU}{ds:List D}{ib:Nat}{ts:Expr}{np rp ip:Pos}{els rest:dY}{Q:bg}{E:bg}
  (ok:oI G)(hh:A.handled=none)(hr:A.depth<recursionLimit)(hu:A.units+103<cLine)(hfr:A.frames=some [env,law])(hf:env.frame=some env.locals)(hlf:law.frame=some law.locals)(hlk:law.scope.kind=.function)(hk:env.scope.kind=.function)(hL:∃m,s.heap.Ns env.locals m)(hLl:∃m,s.heap.Ns law.locals m)
  (B:aX G s.heap)(p:0<s.toks)(ov:dB Oc s.heap)(r:ai G.w Oc s.heap vs ds)(Df:gP G a fd body xs)(hf0:hJ G.names f fd xs=true)(hl:ds.length=f.params.length)
  (hbody:body=.If ts [.Raise (some (.Name "ZeroDivisionError" np)) none rp] els ip::rest) (hown:f.own=[])(hc:bn ⟨G.names,fd.scope.names,[]⟩ (.q .Eq (.v ib) (.l (.int 0))) ts=true) (hv:(bx [] f.params ds).get ib=some (.int 0))
  (hzk:fd.scope.names.lookup ("ZeroDivisionError" : Str)=some .globalImplicit) (hzm:G.mg "ZeroDivisionError" = none) (q:∀e s',GQ G env law s s' e->E (.ref e) s'):wpAny (br G) A (call (.ref a) vs) Q E s:=by
 refine lA ok hh hr B p ov r Df hf0 hl fun s1 O M FF hM X1 E' hE'=>?_;generalize henv:callEnvC fd s.heap.objs.size a=env2 at FF hE' ⊢;have e1:env2.scope=fd.scope:=by rw[<- henv];rfl
 have e2:env2.frame=some env2.locals:=by rw[<- henv];rfl
 have I1:=FF.inv;have hfn:=I1.envr.fn;rw[hown]at I1;have X:cy G (A.deeper env2) S0 ⟨G.names,fd.scope.names,[]⟩ env2 dG:=⟨rfl,by rw[e1],fun n=>by simp,hfn,Cp,vm,hh,by show A.units+3+100<cLine;assumption⟩;subst hbody;rw[arm_execs_cons];refine aN (wpAny_If ((aD _ X hc).2 true ?_ s1 I1 _ _ fun s2 x2=>?_))
 .exact bi (bi (ab hv) (bi rfl rfl)) rfl
 .refine y7 rfl ?_;have I2:=I1.ext x2;rw[arm_execs_cons];refine aN (Raise_classB hh excClass_ZeroDivisionError excClass_ZeroDivisionError.self (d8 I2 ?_ rfl hzm (by decide +kernel) (by decide) ⟨rfl,rfl⟩) fun h' e hn=>hE' _ _ ?_)
  .show env2.scope.names.lookup _=_;rw[e1];exact hzk
  .have hml:=FF.ml;have fl:=hM _ hml;obtain⟨m,hm⟩:=hL;have xx:=X1.trans x2;obtain⟨m2,hm2,_⟩:=I2.envr.ns;obtain⟨ml,hll⟩:=hLl;exact An (Around.frames_deeper hfr) hf hlf hlk e2 hk (by rw[e1];exact Df.kind) xx ⟨m,j8 hm xx.keep⟩ ⟨ml,j8 hll xx.keep⟩ fl ⟨m2,hm2⟩ hn fun s' F=>q e s' F
end
end
section
section
variable {G:GC}{A:Around}{S:cL}{env law:Env}{own:dK}{O Oc M:a9}{ρ:aB}{d:D}{ns:Nk}
def Ew (kk:Str->Option NameKind)(x:Stmt)(K:Bool->Str->dU->Str->Str->CmpOp->Const->Bool):Bool:=xI x fun bd hs z2 z3 _=>bK z2 <| bK z3 <| aZ bd fun y _=>lI y fun tn v=>bD tn fun yy np=>tI v fun es lp=>aZ es fun e0 er=>bY e0 fun y as=>gE hs fun hd=>Mp hd fun a n b _=>fQ a fun a=>bD a fun z _=>gF n <| gE b fun b=>fm b fun r _=>fQ r fun r=>xE r fun l o k=>bD l fun wn _=>eB k fun k _ _ =>
 K (gZ kk yy np (.List (e0::er) lp)) y as z wn o k
theorem Ex {kk:Str->Option NameKind}{x:Stmt}{K:Bool->Str->dU->Str->Str->CmpOp->Const->Bool}{P:Stmt->Prop}(h:Ew kk x K=true)
  (f:∀yy np1 lp er ap bd' tp y cp as p z zp hp rp wn wp o k kn kp kp',K (gZ kk yy np1 (.List (.Call (.Name y cp) as [] p::er) lp)) y as z wn o k=true->P (.Try (.Assign [.Name yy np1] (.List (.Call (.Name y cp) as [] p::er) lp) ap::bd') [.ExceptHandler (some (.Name z zp)) none [.Return (some (.Compare (.Name wn wp) [o] [.Constant k kn kp'] kp)) rp] hp] [] [] tp)):P x:=by
 delta Ew at h
 refine nF (P:=P) h fun bd hs z2 z3 tp h=>?_;refine aJ h fun h=>?_;refine aJ h fun h=>?_;refine ar h fun y bd' h=>?_;refine eA h fun tn v ap h=>?_;refine aF h fun yy np1 h=>?_;refine jC h fun es lp h=>?_;refine ar h fun e0 er h=>?_;generalize hsw:gZ kk yy np1 (.List (e0::er) lp)=sw at h;refine aP (P:=fun e0=>gZ kk yy np1 (.List (e0::er) lp)=sw->P (.Try (.Assign [.Name yy np1] (.List (e0::er) lp) ap::bd') hs [] [] tp)) h (fun y cp as p h=>?_) hsw;intro hsw;refine aS h fun hd h=>?_;refine Dr h fun ha hn hb hp h=>?_;refine da h fun ha h=>?_;refine aF h fun z zp h=>?_;refine cZ h fun h=>?_;refine aS h fun b h=>?_;refine dH h fun r rp' h=>?_;refine da h fun r h=>?_;refine nC h fun l o k kp h=>?_;refine aF h fun wn wp h=>?_;refine cA h fun k kn kp' h=>?_;exact f _ _ _ _ _ _ _ _ _ _ _ _ _ _ _ _ _ _ _ _ _ _ (hsw▸h)
def Jm (c:Cx)(args:Es)(w:Nat)(x:Stmt):Bool:=Ew (fun y=>c.sc.lookup y) x fun sw y as z wn o k =>
 (hH c y&&y==("int_divmod" : Str)&&dC c args as&&hH c z&&z==("ZeroDivisionError" : Str)&&!sw&&nX k (.int 0)&&(decide (o=.Eq)&&c.nm[w]?==some wn&&c.sc.lookup wn==some .local&&!(wn==("__debug__" : Str))))
set_option tactic.hygienic true in
theorem HE {k:Const}(h:nX k (.int 0)=true):k=.int 0:=by
 cases k
 case int j=>exact congrArg _ (eC h)
 all_goals exact ff h
theorem GN {c:Cx}{args:Es}{w:Nat}{x:Stmt}{P:Stmt->Prop}(h:Jm c args w x=true)
  (f:∀yy np1 lp er ap bd' tp cp as p zp hp rp wn wp kn kp kp',hH c "int_divmod" = true->dC c args as=true->hH c "ZeroDivisionError" = true->gZ (fun y=>c.sc.lookup y) yy np1 (.List (.Call (.Name "int_divmod" cp) as [] p::er) lp)=false->c.nm[w]?=some wn->c.sc.lookup wn=some .local->(wn==("__debug__" : Str))=false ->
   P (.Try (.Assign [.Name yy np1] (.List (.Call (.Name "int_divmod" cp) as [] p::er) lp) ap::bd') [.ExceptHandler (some (.Name "ZeroDivisionError" zp)) none [.Return (some (.Compare (.Name wn wp) [.Eq] [.Constant (.int 0) kn kp'] kp)) rp] hp] [] [] tp)):P x :=
 Ex h fun yy np1 lp er ap bd' tp y cp as p z zp hp rp wn wp o k kn kp kp' h=>uq h fun h1 h2 h3 h4 h5 h6 h7 h=>ig h fun h8 h9 h10 h11=>by obtain rfl:=eC h2;obtain rfl:=eC h5;obtain rfl:=bX h8;obtain rfl:=HE h7;exact f yy np1 lp er ap bd' tp cp as p zp hp rp wn wp kn kp kp' h1 h3 h4 ((Bool.not_eq_true' _).mp h6) (eC h9) (eC h10) ((Bool.not_eq_true' _).mp h11)
theorem JV {P:Addr->Prop}{a b c d:Addr}(h:d∈[a,b,c])(ha:P a)(hb:P b)(hc:P c):P d:=by
 rcases bM h with h|h
 .exact h▸ha
 .rcases bM h with h|h
  .exact h▸hb
  .exact aV h▸hc
theorem De {h:Heap}{a:Addr}{m:Str->Option Value}(x:h.Ns a m){o:Obj}(e:h.get? a=some o):EC o:=by obtain⟨o',es,ep,e',d,_⟩:=x;rw[e']at e;obtain rfl:=aC e;exact gB d
theorem Ey {xs:List Str}{a0:Addr}{ib w:Nat}{ts:Expr}{np rp ip:Pos}{els rest:dY}{args:Es}{a:Int}{x:Stmt}{s:Shared}{Q:Flow->Shared->Prop}{E:bg}
  (ok:oI G)(hh:A.handled=none)(hr:A.depth<recursionLimit)(hu:A.units+103<cLine)(hfr:A.frames=some [env,law])(hf:env.frame=some env.locals)(hlf:law.frame=some law.locals)(hlk:law.scope.kind=.function)
  (Xo:cy G A S c env own)(hm0:G.mg "int_divmod" = some (.ref a0)) (Df:gP G a0 fd body xs)(hf0:hJ G.names f0 fd xs=true)(hpar:f0.params=[11,ib])(hown:f0.own=[])
  (hbody:body=.If ts [.Raise (some (.Name "ZeroDivisionError" np)) none rp] els ip::rest) (hc:bn ⟨G.names,fd.scope.names,[]⟩ (.q .Eq (.v ib) (.l (.int 0))) ts=true) (hzk:fd.scope.names.lookup ("ZeroDivisionError" : Str)=some .globalImplicit) (hzm:G.mg "ZeroDivisionError" = none)
  (F:FI G A env own O Oc M ρ s)(hl0:G.h₀.get? law.locals=none)(hLl:∃m,s.heap.Ns law.locals m)(h:Jm c args w x=true)(he:kI S ρ args=some [.int a, .int 0])(hw:ρ.get w=some (.int 0))(hwo:w∉own.ns)
  (q:∀s',bl G (law.locals::M) s s'->Q (.ret (.bool true)) s'):wpAny (br G) A (exec x env) Q E s:=by
 refine GN (P:=fun x=>wpAny (br G) A (exec x env) Q E s) h fun yy np1 lp er ap bd' tp cp as p zp hp rp wn wp kn kp kp' h1 h3 h4 h6 h9 h10 h11=>?_;have hfn:=F.inv.envr.fn;obtain⟨g1,g2⟩:=Xo.glob h1;obtain⟨z1,z2⟩:=Xo.glob h4;obtain⟨o,ho,hdat⟩:=Df.at';have es1:=bb args (O:=O) (ρ:=ρ) Xo h3;refine wpAny_Try_except ?_;rw[arm_execs_cons];refine aN (wpAny_Assign_Name (wpAny_List ?_) (by rw[jO hfn,show env.kindOf=fun y=>c.sc.lookup y from funext fun y=>by show env.scope.names.lookup y=_;rw[Xo.sc],h6]));rw[cr (x:=.Call (.Name "int_divmod" cp) as [] p) rfl];refine spliced_cons (wpAny_Call_Name_kw (im F.inv g1 g2 hm0 ?_));refine callWith_function_kw (o:=o) (fd:=fd) (bc es1.ns (es1.el _ he s p F.inv _ _ fun vs s1 x1 r1=>⟨⟨x1.base.keep _ _ ho,hdat⟩, ?_⟩));have F1:=F.ext x1;obtain⟨m,hm,hmv⟩:=F1.inv.envr.ns;obtain⟨ml,hml⟩:=hLl;have hml1:=j8 hml x1.keep;refine Gb (env:=env) (law:=law) ok hh hr hu hfr hf hlf hlk hfn ⟨m,hm⟩ ⟨ml,hml1⟩ x1.base x1.pos F1.inv.ov r1 Df hf0 (by rw[hpar];rfl) hbody hown hc (by rw[hpar];show aB.get (aB.set [(11, .int a)] ib (.int 0)) ib=_;rw[aB.get_set,if_pos rfl]) hzk hzm fun e s' Fl=>?_;obtain⟨sm,ps,h2,L2,t,kp,B2,back2,hL2,hd2,fly,up⟩:=Fl;refine wpAny_looks_onW hfr hf fly fun h4 held4 sm4=>?_;refine wpAny_landsW held4 fun h5 fly5 sm5=>?_;obtain⟨ob,hob,hobc⟩:=fly5.there;have hl2:G.h₀.get? L2=none:=bA (fun o q=>F1.inv.base.keep _ o q) hL2;have hb0:∀b o,G.h₀.get? b=some o->(hideAll h2 [L2,env.locals,law.locals]).get? b=some o:=fun b o e=>hideAll_get _ (B2.keep b o e) (fun m=>Option.noConfusion rfl (heq_of_eq (e.symm.trans (JV (P:=fun b=>G.h₀.get? b=none) m hl2 F1.inv.envr.lfr hl0))));refine wpAny_handleBy_builtin (X:="ZeroDivisionError") (T:="ZeroDivisionError") (b:=true) (isSubtype_of_subB (by decide +kernel)) (isSubtype_of_subB (by decide +kernel)) (isSubtype_of_subB (by decide +kernel)) ?_;refine Name_function_global hfn z1 (loadGlobal_builtin (mg:=G.mg) (mb:=G.mb) ?_ hzm ?_ ((ok.bt _ (by decide)).trans (by decide +kernel:bootBuiltins ("ZeroDivisionError" : Str)=some (.type "ZeroDivisionError"))) ⟨rfl,⟨ob,hob,hobc⟩, ?_⟩) z2
 .rw[F1.inv.envr.gl];exact ok.g.at' fun o e=>fly5.1 _ o (hb0 _ o e)
 .rw[F1.inv.envr.bi];exact ok.b.at' fun o e=>fly5.1 _ o (hb0 _ o e)
 .rw[if_pos rfl];refine lands_againW fly5 fun h6 fly6 sm6=>?_;have up6:h2.UpToSlots h6:=((up.trans sm4).trans sm5).trans sm6;have K:∀b o,b∉[L2,env.locals,law.locals]->h2.get? b=some o->h6.get? b=some o:=fun b o n e=>fly6.1 b o (hideAll_get _ e n);have hm2:h2.Ns env.locals m:=j8 hm kp;have hm6:h6.Ns env.locals m:=up6.ns hm2;have hml2:h2.Ns law.locals ml:=j8 hml1 kp;obtain⟨o5,es5,ep5,e7,e8⟩:=hd2;have B6:aX G h6:=B2.but (W:=[L2,env.locals,law.locals]) (fun b o n e=>K b o n e) (fun a ma=>JV (P:=fun a=>G.h₀.get? a=none) ma hl2 F1.inv.envr.lfr hl0) fun a ma =>
   JV (P:=fun a=>∀o,h2.get? a=some o->EC o) ma (fun o e=>gB (aC (e7.symm.trans e)▸e8)) (fun _=>De hm2) fun _=>De hml2
  have kl:env.kindOf wn=some .local:=by show env.scope.names.lookup wn=_;rw[Xo.sc];exact h10
  obtain⟨v,ev1,rv⟩:=hmv w wn (.int 0) (Xo.nm▸h9) kl hw;unfold cG at rv;rw[if_neg hwo]at rv;obtain⟨tv,rfl⟩:=rv.int_inv;have ps6:0<s'.toks:=ps;rw[arm_execs_cons];refine aN ?_;rw[arm_exec_Return];refine aN (wpAny_standAt (aN (wpAny_Compare1 (wpAny_Name (wpAny_loadName_local hfn kl hm6 ev1 ?_) h11) rfl)));refine wpAny_Constant_int ?_;refine mG (G:=G) (O:=[]) (s:={ s' with heap:=h6,toks:=s'.toks+1 }) (a:=.int 0) (b:=.int 0) (d:=.bool true) B6 (Nat.succ_pos _) ?_ (.int) (.int) rfl _ _ fun v s7 x7 r7=>?_
  .show A.units+100<cLine;exact fy (Nat.add_le_add_left (by decide) _) hu
  .obtain rfl:=r7.bool_inv;refine bB (bB (q s7 ?_));have xs7:bl G (law.locals::M) s1 { s' with heap:=h6,toks:=s'.toks+1 }:=⟨sm,fun b o n e c=>K b o (fun ma =>
     JV (P:=fun b=>b∉law.locals::M->s1.heap.get? b=some o->False) ma (fun _ e=>Option.noConfusion rfl (heq_of_eq (hL2.symm.trans e))) (fun n _=>n (.tail _ F.ml)) (fun n _=>n (.head _)) n e) (kp b o e c),B6,Nat.succ_pos _,fun b nb e=>by
    by_cases w:b=L2
    .exact w▸hL2
    .cases q:h2.get? b with
     |none=>exact back2 b q
     |some o=>exact Option.noConfusion rfl (heq_of_eq ((show h6.get? b=none from e).symm.trans (K b o (fun ma =>
       JV (P:=fun b=>b≠L2->b∉law.locals::M->False) ma (fun n _=>n rfl) (fun _ n=>n (.tail _ F.ml)) (fun _ n=>n (.head _)) w nb) q)))⟩
   exact x1.sext.trans (xs7.trans x7.sext)
end
end
section
section
variable {G:GC}{A:Around}{S:cL}{law:Env}{Oc:a9}
theorem bl.fresh (x:bl G M s s')(nM:∀a∈M',a∈M\/s.heap.get? a=none)(y:bl G (l::M') s' s''):bl G (l::M) s s'':=
 ⟨iS x.same y.same,fun b o n e c=>y.keep b o (fun m=>by
  rcases bM m with q|m
  .exact n (q▸.head _)
  .rcases nM b m with q|q
   .exact n (.tail _ q)
   .rw[q]at e;exact nn e) (x.keep b o (fun m=>n (.tail _ m)) e c) c,y.base,y.pos,fun b n e=>by
  by_cases m:b∈M'
  .rcases nM b m with q|q
   .exact absurd (.tail _ q) n
   .exact q
  .exact x.back b (fun q=>n (.tail _ q)) (y.back b (fun q=>by
    rcases bM q with q|q
    .exact n (q▸.head _)
    .exact m q) e)⟩
def Jl (c:Cx)(a0 a1 a2 a3:St)(args:Es)(w:Nat)(b:dY):Bool:=aZ b fun x0 b=>aZ b fun x1 b=>aZ b fun x2 b=>aZ b fun x3 b=>aZ b fun x4 _ =>
 (wZ c a0 x0&&wZ c a1 x1&&wZ c a2 x2&&wZ c a3 x3&&Jm c args w x4)
theorem GK {a0 a:Addr}{ib w:Nat}{ts:Expr}{np rp ip:Pos}{els rest:dY}{y0 y1 y2 y3:St}{args:Es}{n:Int}{ρ1 ρ2 ρ3 ρ4:aB}{ds:List D}{vs:eU}{s:Shared}{Q:bg}{E:bg}
  (ok:oI G)(hh:A.handled=none)(hr:A.depth+1<recursionLimit)(hu:A.units+3+103<cLine)(hfr:A.frames=some [law])(hlf:law.frame=some law.locals)(hlk:law.scope.kind=.function)(hl0:G.h₀.get? law.locals=none)(hLl:∃m,s.heap.Ns law.locals m)
  (hm0:G.mg "int_divmod" = some (.ref a0)) (Df0:gP G a0 fd0 body0 xs0)(hf0:hJ G.names f0 fd0 xs0=true)(hpar:f0.params=[11,ib])(hown:f0.own=[])
  (hbody:body0=.If ts [.Raise (some (.Name "ZeroDivisionError" np)) none rp] els ip::rest) (hc:bn ⟨G.names,fd0.scope.names,[]⟩ (.q .Eq (.v ib) (.l (.int 0))) ts=true) (hzk:fd0.scope.names.lookup ("ZeroDivisionError" : Str)=some .globalImplicit) (hzm:G.mg "ZeroDivisionError" = none)
  (B:aX G s.heap)(p:0<s.toks)(ov:dB Oc s.heap)(r:ai G.w Oc s.heap vs ds)(Df:gP G a fd body xs)(hf:ve G.names f fd body xs=true)(F:∀env,kq G (A.deeper env) S.cal)(gl:g8 G S.gl)(hrz:S.rz=false)(hfo:f.own=[])(hl:ds.length=f.params.length)
  (h:Jl ⟨G.names,fd.scope.names,[]⟩ y0 y1 y2 y3 args w body=true)(e0:ex S (bx [] f.params ds) y0=some (.n ρ1))(e1:ex S ρ1 y1=some (.n ρ2))(e2:ex S ρ2 y2=some (.n ρ3))(e3:ex S ρ3 y3=some (.n ρ4))(he:kI S ρ4 args=some [.int n, .int 0])(hw:ρ4.get w=some (.int 0))
  (q:∀s',bl G [law.locals] s s'->Q (.bool true) s'):wpAny (br G) A (call (.ref a) vs) Q E s:=by
 obtain⟨h10,hck⟩:=bH hf;obtain⟨_,hfh⟩:=bH h10;refine lA ok hh (Nat.lt_of_succ_lt hr) B p ov r Df hfh hl fun s1 O M FF hM X1 E' _=>?_;have Z:JB G (A.deeper (callEnvC fd s.heap.objs.size a)) S ⟨G.names,fd.scope.names,f.own⟩ (callEnvC fd s.heap.objs.size a) ⟨f.own,none⟩:=fun g=>by rw[hrz]at g;exact ff g
 have FX:iC G (A.deeper (callEnvC fd s.heap.objs.size a)) S ⟨G.names,fd.scope.names,f.own⟩ (callEnvC fd s.heap.objs.size a) ⟨f.own,none⟩ :=
  ⟨fun own hn=>⟨rfl,rfl,fun n=>by rw[hn];simp,Df.kind,F _,gl,hh,(fy (Nat.add_le_add_left (by decide) _) hu:A.units+3+100<cLine)⟩,fun y c e=>.inl (by
   have m:=(dm _ _ _ _ (show(y,c)∈cellsFrom (s.heap.objs.size+1) fd.scope.names []from mem_of_lookup e)).1;have:=bQ hck _ m;have h9:fd.scope.names.lookup y=some .cell:=by simpa using this
   exact h9),(fun p e=>za e),fun _=>Z⟩
 rw[hfo]at FX FF;have e5:(callEnvC fd s.heap.objs.size a).frame=some (callEnvC fd s.heap.objs.size a).locals:=rfl;generalize callEnvC fd s.heap.objs.size a=env at FF FX E' e5 ⊢;unfold Jl at h;refine ar (P:=fun b=>wpAny (br G) (A.deeper env) (execs b env) _ E' s1) h fun x0 b h=>?_;refine ar h fun x1 b h=>?_;refine ar h fun x2 b h=>?_;refine ar h fun x3 b h=>?_;refine ar h fun x4 b h=>?_;refine qZ h fun c0 c1 c2 c3 c4=>?_;have hn0:(⟨[],fun _=>none⟩:dK).is ⟨[],none⟩:=⟨rfl,fun p e=>za e⟩;rw[arm_execs_cons];refine aN (jo y0 FX c0 e0 _ O M s1 hn0 FF _ _ (fun ρ' own' O1 M1 s2 eo i1 F1 st1=>?_) fun d v s' eo=>jg.noConfusion eo);obtain rfl:=jx eo;show wpAny (br G) (A.deeper env) (execs (x1::x2::x3::x4::b) env) _ _ _;rw[arm_execs_cons];refine aN (jo y1 FX c1 e1 _ O1 M1 s2 i1 F1 _ _ (fun ρ' own' O2 M2 s3 eo i2 F2 st2=>?_) fun d v s' eo=>jg.noConfusion eo);obtain rfl:=jx eo;show wpAny (br G) (A.deeper env) (execs (x2::x3::x4::b) env) _ _ _;rw[arm_execs_cons];refine aN (jo y2 FX c2 e2 _ O2 M2 s3 i2 F2 _ _ (fun ρ' own' O3 M3 s4 eo i3 F3 st3=>?_) fun d v s' eo=>jg.noConfusion eo);obtain rfl:=jx eo;show wpAny (br G) (A.deeper env) (execs (x3::x4::b) env) _ _ _;rw[arm_execs_cons];refine aN (jo y3 FX c3 e3 _ O3 M3 s4 i3 F3 _ _ (fun ρ' own' O4 M4 s5 eo i4 F4 st4=>?_) fun d v s' eo=>jg.noConfusion eo);obtain rfl:=jx eo;show wpAny (br G) (A.deeper env) (execs (x4::b) env) _ _ _;rw[arm_execs_cons];have st:=cz.trans FF.mO st1 (cz.trans F1.mO st2 (cz.trans F2.mO st3 st4));obtain⟨ml,hml⟩:=hLl;have hl5:s5.heap.Ns law.locals ml:=by
  obtain⟨o,es,ep,g1,g2,g3⟩:=id hml;have n1:law.locals∉M:=fun m=>by rw[hM _ m]at g1;exact nn g1
  have sd:gu o:=.inr fun vs q=>by rw[g2]at q;cases q
  exact⟨o,es,ep,st.sx.keep _ _ n1 (X1.keep _ _ g1 sd) sd,g2,g3⟩
 refine aN (Ey (law:=law) (own:=own') ok hh hr hu (Around.frames_deeper hfr) e5 hlf hlk (FX.cx own' i4.1) hm0 Df0 hf0 hpar hown hbody hc hzk hzm F4 hl0 ⟨ml,hl5⟩ c4 he hw (by rw[i4.1];exact fun m=>nomatch m) fun s6 x6=>bB (q s6 ?_));exact(X1.sext (W:=[])).fresh (fun b m=>.inr (hM b m)) (st.sx.fresh st.nM x6)
theorem Jp (h:∀{f:Nat}{x:Str}{ds:List D}{d:D},G.names[f]?=some x->S.cal (f+1000) ds=some d->d=.bool true/\∃a o fd,G.mg x=some (.ref a)/\G.h₀.get? a=some o/\o.data=.func fd /\
   ∀{O:a9}{s:Shared}{vs:eU}{Q:bg}{E:bg},aX G s.heap->0<s.toks->dB O s.heap->ai G.w O s.heap vs ds->G.h₀.get? env.locals=none->(∃m,s.heap.Ns env.locals m)->(∀s',bl G [env.locals] s s'->Q (.bool true) s')->wpAny (br G) A (call (.ref a) vs) Q E s)
  (X:∀own,own.ns=ns.l->cy G A S c env own):JB G A S c env ns:=fun _ f args x ρ Oc ds d hx he hd=>by
 obtain⟨_,hx⟩:=bH (show(vN c&&fm x fun z _=>fQ z fun v=>bY v fun y es=>(hH c y&&c.nm[f]?==some y&&dC c args es))=true from hx);refine dH (P:=fun x=>cP G A (exec x env) env Oc ns ρ (.r d)) hx fun z pos hx=>?_;refine da hx fun v hx=>?_;refine aP (P:=fun v=>cP G A (exec (.Return (some v) pos) env) env Oc ns ρ (.r d)) hx fun y np es p hx=>?_;obtain⟨hx,h3⟩:=bH hx;obtain⟨h1,h2⟩:=bH hx;intro own O M s hn F Q E _ q2;have Xo:=X own hn.1;obtain⟨g1,g2⟩:=Xo.glob h1;obtain⟨rfl,a,o,fd,hm,ho,hdat,hcall⟩:=h (Xo.nmOf h2) hd;have es1:=bb args (O:=O) (ρ:=ρ) Xo h3;rw[arm_exec_Return];refine aN (wpAny_standAt (aN (wpAny_Call_Name_kw (im F.inv g1 g2 hm ?_))));refine callWith_function_kw (o:=o) (fd:=fd) (bc es1.ns (es1.el _ he s p F.inv _ _ fun vs s1 x1 r1=>⟨⟨x1.base.keep _ _ ho,hdat⟩, ?_⟩));have F1:=F.ext x1;obtain⟨m,hm1,_⟩:=F1.inv.envr.ns;exact hcall x1.base x1.pos F1.inv.ov r1 F.inv.envr.lfr ⟨m,hm1⟩ fun s' sx=>bB (q2 _ _ s' rfl (x1.sext.trans (sx.mono fun a ma=>by rw[aV ma];exact F.ml)) .bool)
end
end
section
noncomputable def gL:List Str:=[("a_digits" : Str),("inner" : Str),("n" : Str),("x" : Str),("L" : Str),("R" : Str),("mid" : Str),("shift" : Str),("upper" : Str),("lower" : Str),("digits" : Str),("a" : Str),("_div2n1n" : Str),("r" : Str),("q1" : Str),("half_n" : Str),("q2" : Str),("pad" : Str),("_div3n2n" : Str),("b2" : Str),("b1" : Str),("b" : Str),("mask" : Str),("_DIV_LIMIT" : Str),("_divmod_pos" : Str),("q" : Str),("_digits2int" : Str),("q_digits" : Str),("a_digit" : Str),("q_digit" : Str),("_int2digits" : Str),("int_divmod" : Str),("_ellipsis_match" : Str),("w" : Str),("ws" : Str),("startpos" : Str),("got" : Str),("endpos" : Str),("want" : Str),("ELLIPSIS_MARKER" : Str),("_escape_cdata" : Str),("text" : Str),("_escape_attrib" : Str),("_escape_attrib_html" : Str),("_escape_cdata_c14n" : Str),("_escape_attrib_c14n" : Str),("_law_written" : Str),("kind" : Str),("_law_spelled" : Str),("names" : Str),("sign" : Str)]
noncomputable def iX:Fn:=⟨[11,21,2],[],(.c (.i (.q .LtE (.b .Sub (.m .bitlen (.v 11) .n) (.v 2)) (.g 23)) (.c (.r (.f .divmod (.c (.v 11) (.c (.v 21) .n)))) .n) .n) (.c (.s 17 (.b .BitAnd (.v 2) (.l (.int 1)))) (.c (.i (.v 17) (.c (.aug 11 .LShift (.l (.int 1))) (.c (.aug 21 .LShift (.l (.int 1))) (.c (.aug 2 .Add (.l (.int 1))) .n))) .n) (.c (.s 15 (.b .RShift (.v 2) (.l (.int 1)))) (.c (.s 22 (.b .Sub (.b .LShift (.l (.int 1)) (.v 15)) (.l (.int 1)))) (.c (.u [20,19] (.t (.c (.b .RShift (.v 21) (.v 15)) (.c (.b .BitAnd (.v 21) (.v 22)) .n)))) (.c (.u [14,13] (.c 18 (.c (.b .RShift (.v 11) (.v 2)) (.c (.b .BitAnd (.b .RShift (.v 11) (.v 15)) (.v 22)) (.c (.v 21) (.c (.v 20) (.c (.v 19) (.c (.v 15) .n)))))))) (.c (.u [16,13] (.c 18 (.c (.v 13) (.c (.b .BitAnd (.v 11) (.v 22)) (.c (.v 21) (.c (.v 20) (.c (.v 19) (.c (.v 15) .n)))))))) (.c (.i (.v 17) (.c (.aug 13 .RShift (.l (.int 1))) .n) .n) (.c (.r (.t (.c (.b .BitOr (.b .LShift (.v 14) (.v 15)) (.v 16)) (.c (.v 13) .n)))) .n))))))))))⟩
noncomputable def fS:Fn:=⟨[11,21],[27],(.c (.s 2 (.m .bitlen (.v 21) .n)) (.c (.s 0 (.c 30 (.c (.v 11) (.c (.v 2) .n)))) (.c (.s 13 (.l (.int 0))) (.c (.newO 27 .n) (.c (.l [28] (.rev (.v 0)) (.c (.u [29,13] (.c 12 (.c (.b .Add (.b .LShift (.v 13) (.v 2)) (.v 28)) (.c (.v 21) (.c (.v 2) .n))))) (.c (.a 27 (.v 29)) .n))) (.c (.rev 27) (.c (.s 25 (.ocall 26 27 (.c (.v 2) .n))) (.c (.r (.t (.c (.v 25) (.c (.v 13) .n)))) .n))))))))⟩
noncomputable def bL:Fn:=⟨[11,21],[],(.c (.i (.q .Eq (.v 21) (.l (.int 0))) (.c .hole .n) (.c (.i (.q .Lt (.v 21) (.l (.int 0))) (.c (.u [25,13] (.c 31 (.c (.n (.v 11)) (.c (.n (.v 21)) .n)))) (.c (.r (.t (.c (.v 25) (.c (.n (.v 13)) .n)))) .n)) (.c (.i (.q .Lt (.v 11) (.l (.int 0))) (.c (.u [25,13] (.c 31 (.c (.w (.v 11)) (.c (.v 21) .n)))) (.c (.r (.t (.c (.w (.v 25)) (.c (.b .Add (.v 21) (.w (.v 13))) .n)))) .n)) (.c (.r (.c 24 (.c (.v 11) (.c (.v 21) .n)))) .n)) .n)) .n)) .n)⟩
noncomputable def bU:Fn:=⟨[38,36],[34],(.c (.i (.q .NotIn (.g 39) (.v 38)) (.c (.r (.q .Eq (.v 38) (.v 36))) .n) .n) (.c (.splitO 34 (.v 38) (.g 39)) (.c (.assert (.q .GtE (.olen 34) (.l (.int 2)))) (.c (.u [35,37] (.t (.c (.l (.int 0)) (.c (.f .len (.c (.v 36) .n)) .n)))) (.c (.s 33 (.oget 34 (.l (.int 0)))) (.c (.i (.v 33) (.c (.i (.m .startswith (.v 36) (.c (.v 33) .n)) (.c (.s 35 (.f .len (.c (.v 33) .n))) (.c (.del 34 (0)) .n)) (.c (.r (.l (.bool false))) .n)) .n) .n) (.c (.s 33 (.oget 34 (.n (.l (.int 1))))) (.c (.i (.v 33) (.c (.i (.m .endswith (.v 36) (.c (.v 33) .n)) (.c (.aug 37 .Sub (.f .len (.c (.v 33) .n))) (.c (.del 34 (-1)) .n)) (.c (.r (.l (.bool false))) .n)) .n) .n) (.c (.i (.q .Gt (.v 35) (.v 37)) (.c (.r (.l (.bool false))) .n) .n) (.c (.grow 34 [33] (.c (.s 35 (.m .find3 (.v 36) (.c (.v 33) (.c (.v 35) (.c (.v 37) .n))))) (.c (.i (.q .Lt (.v 35) (.l (.int 0))) (.c (.r (.l (.bool false))) .n) .n) (.c (.aug 35 .Add (.f .len (.c (.v 33) .n))) .n)))) (.c (.r (.l (.bool true))) .n)))))))))))⟩
noncomputable def dz:Fn:=⟨[41],[],(.c (.tryE (.c (.i (.q .In (.l (.str "&")) (.v 41)) (.c (.s 41 (.r (.v 41) "&" "&amp;")) .n) .n) (.c (.i (.q .In (.l (.str "<")) (.v 41)) (.c (.s 41 (.r (.v 41) "<" "&lt;")) .n) .n) (.c (.i (.q .In (.l (.str ">")) (.v 41)) (.c (.s 41 (.r (.v 41) ">" "&gt;")) .n) .n) (.c (.r (.v 41)) .n))))) .n)⟩
noncomputable def dh:Fn:=⟨[41],[],(.c (.tryE (.c (.i (.q .In (.l (.str "&")) (.v 41)) (.c (.s 41 (.r (.v 41) "&" "&amp;")) .n) .n) (.c (.i (.q .In (.l (.str "<")) (.v 41)) (.c (.s 41 (.r (.v 41) "<" "&lt;")) .n) .n) (.c (.i (.q .In (.l (.str ">")) (.v 41)) (.c (.s 41 (.r (.v 41) ">" "&gt;")) .n) .n) (.c (.i (.q .In (.l (.str "\"")) (.v 41)) (.c (.s 41 (.r (.v 41) "\"" "&quot;")) .n) .n) (.c (.i (.q .In (.l (.str "\r")) (.v 41)) (.c (.s 41 (.r (.v 41) "\r" "&#13;")) .n) .n) (.c (.i (.q .In (.l (.str "\n")) (.v 41)) (.c (.s 41 (.r (.v 41) "\n" "&#10;")) .n) .n) (.c (.i (.q .In (.l (.str "\t")) (.v 41)) (.c (.s 41 (.r (.v 41) "\t" "&#09;")) .n) .n) (.c (.r (.v 41)) .n))))))))) .n)⟩
noncomputable def bP:Fn:=⟨[41],[],(.c (.tryE (.c (.i (.q .In (.l (.str "&")) (.v 41)) (.c (.s 41 (.r (.v 41) "&" "&amp;")) .n) .n) (.c (.i (.q .In (.l (.str ">")) (.v 41)) (.c (.s 41 (.r (.v 41) ">" "&gt;")) .n) .n) (.c (.i (.q .In (.l (.str "\"")) (.v 41)) (.c (.s 41 (.r (.v 41) "\"" "&quot;")) .n) .n) (.c (.r (.v 41)) .n))))) .n)⟩
noncomputable def bZ:Fn:=⟨[41],[],(.c (.tryE (.c (.i (.q .In (.l (.str "&")) (.v 41)) (.c (.s 41 (.r (.v 41) "&" "&amp;")) .n) .n) (.c (.i (.q .In (.l (.str "<")) (.v 41)) (.c (.s 41 (.r (.v 41) "<" "&lt;")) .n) .n) (.c (.i (.q .In (.l (.str ">")) (.v 41)) (.c (.s 41 (.r (.v 41) ">" "&gt;")) .n) .n) (.c (.i (.q .In (.l (.str "\r")) (.v 41)) (.c (.s 41 (.r (.v 41) "\r" "&#xD;")) .n) .n) (.c (.r (.v 41)) .n)))))) .n)⟩
noncomputable def bO:Fn:=⟨[41],[],(.c (.tryE (.c (.i (.q .In (.l (.str "&")) (.v 41)) (.c (.s 41 (.r (.v 41) "&" "&amp;")) .n) .n) (.c (.i (.q .In (.l (.str "<")) (.v 41)) (.c (.s 41 (.r (.v 41) "<" "&lt;")) .n) .n) (.c (.i (.q .In (.l (.str "\"")) (.v 41)) (.c (.s 41 (.r (.v 41) "\"" "&quot;")) .n) .n) (.c (.i (.q .In (.l (.str "\t")) (.v 41)) (.c (.s 41 (.r (.v 41) "\t" "&#x9;")) .n) .n) (.c (.i (.q .In (.l (.str "\n")) (.v 41)) (.c (.s 41 (.r (.v 41) "\n" "&#xA;")) .n) .n) (.c (.i (.q .In (.l (.str "\r")) (.v 41)) (.c (.s 41 (.r (.v 41) "\r" "&#xD;")) .n) .n) (.c (.r (.v 41)) .n)))))))) .n)⟩
noncomputable def cV:Fn:=⟨[47,41],[],(.c (.i (.q .Lt (.v 47) (.l (.int 2))) (.c (.r (.e (.q .Eq (.v 47) (.l (.int 0))) (.c 40 (.c (.v 41) .n)) (.c 42 (.c (.v 41) .n)))) .n) .n) (.c (.i (.q .Lt (.v 47) (.l (.int 4))) (.c (.r (.e (.q .Eq (.v 47) (.l (.int 2))) (.c 43 (.c (.v 41) .n)) (.c 44 (.c (.v 41) .n)))) .n) .n) (.c (.r (.c 45 (.c (.v 41) .n))) .n)))⟩
noncomputable def dT : Fn := ⟨[47, 41], [], (.c (.s 49 (.s (.i (.c (.d [("&", "&amp;"), ("<", "&lt;"), (">", "&gt;")]) (.c (.d [("&", "&amp;"), ("<", "&lt;"), (">", "&gt;"), ("\"", "&quot;"), ("\r", "&#13;"), ("\n", "&#10;"), ("\t", "&#09;")]) (.c (.d [("&", "&amp;"), (">", "&gt;"), ("\"", "&quot;")]) (.c (.d [("&", "&amp;"), ("<", "&lt;"), (">", "&gt;"), ("\r", "&#xD;")]) (.c (.d [("&", "&amp;"), ("<", "&lt;"), ("\"", "&quot;"), ("\r", "&#xD;"), ("\n", "&#xA;"), ("\t", "&#x9;")]) .n)))))) (.v 47))) (.c (.r (.m .join (.l (.str "")) (.c (.p (.m .get (.v 49) (.c (.v 50) (.c (.v 50) .n))) (.c [50] (.e (.v 41)) .n .n)) .n))) .n))⟩
noncomputable def bC (n:Nat):Option D:=if n=23 then some (.int 4000)else if n=39 then some (.str "...")else none
noncomputable def nI (p:Program)(x:Str):Option DefRec:=(recsOf p).find? (·.name==x)
def eY (nm:List Str)(p:Program)(x:Str)(f:Fn)(xs:List Str):Bool:=fQ (nI p x) fun d=>ve nm f (docDef d.name d.params d.body d.scope .none .none .none) d.body xs&&jG d xs
end
end Internal
section
namespace Internal
open PySem.StrLaws PySem.Builtin.Str
noncomputable def iA (c:Nat)(z:aH)(l:aH):aH:=l.flatMap fun k=>if k=c then z else[k]
theorem lY (c:Nat)(z a b:aH):iA c z (a++b)=iA c z a++iA c z b:=by simp[iA]
theorem gK:∀{l:aH},c∉l->iA c z l=l
 |[],_=>rfl
 |k::r,h=>by have h1:¬ k=c:=fun e=>h (e▸dX);have:=gK (z:=z) fun m=>h (dP _ m);unfold iA at this ⊢;rw[List.flatMap_cons,if_neg h1,this];rfl
theorem qE (c:Nat)(z:aH):∀parts:List Str,(∀p∈parts,c∉p.cps.toList)->iA c z (Str.join ⟨#[c]⟩ parts).cps.toList=(Str.join ⟨z.toArray⟩ parts).cps.toList
 |[],_=>rfl
 |[p],h=>gK (h p (List.mem_singleton.mpr rfl))
 |p::q::r,h=>by have ih:=qE c z (q::r) fun a ha=>h a (dP _ ha);show iA c z (p++⟨#[c]⟩++Str.join ⟨#[c]⟩ (q::r)).cps.toList=(p++⟨z.toArray⟩++Str.join ⟨z.toArray⟩ (q::r)).cps.toList;simp only[Str.cps_append,Array.toList_append];rw[lY,lY,ih,gK (h p dX)];show p.cps.toList++iA c z [c]++_=_;simp[iA]
theorem tQ (x z:Str)(c:Nat):(Txt.replace x ⟨#[c]⟩ z).cps.toList=iA c z.cps.toList x.cps.toList:=by have:z=⟨z.cps.toList.toArray⟩:=Str.ext' (by simp);rw[replace_one,this,<- qE c _ _ (split_free x c),join_split]
theorem Str.of_list {x y:Str}(h:x.cps.toList=y.cps.toList):x=y:=Str.ext' (Array.toList_inj.mp h)
theorem nK (x y:Str):Txt.startswith x y=y.cps.toList.isPrefixOf x.cps.toList:=by
 unfold Txt.startswith;rw[subAt_eq,List.drop_zero,Bool.eq_iff_iff,g9,kh,beq_iff_eq,List.isPrefixOf_iff_prefix,List.prefix_iff_eq_take];have e1:y.length=y.cps.toList.length:=by simp[Str.length]
 have e2:x.length=x.cps.toList.length:=by simp[Str.length]
 rw[e1,e2];constructor
 .intro h;exact h.2.symm
 .intro h;refine⟨?_,h.symm⟩;have:=congrArg List.length h;rw[List.length_take]at this
  lia
theorem ry (x y:Str):Txt.endswith x y=y.cps.toList.isSuffixOf x.cps.toList:=by
 unfold Txt.endswith;rw[subAt_eq,Bool.eq_iff_iff,g9,kh,beq_iff_eq,List.isSuffixOf_iff_suffix,List.suffix_iff_eq_drop];have e1:y.length=y.cps.toList.length:=by simp[Str.length]
 have e2:x.length=x.cps.toList.length:=by simp[Str.length]
 rw[e1,e2];constructor
 .rintro ⟨h1,h2⟩
  rw[List.take_of_length_le (by rw[List.length_drop];exact Nat.le_of_eq (Nat.sub_sub_self (az (Nat.le_of_eq (Nat.zero_add _).symm) h1)))]at h2;exact h2.symm
 .intro h;have hl:=congrArg List.length h;rw[List.length_drop]at hl;refine⟨az (Nat.le_of_eq ((Nat.zero_add _).trans hl)) (Nat.sub_le _ _), ?_⟩;rw[List.take_of_length_le (by rw[List.length_drop];exact Nat.le_of_eq hl.symm)];exact h.symm
theorem kt:∀{a:Nat}{c1 c2:aH}{f1 f2:Nat},ChainG x y hi a c1 f1->ChainG x y hi a c2 f2->(∀k,f1<=k->¬ At x y hi k)->(∀k,f2<=k->¬ At x y hi k)->c1=c2
 |a,[],[],_,_,_,_,_,_=>rfl
 |a,[],c::r,f1,f2,h1,h2,n1,_=>by have e:f1=a:=h1;exact absurd h2.2.1 (n1 c (e▸h2.1))
 |a,c::r,[],f1,f2,h1,h2,_,n2=>by have e:f2=a:=h2;exact absurd h1.2.1 (n2 c (e▸h1.1))
 |a,c::r,d::q,f1,f2,h1,h2,n1,n2=>by
  have e:c=d:=by
   rcases Nat.lt_trichotomy c d with h|h|h
   .exact absurd h1.2.1 (h2.2.2.1 c h1.1 h)
   .exact h
   .exact absurd h2.2.1 (h1.2.2.1 d h2.1 h)
  subst e;rw[kt h1.2.2.2 h2.2.2.2 n1 n2]
noncomputable def dots:Str:="..."
theorem jU:dots.cps.toList=[46,46,46]:=by decide
theorem gy:dots.length=3:=by decide
noncomputable def bR:List aH->aH
 |[]=>[]
 |[p]=>p
 |p::q::r=>p++[46,46,46]++bR (q::r)
noncomputable def o7:Nat->List aH->aH
 |a,p::q::r=>(a+p.length)::o7 (a+p.length+3) (q::r)
 |_,_=>[]
theorem sQ (h:At x dots x.length k):x.cps.toList[k]?=some 46:=by
 obtain⟨h1,h2⟩:=h;rw[subAt_eq,gy,jU,beq_iff_eq]at h2;have:=congrArg (·[0]?) h2
 simpa [List.getElem?_take,List.getElem?_drop]using this
theorem mP:∀{ps:List aH}{a:Nat},ps≠[]->(∀p∈ps,46∉p)->x.cps.toList.drop a=bR ps->a<=x.cps.toList.length ->
  (∃f,ChainG x dots x.length a (o7 a ps) f/\∀k,f<=k->¬ At x dots x.length k)/\(partsFrom x 3 a (o7 a ps)).map (·.cps.toList)=ps
 |[],_,h,_,_,_=>absurd rfl h
 |[p],a,_,hf,hd,ha=>by
  have hl:x.length=x.cps.toList.length:=by simp[Str.length]
  refine⟨⟨a,rfl,fun k hk hA=>?_⟩, ?_⟩
  .have h1:=sQ hA;have:p[k-a]?=some 46:=by have e:p=x.cps.toList.drop a:=hd.symm;rw[e,List.getElem?_drop,show a+(k-a)=k by lia];exact h1
   exact hf p (List.mem_singleton.mpr rfl) (Ib this)
  .show[(strSub x a x.length).cps.toList]=[p];rw[strSub_toList,hd,List.take_of_length_le]
   .rfl
   .have e:=congrArg List.length hd;rw[List.length_drop]at e;show(bR [p]).length<=_;rw[<- e,hl];exact gC _
 |p::q::r,a,_,hf,hd,ha=>by
  have hl:x.length=x.cps.toList.length:=by simp[Str.length]
  have hd':x.cps.toList.drop a=p++([46,46,46]++bR (q::r)):=by rw[hd];exact List.append_assoc ..
  have hlen:=congrArg List.length hd';simp only[List.length_drop,lla,nR,List.length_nil]at hlen;have hd2:x.cps.toList.drop (a+p.length+3)=bR (q::r):=by rw[show a+p.length+3=a+(p.length+3) by lia,<- List.drop_drop,hd',List.drop_append,List.drop_of_length_le (by lia),List.nil_append,show p.length+3-p.length=3 by lia];rfl
  obtain⟨⟨f,c1,c2⟩,e⟩:=mP (x:=x) (ps:=q::r) (a:=a+p.length+3) (by simp) (fun s m=>hf s (dP _ m)) hd2 (by lia);have hA:At x dots x.length (a+p.length):=by refine⟨by rw[gy,hl];lia, ?_⟩;rw[subAt_eq,gy,jU,beq_iff_eq,<- List.drop_drop,hd',List.drop_append,List.drop_of_length_le (by exact gC _),List.nil_append,Nat.sub_self];rfl
  refine⟨⟨f,⟨je _ _,hA,fun k h1 h2 hB=>?_,by rw[gy];exact c1⟩,c2⟩, ?_⟩
  .have h3:=sQ hB;have:p[k-a]?=some 46:=by
    have e:(x.cps.toList.drop a)[k-a]?=some 46:=by rw[List.getElem?_drop,show a+(k-a)=k by lia];exact h3
    rw[hd',List.getElem?_append_left (by lia)]at e;exact e
   exact hf p dX (Ib this)
  .show(strSub x a (a+p.length)).cps.toList::(partsFrom x 3 (a+p.length+3) (o7 (a+p.length+3) (q::r))).map (·.cps.toList)=_;rw[e,strSub_toList,hd',show a+p.length-a=p.length by lia,List.take_left'];rfl
theorem yc (hx:x.cps.toList=bR ps)(hn:2<=ps.length)(hf:∀p∈ps,46∉p):(Txt.split x dots).map (·.cps.toList)=ps:=by
 have hne:ps≠[]:=fun e=>by rw[e]at hn;simp at hn
 obtain⟨⟨f,c1,c2⟩,e⟩:=mP (x:=x) (a:=0) hne hf (by simpa using hx) (nv _);obtain⟨f',d1,d2⟩:=occ_tight x dots (by rw[gy];decide);have ho:=kt d1 c1 d2 c2;rcases ps with⟨⟩|⟨p,⟨⟩|⟨q,r⟩⟩
 .exact absurd rfl hne
 .exact absurd hn (by decide:¬ 2<=1)
 .have hA:=c1.2.1;have hl:=hA.1;unfold Txt.split;rw[if_neg (by simp only[Bool.or_eq_true,kh,not_or,Nat.not_lt];exact⟨by lia,PySem.W.kind_le _ _ hA.2⟩),ho,if_neg (show¬ (o7 0 (p::q::r)).isEmpty=true from nP),partsBetween_eq,gy];exact e
end Internal
end
namespace Internal
section
variable {S:cL}{cal:Nat->List D->Option D}{gl:Nat->Option D}{rz:Bool}
theorem af (h:ex S ρ s=some (.n ρ'))(h':eK S ρ' r=o):eK S ρ (.c s r)=o:=by
 have e:eK S ρ (.c s r)=match ex S ρ s with|some (.n ρ')=>eK S ρ' r|o=>o:=rfl
 rw[e,h];exact h'
theorem aE (h:ex S ρ s=some (.r d)):eK S ρ (.c s r)=some (.r d):=by
 have e:eK S ρ (.c s r)=match ex S ρ s with|some (.n ρ')=>eK S ρ' r|o=>o:=rfl
 rw[e,h]
theorem aY (h:evT S ρ c=some t)(h':(if t then eK S ρ a else eK S ρ b)=o):ex S ρ (.i c a b)=o:=bi h (by cases t <;> exact h')
theorem aA (h:ev S ρ e=some d):ex S ρ (.s n e)=some (.n (ρ.set n d)):=by have e':ex S ρ (.s n e)=(ev S ρ e).map fun d=>.n (aB.set ρ n d):=rfl;rw[e',h];rfl
theorem cE (h:ev S ρ e=some d):ex S ρ (.r e)=some (.r d):=by have e':ex S ρ (.r e)=(ev S ρ e).map .r:=rfl;rw[e',h];rfl
theorem dg (hl:ds.length=f.params.length)(h:eK S (bx [] f.params ds) f.body=some (.r d)):aW S f ds=some d:=by unfold aW;rw[if_pos hl,h];rfl
noncomputable abbrev tx (l:aH):Str:=⟨l.toArray⟩
abbrev an (l:aH):D:=.str (tx l)
noncomputable def eV (T:List (Nat × aH))(k:Nat):aH:=(T.lookup k).getD [k]
def bJ (T:List (Nat × aH))(l:aH):aH:=l.flatMap (eV T)
theorem uX (T:List (Nat × aH))(a b:aH):bJ T (a++b)=bJ T a++bJ T b:=by simp[bJ]
theorem B7 (l:aH):bJ [] l=l:=by unfold bJ eV;simp
theorem vI {T:List (Nat × aH)}:(T++[(c,z)]).lookup k=match T.lookup k with|some v=>some v|none=>if k=c then some z else none:=by
 induction T with
 |nil =>
  by_cases h:k=c
  .subst h;simp
  .have:(k==c)=false:=by simpa using h
   simp[List.lookup_cons,this,h]
 |cons p r ih =>
  obtain⟨a,v⟩:=p;rw[List.cons_append,List.lookup_cons,List.lookup_cons];cases k==a
  .exact ih
  .rfl
theorem uZ {c:Nat}{z:aH}(h:∀p∈T,c∉p.2)(l:aH):iA c z (bJ T l)=bJ (T++[(c,z)]) l:=by
 unfold bJ iA;rw[List.flatMap_assoc]
 congr 1
 funext k
 have e:eV (T++[(c,z)]) k=match T.lookup k with|some v=>v|none=>if k=c then z else[k]:=by
  unfold eV;rw[vI];cases T.lookup k with
  |some v=>rfl
  |none =>
   by_cases q:k=c
   .simp[q]
   .simp[q]
 rw[e];unfold eV;cases q:T.lookup k with
 |none=>simp
 |some v =>
  have hm:(k,v)∈T:=by
   clear e h
   induction T with
   |nil=>exact nn q
   |cons p r ih =>
    obtain⟨a,u⟩:=p;rw[List.lookup_cons]at q;cases hb:k==a with
    |true=>rw[hb]at q;obtain rfl:=aC q;rw[eC hb];exact dX
    |false=>rw[hb]at q;exact dP _ (ih q)
  exact gK (h _ hm)
def uk (l:aH):Prop:=l.length<=100000/\∀c∈l,c<55296
noncomputable def Dm (T:List (Nat × aH)):Bool:=T.all fun p=>decide (p.2.length<=6)&&p.2.all fun c=>decide (c<55296)
theorem sT (hT:Dm T=true)(hk:k<55296):(eV T k).length<=6/\∀c∈eV T k,c<55296:=by
 unfold eV;cases q:T.lookup k with
 |none=>simp;exact hk
 |some v =>
  have hm:(k,v)∈T:=by
   clear hT
   induction T with
   |nil=>exact nn q
   |cons p r ih =>
    obtain⟨a,u⟩:=p;rw[List.lookup_cons]at q;cases hb:k==a with
    |true=>rw[hb]at q;obtain rfl:=aC q;rw[eC hb];exact dX
    |false=>rw[hb]at q;exact dP _ (ih q)
  have:=bQ hT _ hm;simp only[g9,kh,List.all_eq_true]at this;exact this
theorem jV (hT:Dm T=true):∀{l:aH},(∀c∈l,c<55296)->(bJ T l).length<=6*l.length/\∀c∈bJ T l,c<55296
 |[],_=>⟨gC _,fun c m=>by cases m⟩
 |k::r,h=>by
  obtain⟨h1,h2⟩:=jV hT (l:=r) fun c m=>h c (dP _ m);obtain⟨g1,g2⟩:=sT hT (h k dX);have e:bJ T (k::r)=eV T k++bJ T r:=by simp[bJ]
  rw[e];refine⟨by rw[lla,nR];lia,fun c m=>?_⟩;rcases dx m with m|m
  .exact g2 c m
  .exact h2 c m
theorem kU (h1:l.length<=16777216)(h2:∀c∈l,c<55296):sok (an l)=true:=by show(PyData.strOk (tx l)&&decide ((tx l).length<=16777216))=true;rw[g9,kh];refine⟨?_,by simpa [Str.length]using h1⟩;show(tx l).cps.all (· < 0x110000)=true;rw[Array.all_eq_true'];intro c hc;have:=h2 c (by simpa using hc);exact eD (by exact rJ ‹_› rfl)
theorem B8 (hy:y=⟨#[c]⟩)(hl:uk l)(hT:Dm (T++[(c,z.cps.toList)])=true)(hf:∀p∈T,c∉p.2)(hT0:Dm T=true)(hg:ρ.get v=some (an (bJ T l))) :
  ∃ρ',ex S ρ (.i (.q .In (.l (.str y)) (.v v)) (.c (.s v (.r (.v v) y z)) .n) .n)=some (.n ρ')/\ρ'.get v=some (an (bJ (T++[(c,z.cps.toList)]) l)):=by
 subst hy;have hlen:=jV hT0 (l:=l) hl.2;have hlen2:=jV hT (l:=l) hl.2;have ev1:evT S ρ (.q .In (.l (.str ⟨#[c]⟩)) (.v v))=some (decide (c∈bJ T l)):=by refine bi (x:=.bool (!(Builtin.Str.occurrences (tx (bJ T l)) ⟨#[c]⟩ 0 (tx (bJ T l)).length 1).isEmpty)) (bi rfl (bi hg rfl)) ?_;show some (!(Builtin.Str.occurrences (tx (bJ T l)) ⟨#[c]⟩ 0 (tx (bJ T l)).length 1).isEmpty)=_;rw[PySem.StrLaws.found_one]
 have hrep:Txt.replace (tx (bJ T l)) ⟨#[c]⟩ z=tx (bJ (T++[(c,z.cps.toList)]) l):=by refine Str.of_list ?_;rw[tQ,<- uZ hf]
 by_cases hc:c∈bJ T l
 .refine⟨ρ.set v (an (bJ (T++[(c,z.cps.toList)]) l)),aY ev1 ?_,by rw[aB.get_set,if_pos rfl]⟩;rw[eD hc,if_pos rfl];refine af (aA ?_) rfl;refine si hg ?_;show(if decide ((tx (bJ T l)).length+((tx (bJ T l)).length+1)*z.length<=16777216)&&sok (.str (Txt.replace (tx (bJ T l)) ⟨#[c]⟩ z))then some (PyData.str (Txt.replace (tx (bJ T l)) ⟨#[c]⟩ z))else none)=_;have hz:z.length<=6:=by
   have:=bQ hT (c,z.cps.toList) (by simp);simp only[g9,kh]at this;have h1:=this.1
   simpa [Str.length]using h1
  have hx:(tx (bJ T l)).length=(bJ T l).length:=by simp[Str.length]
  have hlx:=hl.1;rw[hrep,if_pos];rw[g9,kh];refine⟨?_,kU (by lia) hlen2.2⟩;rw[hx];have:((bJ T l).length+1)*z.length<=((bJ T l).length+1)*6:=Nat.mul_le_mul_left _ hz;clear hrep hx hlen2
  lia
 .refine⟨ρ,aY ev1 ?_, ?_⟩
  .rw[fH hc];rfl
  .rw[hg,<- uZ hf,gK hc]
noncomputable def n9 (v:Nat):List (Str × Str)->oK
 |[]=>.c (.r (.v v)) .n
 |(y,z)::r=>.c (.i (.q .In (.l (.str y)) (.v v)) (.c (.s v (.r (.v v) y z)) .n) .n) (n9 v r)
noncomputable def bu (ps:List (Str × Str)):List (Nat × aH):=ps.map fun p=>(p.1.cps.getD 0 0,p.2.cps.toList)
noncomputable def sU (T:List (Nat × aH)):List (Str × Str)->Bool
 |[]=>Dm T
 |(y,z)::r=>decide (y=⟨#[y.cps.getD 0 0]⟩)&&Dm T&&T.all (fun p=>!p.2.contains (y.cps.getD 0 0))&&sU (T++[(y.cps.getD 0 0,z.cps.toList)]) r
theorem uY (hl:uk l):∀{ps:List (Str × Str)}{T:List (Nat × aH)}{ρ:aB},sU T ps=true->ρ.get v=some (an (bJ T l))->eK S ρ (n9 v ps)=some (.r (an (bJ (T++bu ps) l)))
 |[],T,ρ,_,hg=>by have:T++bu []=T:=List.append_nil T;rw[this];exact aE (cE hg)
 |(y,z)::r,T,ρ,h,hg=>by
  obtain⟨h,h4⟩:=bH h;obtain⟨h,h3⟩:=bH h;obtain⟨h1,h2⟩:=bH h;have h1:=bX h1;have hT:Dm (T++[(y.cps.getD 0 0,z.cps.toList)])=true:=by
   cases r with
   |nil=>exact h4
   |cons p r=>exact(bH (bH (bH h4).1).1).2
  obtain⟨ρ',e1,e2⟩:=B8 (S:=S) (c:=y.cps.getD 0 0) (y:=y) (z:=z) h1 hl hT (fun p m=>by have:=bQ h3 p m;simpa using this) h2 hg;have:=uY hl (ps:=r) h4 e2;rw[List.append_assoc]at this;exact af e1 this
theorem lm (hf:f=⟨[v],[], .c (.tryE (n9 v ps)) .n⟩)(hw:sU [] ps=true)(hl:uk l):aW S f [an l]=some (an (bJ (bu ps) l)):=by subst hf;refine dg rfl (aE ?_);show eK S [(v,an l)] (n9 v ps)=_;have:=uY (S:=S) hl (ps:=ps) (T:=[]) (ρ:=[(v,an l)]) hw (by rw[aB.get_cons,if_pos rfl,B7]);rw[List.nil_append]at this;exact this
noncomputable def Fi:List (Str × Str):=[("&", "&amp;"),("<", "&lt;"),(">", "&gt;")]
noncomputable def Fj : List (Str × Str) := [("&", "&amp;"), ("<", "&lt;"), (">", "&gt;"), ("\"", "&quot;"), ("\r", "&#13;"), ("\n", "&#10;"), ("\t", "&#09;")]
noncomputable def Fk : List (Str × Str) := [("&", "&amp;"), (">", "&gt;"), ("\"", "&quot;")]
noncomputable def Fm:List (Str × Str):=[("&", "&amp;"),("<", "&lt;"),(">", "&gt;"),("\r", "&#xD;")]
noncomputable def HK : List (Str × Str) := [("&", "&amp;"), ("<", "&lt;"), ("\"", "&quot;"), ("\t", "&#x9;"), ("\n", "&#xA;"), ("\r", "&#xD;")]
def cW:Nat->List (Str × Str)
 |0=>Fi|1=>Fj|2=>Fk|3=>Fm|_=>HK
theorem AW (hl:uk l):aW S dz [an l]=some (an (bJ (bu Fi) l)):=lm (v:=41) (ps:=Fi) rfl (by decide +kernel) hl
theorem xV (hl:uk l):aW S dh [an l]=some (an (bJ (bu Fj) l)):=lm (v:=41) (ps:=Fj) rfl (by decide +kernel) hl
theorem DJ (hl:uk l):aW S bP [an l]=some (an (bJ (bu Fk) l)):=lm (v:=41) (ps:=Fk) rfl (by decide +kernel) hl
theorem vX (hl:uk l):aW S bZ [an l]=some (an (bJ (bu Fm) l)):=lm (v:=41) (ps:=Fm) rfl (by decide +kernel) hl
theorem tR (hl:uk l):aW S bO [an l]=some (an (bJ (bu HK) l)):=lm (v:=41) (ps:=HK) rfl (by decide +kernel) hl
end
section
variable {S:cL}
noncomputable def Ep:Nat->Nat
 |0=>40|1=>42|2=>43|3=>44|_=>45
theorem jT (a b:Int):cY .Lt (.int a) (.int b)=some (.bool (decide (a<b))):=rfl
theorem lf (a b:Int):cY .Eq (.int a) (.int b)=some (.bool (decide (a=b))):=rfl
theorem E3 (a b:Int):cY .NotEq (.int a) (.int b)=some (.bool (!decide (a=b))):=rfl
theorem ly {P:Nat->Prop}(h0:P 0)(h1:P 1)(h2:P 2)(h3:P 3)(h4:P 4)(k:Nat)(h:k<5):P k:=by
 rcases k with _|_|_|_|_|k
 .exact h0
 .exact h1
 .exact h2
 .exact h3
 .exact h4
 .exact absurd h (Nat.not_lt.mpr (Nat.le_add_left 5 k))
theorem v7 (hk:k<5){x d:D}:S.cal (Ep k) [x]=some d->aW S cV [aa k,x]=some d:=
 ly (P:=fun k=>S.cal (Ep k) [x]=some d->aW S cV [aa k,x]=some d)
  (fun h=>dg rfl (aE (aY (t:=true) rfl (aE (cE h)))))
  (fun h=>dg rfl (aE (aY (t:=true) rfl (aE (cE h)))))
  (fun h=>dg rfl (af (aY (t:=false) rfl rfl) (aE (aY (t:=true) rfl (aE (cE h))))))
  (fun h=>dg rfl (af (aY (t:=false) rfl rfl) (aE (aY (t:=true) rfl (aE (cE h))))))
  (fun h=>dg rfl (af (aY (t:=false) rfl rfl) (af (aY (t:=false) rfl rfl) (aE (cE h))))) k hk
theorem pC:∀{items:List D},(∀it∈items,f it=some [g it])->eQ f items=some (items.map g)
 |[],_=>rfl
 |x::xs,h=>by exact bi (h x dX) (bi (pC fun it m=>h it (dP _ m)) rfl)
theorem Ce (hs:dZ S ρ src=some items)(h:∀it∈items,∃ρ',bE (ρ.del (tg++[])) tg it=some ρ'/\ev S ρ' elt=some (g it))(hz:(!eG src || bf (items.map g))=true:=by rfl) :
  ev S ρ (.p elt (.c tg src .n .n))=some (.list (items.map g)):=by
 refine bi (x:=items.map g) (bi hs (pC fun it m=>?_)) (if_pos (show(true&&(!eG src || bf (items.map g)))=true from hz));obtain⟨ρ',h1,h2⟩:=h it m;refine bi h1 ?_;show(ev S ρ' elt).map (fun d=>[d])=_;rw[h2];rfl
theorem pR:∀{ps:List (Str × Str)},(ps.all fun p=>decide (p.1=⟨#[p.1.cps.getD 0 0]⟩))=true->PySem.Spec.lookup (.str ⟨#[c]⟩) (ps.map fun p=>(PyData.str p.1,PyData.str p.2))=((bu ps).lookup c).map fun z=>PyData.str (tx z)
 |[],_=>rfl
 |(y,z)::r,h=>by
  simp only[List.all_cons,g9,kh]at h;obtain⟨h1,h2⟩:=h;have ih:=pR (c:=c) h2;have e:PySem.Spec.lookup (.str ⟨#[c]⟩) (((y,z)::r).map fun p=>(PyData.str p.1,PyData.str p.2))=if PySem.Spec.same (.str y) (.str ⟨#[c]⟩)then some (.str z)else PySem.Spec.lookup (.str ⟨#[c]⟩) (r.map fun p=>(PyData.str p.1,PyData.str p.2)):=rfl;have e2:(bu ((y,z)::r)).lookup c=match c==y.cps.getD 0 0 with|true=>some z.cps.toList|false=>(bu r).lookup c:=rfl
  rw[e,e2];by_cases q:c=y.cps.getD 0 0
  .have hb:(c==y.cps.getD 0 0)=true:=beq_iff_eq.mpr q;rw[hb,if_pos (by rw[h1,<- q];show(_:Str)==_;simp)];rfl
  .have hb:(c==y.cps.getD 0 0)=false:=beq_eq_false_iff_ne.mpr q;rw[hb,if_neg (fun w=>?_),ih];have w:((y:Str)==⟨#[c]⟩)=true:=w;have w:=eC w;rw[w]at q;exact q rfl
theorem vG (sep:Str):∀ts:List Str,(Txt.join sep ts).cps.toList=((ts.map fun t=>t.cps.toList).intersperse sep.cps.toList).flatten:=by
 intro ts;show(Builtin.Str.glued sep ts).cps.toList=_;rw[PySem.StrLaws.glued_eq_join]
 induction ts with
 |nil=>rfl
 |cons t ts ih =>
  cases ts with
  |nil=>simp[Str.join]
  |cons u r =>
   show(t++sep++Str.join sep (u::r)).cps.toList=_;simp only[Str.cps_append,Array.toList_append];rw[ih];simp
theorem zo:∀ls:List aH,(ls.intersperse []).flatten=ls.flatten
 |[]=>rfl
 |[x]=>rfl
 |x::y::r=>by have:=zo (y::r);simp only[List.intersperse_cons₂,List.flatten_cons,List.nil_append];rw[this];rfl
theorem pJ (ts:List Str):(Txt.join "" ts).cps.toList=(ts.map fun t=>t.cps.toList).flatten:=by rw[vG];have:(("" : Str).cps.toList)=[]:=rfl;rw[this,zo]
def jd:Nat->List (Str × Str)
 |0=>Fi|1=>Fj|2=>Fk|3=>Fm
 | _ => [("&", "&amp;"), ("<", "&lt;"), ("\"", "&quot;"), ("\r", "&#xD;"), ("\n", "&#xA;"), ("\t", "&#x9;")]
theorem Gr (k:Nat)(c:Nat):eV (bu (jd k)) c=eV (bu (cW k)) c:=by
 match k with
 |0|1|2|3=>rfl
 |n+4 =>
  show eV [(38,[38,97,109,112,59]),(60,[38,108,116,59]),(34,[38,113,117,111,116,59]),(13,[38,35,120,68,59]),(10,[38,35,120,65,59]),(9,[38,35,120,57,59])] c=eV [(38,[38,97,109,112,59]),(60,[38,108,116,59]),(34,[38,113,117,111,116,59]),(9,[38,35,120,57,59]),(10,[38,35,120,65,59]),(13,[38,35,120,68,59])] c;unfold eV;simp -iota only[List.lookup_cons,List.lookup_nil];by_cases h1:c=13
  .subst h1;rfl
  .by_cases h2:c=10
   .subst h2;rfl
   .by_cases h3:c=9
    .subst h3;rfl
    .have e1:(c==13)=false:=by simpa using h1
     have e2:(c==10)=false:=by simpa using h2
     have e3:(c==9)=false:=by simpa using h3
     rw[e1,e2,e3]
theorem vZ (hk:k<5){l:aH}(hl:uk l):aW S dT [aa k,an l]=some (an (bJ (bu (cW k)) l)):=by
 have hsub:ev S [(47,aa k),(41,an l)] (.s (.i (.c (.d (jd 0)) (.c (.d (jd 1)) (.c (.d (jd 2)) (.c (.d (jd 3)) (.c (.d (jd 4)) .n)))))) (.v 47))=some (.dict ((jd k).map fun p=>(.str p.1, .str p.2))) :=
  ly (P:=fun k=>ev S [(47,aa k),(41,an l)] _=some (.dict ((jd k).map fun p=>(.str p.1, .str p.2)))) rfl rfl rfl rfl rfl k hk
 refine dg rfl ?_;show eK S [(47,aa k),(41,an l)] _=_;refine af (aA hsub) (aE (cE ?_));have hT:Dm (bu (cW k))=true:=ly (P:=fun k=>Dm (bu (cW k))=true) (by decide +kernel) (by decide +kernel) (by decide +kernel) (by decide +kernel) (by decide +kernel) k hk;have hsp:((jd k).all fun p=>decide (p.1=⟨#[p.1.cps.getD 0 0]⟩))=true:=ly (P:=fun k=>((jd k).all fun p=>decide (p.1=⟨#[p.1.cps.getD 0 0]⟩))=true) (by decide +kernel) (by decide +kernel) (by decide +kernel) (by decide +kernel) (by decide +kernel) k hk;have hc:ev S [(47,aa k),(41,an l),(49, .dict ((jd k).map fun p=>(.str p.1, .str p.2)))] (.p (.m .get (.v 49) (.c (.v 50) (.c (.v 50) .n))) (.c [50] (.e (.v 41)) .n .n)) =
   some (.list ((l.map fun c=>tx (eV (bu (cW k)) c)).map PyData.str)):=by
  have h:=Ce (S:=S) (ρ:=[(47,aa k),(41,an l),(49, .dict ((jd k).map fun p=>(.str p.1, .str p.2)))]) (elt:=.m .get (.v 49) (.c (.v 50) (.c (.v 50) .n))) (tg:=[50]) (src:=.e (.v 41))
   (items:=l.map fun c=>an [c]) (g:=fun d=>match d with|.str x=>an (eV (bu (cW k)) (x.cps.getD 0 0))|d=>d) ?_ ?_
  .rw[h,fv,fv];rfl
  .show some ((tx l).cps.toList.map fun c=>PyData.str ⟨#[c]⟩)=_;simp
  .intro it hit;obtain⟨c,hcl,rfl⟩:=gO hit;refine⟨_,rfl, ?_⟩;show ki .get (.dict ((jd k).map fun p=>(.str p.1, .str p.2))) [an [c],an [c]]=_;have e:ki .get (.dict ((jd k).map fun p=>(.str p.1, .str p.2))) [an [c],an [c]]=ix ((PySem.Spec.lookup (an [c]) ((jd k).map fun p=>(.str p.1, .str p.2))).getD (an [c])) (fun y=>if sok (.str y)then some (.str y)else none):=rfl;rw[e,pR hsp];have e2:(((bu (jd k)).lookup c).map fun z=>PyData.str (tx z)).getD (an [c])=an (eV (bu (jd k)) c):=by unfold eV;cases (bu (jd k)).lookup c <;> rfl
   rw[e2,Gr];obtain⟨g1,g2⟩:=sT hT (hl.2 c hcl);show(if sok (an (eV (bu (cW k)) c))=true then _ else _)=_;rw[if_pos (kU (by exact rJ ‹_› rfl) g2)];rfl
 refine bi rfl (bi (ad hc (ds:=[]) rfl) ?_);have e3:ki .join (.str "") [.list ((l.map fun c=>tx (eV (bu (cW k)) c)).map PyData.str)]=match kx ((l.map fun c=>tx (eV (bu (cW k)) c)).map PyData.str)with
  |some ts=>if JoinOk "" ts&&sok (.str (Txt.join "" ts))then some (.str (Txt.join "" ts))else none
  |none=>none:=rfl
 rw[e3,lX];have hj:Txt.join "" (l.map fun c=>tx (eV (bu (cW k)) c))=tx (bJ (bu (cW k)) l):=by
  refine Str.of_list ?_;rw[pJ,fv];show _=(bJ (bu (cW k)) l).toArray.toList;rw[List.toList_toArray];unfold bJ;rw[List.flatMap_def]
  congr 1
 obtain⟨w1,w2⟩:=jV hT (l:=l) hl.2;have hl1:=hl.1;show(if(JoinOk "" (l.map fun c=>tx (eV (bu (cW k)) c))&&sok (.str (Txt.join "" (l.map fun c=>tx (eV (bu (cW k)) c)))))=true then _ else _)=_;rw[hj,if_pos];rw[g9];refine⟨?_,kU (by lia) w2⟩;unfold JoinOk;rw[PySem.StrLaws.joinFits (B:=6)]
 .rfl
 .intro y hy;obtain⟨c,hc,rfl⟩:=gO hy;have:=(sT hT (hl.2 c hc)).1
  simpa [Str.length]using this
 .have:(("" : Str).length)=0:=rfl;rw[this,dq];lia
theorem E2 (a b:Int):cY .LtE (.int a) (.int b)=some (.bool (decide (a<=b))):=rfl
theorem aL (ha:ev S ρ a=some x)(hb:ev S ρ b=some y)(h:cY o x y=some (.bool t)):evT S ρ (.q o a b)=some t:=bi (bi ha (bi hb h)) rfl
theorem jW (ha:ev S ρ a=some x)(hb:ev S ρ b=some y)(h:cY o x y=some d):ev S ρ (.q o a b)=some d:=bi ha (bi hb h)
theorem aT (h:kI S ρ es=some ds)(hc:S.cal f ds=some d):ev S ρ (.c f es)=some d:=bi h hc
theorem aj:kI S ρ .n=some []:=rfl
theorem iK (h:ev S ρ e=some (.tuple xs))(hl:xs.length=ns.length):ex S ρ (.u ns e)=some (.n (bx ρ ns xs)):=ti h (if_pos hl)
theorem yQ (hg:ρ.get n=some (.list xs))(h:ev S ρ e=some d)(hl:xs.length<1000000):ex S ρ (.a n e)=some (.n (ρ.set n (.list (xs++[d])))):=li hg (bi h (if_pos hl))
theorem ik (h:dZ S ρ src=some items)(hg:tj (fun d ρ'=>(bE ρ' tg d).bind fun ρ''=>eK S ρ'' body) items ρ=o):ex S ρ (.l tg src body)=o:=bi h hg
theorem lv (h:kI S ρ es=some ds)(hl:ds.length<=1000):ev S ρ (.t es)=some (.tuple ds):=bi h (if_pos hl)
theorem dj (h:kI S ρ es=some ds)(hl:ds.length<=1000):ev S ρ (.i es)=some (.list ds):=bi h (if_pos hl)
theorem z8 (hg:ρ.get n=some (.list xs))(h:kI S ρ es=some ds)(hc:S.cal f (.list xs::ds)=some d)(hs:tS d=true):ev S ρ (.ocall f n es)=some d:=li hg (bi h (bi hc (if_pos hs)))
theorem gn (h:f d ρ=some (.n ρ'))(h':tj f ds ρ'=o):tj f (d::ds) ρ=o:=by
 have e:tj f (d::ds) ρ=match f d ρ with|some (.n ρ')=>tj f ds ρ'|o=>o:=rfl
 rw[e,h];exact h'
theorem DH (hg:S.gl 23=some (.int 4000))(hb:b≠0)(hl:b.natAbs.log2<9000)(hs:(ib a:Int)-n<=4000):aW S iX [.int a, .int b, .int n]=some (.tuple [.int (a.fdiv b), .int (a.fmod b)]):=by
 refine dg rfl (aE (aY (t:=true) ?_ (aE (cE ?_))))
 .exact aL (x:=.int ((ib a:Int)-n)) rfl (show S.gl 23=_ from hg) (by rw[E2,eD hs])
 .show(if b != 0&&decide (b.natAbs.log2<9000)then some (PyData.tuple [.int (a.fdiv b), .int (a.fmod b)])else none)=_;rw[if_pos];rw[eD hl]
  simpa using hb
noncomputable def cN (n b:Nat):Nat->aH->aH × Nat
 |r,[]=>([],r)
 |r,d::hs=>((r*2^n+d) / b::(cN n b ((r*2^n+d) % b) hs).1,(cN n b ((r*2^n+d) % b) hs).2)
theorem lE (hb:0<b):∀{hs:aH}{r:Nat},r<b->(∀d∈hs,d<2^n) ->
  (cN n b r hs).1.length=hs.length/\(∀q∈(cN n b r hs).1,q<2^n)/\fD n (cN n b r hs).1.reverse=(r*2^(n*hs.length)+fD n hs.reverse) / b/\(cN n b r hs).2=(r*2^(n*hs.length)+fD n hs.reverse) % b
 |[],r,hr,_=>by
  refine⟨rfl,fun q m=>(by cases m), ?_, ?_⟩
  .exact(Nat.div_eq_of_lt ((Nat.mul_one r).symm▸hr)).symm
  .exact((Nat.mod_eq_of_lt ((Nat.mul_one r).symm▸hr)).trans (Nat.mul_one r)).symm
 |d::hs,r,hr,hd=>by
  obtain⟨h1,h2,h3,h4⟩:=lE hb (hs:=hs) (r:=(r*2^n+d) % b) (Nat.mod_lt _ hb) fun x m=>hd x (dP _ m);have hdd:=hd d dX;have hN:r*2^(n*(d::hs).length)+fD n (d::hs).reverse=b*((r*2^n+d) / b*2^(n*hs.length))+((r*2^n+d) % b*2^(n*hs.length)+fD n hs.reverse):=by
   rw[List.reverse_cons,gM,List.length_reverse,nR,Nat.mul_add,Nat.mul_one,Nat.pow_add];rw[show fD n [d]=d from rfl];have e:=Nat.div_add_mod (r*2^n+d) b;generalize (r*2^n+d) / b=u at e ⊢;generalize (r*2^n+d) % b=v at e ⊢;generalize 2^(n*hs.length)=p;have e2:(b*u+v)*p=(r*2^n+d)*p:=by rw[e]
   rw[Nat.add_mul,Nat.add_mul]at e2;have e3:r*(p*2^n)=r*2^n*p:=by rw[Nat.mul_comm p,Nat.mul_assoc]
   have e4:b*(u*p)=b*u*p:=by rw[Nat.mul_assoc]
   rw[e3,e4,Nat.mul_comm p d]
   lia
  rw[hN];refine⟨congrArg (· + 1) h1,fun q m=>?_, ?_, ?_⟩
  .rcases bM (show q∈(r*2^n+d) / b::(cN n b ((r*2^n+d) % b) hs).1 from m)with rfl|m
   .rw[Nat.div_lt_iff_lt_mul hb];have:(r+1)*2^n<=b*2^n:=wE _ hr;rw[Nat.add_mul,Nat.one_mul]at this;rw[Nat.mul_comm (2^n) b]
    lia
   .exact h2 q m
  .show fD n ((r*2^n+d) / b::(cN n b ((r*2^n+d) % b) hs).1).reverse=_;rw[List.reverse_cons,gM,List.length_reverse,h1,h3,Nat.mul_add_div hb];rw[show∀d,fD n [d]=d from fun _=>rfl,Nat.mul_comm (2^(n*hs.length))]
   lia
  .show(cN n b ((r*2^n+d) % b) hs).2=_;rw[h4,Nat.mul_add_mod]
theorem uP (hb:0<b)(hbn:b<=2^n)(hn:n<=4000)(h12:∀t:Nat,t<2^(2*n)->S.cal 12 [aa t,aa b,aa n]=some (.tuple [aa (t / b),aa (t % b)])) 
  (hbody:body=.c (.u [29,13] (.c 12 (.c (.b .Add (.b .LShift (.v 13) (.v 2)) (.v 28)) (.c (.v 21) (.c (.v 2) .n))))) (.c (.a 27 (.v 29)) .n)) :
  ∀{hs:aH}{r:Nat}{qs:aH}{ρ:aB},r<b->(∀d∈hs,d<2^n)->qs.length+hs.length<1000000->ρ.get 13=some (aa r)->ρ.get 2=some (aa n)->ρ.get 21=some (aa b)->ρ.get 27=some (.list (qs.map aa)) ->
   ∃ρ',tj (fun d ρ'=>(bE ρ' [28] d).bind fun ρ''=>eK S ρ'' body) (hs.map aa) ρ=some (.n ρ')/\ρ'.get 13=some (aa (cN n b r hs).2)/\ρ'.get 2=some (aa n)/\ρ'.get 27=some (.list ((qs++(cN n b r hs).1).map aa))
 |[],r,qs,ρ,_,_,_,g1,g2,_,g4=>⟨ρ,rfl,g1,g2,(List.append_nil qs).symm▸g4⟩
 |d::hs,r,qs,ρ,hr,hd,hl,g1,g2,g3,g4=>by
  subst hbody;have hdd:=hd d dX;have hrn:r<2^n:=iu hr hbn;have ht:r*2^n+d<2^(2*n):=by
   have h1:(r+1)*2^n<=2^n*2^n:=wE _ hrn;rw[Nat.add_mul,Nat.one_mul]at h1;rw[Nat.two_mul,Nat.pow_add]
   lia
  have G:∀(ρ:aB)(m k:Nat) (d:D),(ρ.set m d).get k=if k=m then some d else ρ.get k:=fun ρ m k d=>aB.get_set ρ m k d;have s1:ex S (ρ.set 28 (aa d)) (.u [29,13] (.c 12 (.c (.b .Add (.b .LShift (.v 13) (.v 2)) (.v 28)) (.c (.v 21) (.c (.v 2) .n)))))=some (.n (((ρ.set 28 (aa d)).set 29 (aa ((r*2^n+d) / b))).set 13 (aa ((r*2^n+d) % b)))):=by
   refine iK (xs:=[aa ((r*2^n+d) / b),aa ((r*2^n+d) % b)]) (aT (ds:=[aa (r*2^n+d),aa b,aa n]) (ad (ag (ag (x:=aa r) (y:=aa n) ?_ ?_ (mS hrn (by have:(2:Nat)^27=134217728:=(by decide);exact Mz ‹_› ‹_› rfl))) (y:=aa d) ?_ (eF _ _)) (ad ?_ (ad ?_ aj))) (h12 _ ht)) rfl
   all_goals (refine ab ?_;simp[G,g1,g2,g3])
  have s2:ex S (((ρ.set 28 (aa d)).set 29 (aa ((r*2^n+d) / b))).set 13 (aa ((r*2^n+d) % b))) (.a 27 (.v 29))=some (.n ((((ρ.set 28 (aa d)).set 29 (aa ((r*2^n+d) / b))).set 13 (aa ((r*2^n+d) % b))).set 27 (.list (qs.map aa++[aa ((r*2^n+d) / b)])))) :=
   yQ (by simp[G,g4]) (ab (by simp[G])) (by rw[dq];simp at hl;lia)
  obtain⟨ρ',e1,e2,e3,e4⟩:=uP hb hbn hn h12 rfl (hs:=hs) (r:=(r*2^n+d) % b) (qs:=qs++[(r*2^n+d) / b]) (ρ:=(((ρ.set 28 (aa d)).set 29 (aa ((r*2^n+d) / b))).set 13 (aa ((r*2^n+d) % b))).set 27 (.list (qs.map aa++[aa ((r*2^n+d) / b)])))
   (Nat.mod_lt _ hb) (fun x m=>hd x (dP _ m)) (by simp at hl ⊢;lia) (by simp[G]) (by simp[G,g2]) (by simp[G,g3]) (by simp[G])
  refine⟨ρ', ?_,e2,e3, ?_⟩
  .rw[fU];refine gn ?_ e1;show eK S (ρ.set 28 (aa d)) _=_;exact af s1 (af s2 rfl)
  .rw[e4,List.append_assoc];rfl
theorem zY {a n:Nat}(hn:0<n):ib (a:Int)<=n*bV a n:=by exact yC (Nat.div_add_mod (ib (a:Int)+n-1) n) (Nat.mod_lt _ hn)
theorem vK (a:Nat):a<2^ib (a:Int):=by
 unfold ib Builtin.Int.intBits;by_cases c:a=0
 .subst c;simp
 .have:((a:Int)==0)=false:=by simpa using c
  rw[this];simp only[Bool.false_eq_true,if_false,Int.natAbs_natCast];exact Nat.lt_log2_self
theorem Aq (hn:0<n):a<2^(n*bV a n):=iu (vK a) (Nat.pow_le_pow_right (by decide) (zY hn))
theorem xW {a b:Nat}(hb:0<b)(hn:ib (b:Int)<=4000)(hK:ib (b:Int)*bV a (ib (b:Int))<=2^26)(hK2:bV a (ib (b:Int))<=100000)
  (h12:∀t:Nat,t<2^(2*ib (b:Int))->S.cal 12 [aa t,aa b,aa (ib (b:Int))]=some (.tuple [aa (t / b),aa (t % b)])) (h30:S.cal 30=iN)(h26:S.cal 26=iG) :
  aW S fS [aa a,aa b]=some (.tuple [aa (a / b),aa (a % b)]):=by
 generalize hnn:ib (b:Int)=n at hn hK hK2 h12;have hbn:b<2^n:=by rw[<- hnn];exact vK b
 have hn0:0<n:=by
  rcases Nat.eq_zero_or_pos n with c|c
  .rw[c]at hbn;simp at hbn;lia
  .exact c
 have h24:(2:Nat)^24=16777216:=by decide
 have h26':(2:Nat)^26=67108864:=by decide
 generalize hKK:bV a n=K at hK hK2;have c30:iN [aa a,aa n]=some (.list ((cH n a K).map aa)):=by
  have e:iN [aa a,aa n]=if 0<=(a:Int)/\0<(n:Int)/\(n:Int)<=2^26/\((n:Int)).toNat*bV ((a:Int)).toNat ((n:Int)).toNat<=2^26/\bV ((a:Int)).toNat ((n:Int)).toNat<=2^24 then some (.list ((cH ((n:Int)).toNat ((a:Int)).toNat (bV ((a:Int)).toNat ((n:Int)).toNat)).map aa))else none:=rfl;rw[e,kj,kj,hKK,if_pos];refine⟨by lia,by lia, ?_,by assumption,by exact rJ ‹_› rfl⟩;have:(2:Int)^26=67108864:=by decide
  lia
 have hds:∀d∈(cH n a K).reverse,d<2^n:=fun d hd=>by rw[List.mem_reverse]at hd;obtain⟨i,_,rfl⟩:=gO hd;exact HH n a i
 obtain⟨l1,l2,l3,l4⟩:=lE (n:=n) hb (hs:=(cH n a K).reverse) (r:=0) hb hds;have hval:0*2^(n*(cH n a K).reverse.length)+fD n (cH n a K).reverse.reverse=a:=by rw[List.reverse_reverse,wt,Nat.zero_mul,Nat.zero_add,Nat.mod_eq_of_lt];rw[<- hKK];exact Aq hn0
 rw[hval]at l3 l4;have hlen:(cH n a K).reverse.length=K:=by rw[List.length_reverse,fI]
 refine dg rfl ?_;show eK S [(11,aa a),(21,aa b)] _=_;refine af (aA (d:=aa n) ?_) ?_
 .show some (aa (ib (b:Int)))=_;rw[hnn]
 refine af (aA (d:=.list ((cH n a K).map aa)) (aT (ds:=[aa a,aa n]) rfl (by rw[h30];exact c30))) ?_;refine af (aA (d:=aa 0) rfl) ?_;refine af (ρ':=[(11,aa a),(21,aa b),(2,aa n),(0, .list ((cH n a K).map aa)),(13,aa 0),(27, .list [])]) rfl ?_;obtain⟨ρ',e1,e2,e3,e4⟩:=uP (S:=S) (n:=n) (b:=b) hb (gp hbn) hn h12 rfl (hs:=(cH n a K).reverse) (r:=0) (qs:=[]) (ρ:=[(11,aa a),(21,aa b),(2,aa n),(0, .list ((cH n a K).map aa)),(13,aa 0),(27, .list [])]) hb hds (by rw[hlen];simp;exact MA ‹_› rfl) rfl rfl rfl rfl;refine af (ik (items:=((cH n a K).reverse).map aa) ?_ e1) ?_
 .show some ((cH n a K).map aa).reverse=_;rw[List.map_reverse]
 refine af (ρ':=ρ'.set 27 (.list ((cN n b 0 (cH n a K).reverse).1.reverse.map aa))) ?_ ?_
 .refine li e4 ?_;simp[List.map_reverse]
 have cq:iG [.list ((cN n b 0 (cH n a K).reverse).1.reverse.map aa),aa n]=some (aa (a / b)):=by have e:iG [.list ((cN n b 0 (cH n a K).reverse).1.reverse.map aa),aa n]=(pX ((cN n b 0 (cH n a K).reverse).1.reverse.map aa)).bind fun ns=>if 0<(n:Int)/\((n:Int)).toNat*ns.length<=2^26/\ns.length<=2^24/\ns.all (fun d=>decide (d<2^((n:Int)).toNat))then some (aa (fD ((n:Int)).toNat ns))else none:=rfl;rw[e,pY];show(if _ then _ else _)=_;rw[kj,l3,if_pos];rw[List.length_reverse,l1,hlen];refine⟨by lia,hK,by exact rJ ‹_› rfl,List.all_eq_true.mpr fun q hq=>eD (l2 q (List.mem_reverse.mp hq))⟩
 refine af (aA (d:=aa (a / b)) (z8 (xs:=(cN n b 0 (cH n a K).reverse).1.reverse.map aa) (ds:=[aa n]) (by rw[aB.get_set,if_pos rfl]) (ad (ab (by rw[aB.get_set,if_neg (by decide)];exact e3)) aj) (by rw[h26];exact cq) rfl)) ?_;refine aE (cE (lv (ds:=[aa (a / b),aa (a % b)]) (ad (ab (by rw[aB.get_set,if_pos rfl])) (ad (ab ?_) aj)) (j6 rfl)));rw[aB.get_set,if_neg (by decide),aB.get_set,if_neg (by decide),e2,l4]
noncomputable def mi (a b:Int):D:=.tuple [.int (a.fdiv b), .int (a.fmod b)]
def bd (a b:Int):Prop:=ib a<=60000/\ib b<=4000
noncomputable instance (a b:Int):Decidable (bd a b):=inferInstanceAs (Decidable (_/\_))
theorem Cw (a:Int):ib (-a)=ib a:=by
 unfold ib Builtin.Int.intBits;by_cases c:a=0
 .subst c;rfl
 .have h1:(a==0)=false:=by simpa using c
  have h2:(-a==0)=false:=by simpa using c
  rw[h1,h2,Int.natAbs_neg]
theorem y4 (h:a.natAbs<=b.natAbs):ib a<=ib b:=by
 unfold ib Builtin.Int.intBits;by_cases c:a=0
 .subst c;simp
 .have h1:(a==0)=false:=by simpa using c
  have h0:a.natAbs≠0:=Int.natAbs_ne_zero.mpr c;have h2:(b==0)=false:=by
   have:b≠0:=fun e=>c (Int.natAbs_eq_zero.mp (Nat.le_zero.mp (by rw[e]at h;exact h)))
   simpa using this
  rw[h1,h2];simp only[Bool.false_eq_true,if_false];have:a.natAbs.log2<=b.natAbs.log2:=by rw[Nat.le_log2 (fun e=>h0 (Nat.le_zero.mp (e▸h)))];exact az (Nat.log2_self_le h0) h
  exact Nat.succ_le_succ this
theorem Cv:∀{a:Int}(h:a<0),ib (-a-1)<=ib a
 |.ofNat n,h=>absurd h (Int.not_lt.mpr (Int.natCast_nonneg n))
 |.negSucc n,_=>y4 (show(((n:Int)+1)-1).natAbs<=n+1 by rw[Int.add_sub_cancel];exact Nat.le_succ n)
theorem ou (a b:Nat):mi (a:Int) (b:Int)=.tuple [aa (a / b),aa (a % b)]:=by
 unfold mi;rw[Int.fdiv_eq_ediv_of_nonneg _ (by lia),Int.fmod_eq_emod_of_nonneg _ (by lia)]
 norm_cast
theorem qv (ha:0<=a)(hb:0<b)(h24:S.cal 24 [.int a, .int b]=some (mi a b)):aW S bL [.int a, .int b]=some (mi a b):=by have e1:evT S [(11, .int a),(21, .int b)] (.q .Eq (.v 21) (.l (.int 0)))=some false:=aL rfl rfl (by rw[lf,fH (Int.ne_of_gt hb)]);have e2:evT S [(11, .int a),(21, .int b)] (.q .Lt (.v 21) (.l (.int 0)))=some false:=aL rfl rfl (by rw[jT,fH (Int.not_lt.mpr (Int.le_of_lt hb))]);have e3:evT S [(11, .int a),(21, .int b)] (.q .Lt (.v 11) (.l (.int 0)))=some false:=aL rfl rfl (by rw[jT,fH (Int.not_lt.mpr ha)]);refine dg rfl ?_;show eK S [(11, .int a),(21, .int b)] _=_;refine aE (aY e1 ?_);refine aE (aY e2 ?_);refine aE (aY e3 ?_);exact aE (cE (aT rfl h24))
theorem H0 (h:x+r = -a-1):a=b-1-r+(-x-b):=by lia
theorem H1 (h:x+r = -a-1)(h2 : -x-b+s=a):s=b+(-r-1):=by lia
theorem vY (ha:a<0)(hb:0<b)(h31:S.cal 31 [.int (-a-1), .int b]=some (mi (-a-1) b)):aW S bL [.int a, .int b]=some (mi a b):=by
 have e1:evT S [(11, .int a),(21, .int b)] (.q .Eq (.v 21) (.l (.int 0)))=some false:=aL rfl rfl (by rw[lf,fH (Int.ne_of_gt hb)]);have e2:evT S [(11, .int a),(21, .int b)] (.q .Lt (.v 21) (.l (.int 0)))=some false:=aL rfl rfl (by rw[jT,fH (Int.not_lt.mpr (Int.le_of_lt hb))]);have e3:evT S [(11, .int a),(21, .int b)] (.q .Lt (.v 11) (.l (.int 0)))=some true:=aL rfl rfl (by rw[jT,eD ha]);refine dg rfl ?_;show eK S [(11, .int a),(21, .int b)] _=_;refine aE (aY e1 ?_);refine aE (aY e2 ?_);refine aE (aY e3 ?_);refine af (iK (xs:=[.int ((-a-1).fdiv b), .int ((-a-1).fmod b)]) (aT (ds:=[.int (-a-1), .int b]) rfl h31) rfl) ?_;refine aE (cE ?_);show some (PyData.tuple [.int (-((-a-1).fdiv b)-1), .int (b+(-((-a-1).fmod b)-1))])=_;unfold mi;have h1:=Int.fdiv_eq_ediv_of_nonneg (-a-1) (Int.le_of_lt hb);have h2:=Int.fmod_eq_emod_of_nonneg (-a-1) (Int.le_of_lt hb);have h3:=Int.fdiv_eq_ediv_of_nonneg a (Int.le_of_lt hb);have h4:=Int.fmod_eq_emod_of_nonneg a (Int.le_of_lt hb);rw[h1,h2,h3,h4];have m1:=Int.mul_ediv_add_emod (-a-1) b;have p1:=Int.emod_nonneg (-a-1) (Int.ne_of_gt hb);have p2:=Int.emod_lt_of_pos (-a-1) hb;have m2:=Int.mul_ediv_add_emod a b;have p3:=Int.emod_nonneg a (Int.ne_of_gt hb);have p4:=Int.emod_lt_of_pos a hb;have key:a / b = -((-a-1) / b)-1:=by
  have:a / b=(b-1-(-a-1) % b+b*(-((-a-1) / b)-1)) / b:=by
   congr 1
   rw[Int.mul_sub,Int.mul_neg,Int.mul_one];exact H0 m1
  rw[this,Int.add_mul_ediv_left _ _ (Int.ne_of_gt hb),Int.ediv_eq_zero_of_lt (Int.sub_nonneg_of_le (Int.le_sub_one_of_lt p2)) (Int.lt_of_le_of_lt (Int.sub_le_self _ p1) (Int.sub_lt_self b Int.one_pos)),Int.zero_add]
 have key2:a % b=b+(-((-a-1) % b)-1):=by rw[key,Int.mul_sub,Int.mul_neg,Int.mul_one]at m2;exact H1 m1 m2
 rw[key,key2]
theorem DK (hb:b<0)(h31:S.cal 31 [.int (-a), .int (-b)]=some (mi (-a) (-b))):aW S bL [.int a, .int b]=some (mi a b):=by have e1:evT S [(11, .int a),(21, .int b)] (.q .Eq (.v 21) (.l (.int 0)))=some false:=aL rfl rfl (by rw[lf,fH (Int.ne_of_lt hb)]);have e2:evT S [(11, .int a),(21, .int b)] (.q .Lt (.v 21) (.l (.int 0)))=some true:=aL rfl rfl (by rw[jT,eD hb]);refine dg rfl ?_;show eK S [(11, .int a),(21, .int b)] _=_;refine aE (aY e1 ?_);refine aE (aY e2 ?_);refine af (iK (xs:=[.int ((-a).fdiv (-b)), .int ((-a).fmod (-b))]) (aT (ds:=[.int (-a), .int (-b)]) rfl h31) rfl) ?_;refine aE (cE ?_);show some (PyData.tuple [.int ((-a).fdiv (-b)), .int (-((-a).fmod (-b)))])=_;unfold mi;rw[Int.neg_fdiv_neg,Int.neg_fmod_neg,Int.neg_neg]
def nZ (ds:List D):Option D:=d3 ds fun a b n=>dQ a fun a=>dQ b fun b=>dQ n fun n=>if b≠0/\b.natAbs.log2<9000/\(ib a:Int)-n<=4000 then some (.tuple [.int (a.fdiv b), .int (a.fmod b)])else none
def eE (ds:List D):Option D:=i2 ds fun a b=>if 0<=a/\0<b/\bd a b then some (mi a b)else none
def oq (ds:List D):Option D:=i2 ds fun a b=>if 0<=a/\0<b/\bd a b then some (mi a b)else none
def ot (ds:List D):Option D:=i2 ds fun a b=>if 0<b/\bd a b then some (mi a b)else none
def pH (ds:List D):Option D:=i2 ds fun a b=>if b≠0/\bd a b then some (mi a b)else none
theorem Fe (hg:S.gl 23=some (.int 4000))(h:nZ ds=some d):aW S iX ds=some d:=by obtain⟨a,b,n,rfl,h⟩:=BU h;obtain⟨a,rfl,h⟩:=bj h;obtain⟨b,rfl,h⟩:=bj h;obtain⟨n,rfl,h⟩:=bj h;obtain⟨c,rfl⟩:=gz h;exact DH hg c.1 c.2.1 c.2.2
theorem z6 (h12:S.cal 12=nZ)(h30:S.cal 30=iN)(h26:S.cal 26=iG)(h:eE ds=some d):aW S fS ds=some d:=by
 obtain⟨a,b,rfl,h⟩:=pG h;obtain⟨c,rfl⟩:=gz h
 .·
   obtain⟨c1,c2,c3,c4⟩:=c;obtain⟨a',rfl⟩:=Int.eq_ofNat_of_zero_le c1;obtain⟨b',rfl⟩:=Int.eq_ofNat_of_zero_le (Int.le_of_lt c2);rw[ou];have h26':(2:Nat)^26=67108864:=by decide
   have hb0:0<ib (b':Int):=by
    rcases Nat.eq_zero_or_pos (ib (b':Int))with q|q
    .have:=vK b';rw[q]at this;simp at this;lia
    .exact q
   have hd:ib (b':Int)*bV a' (ib (b':Int))<=ib (a':Int)+ib (b':Int)-1:=Nat.mul_div_le _ _;have hd2:bV a' (ib (b':Int))<=ib (a':Int)+ib (b':Int)-1:=Nat.div_le_self _ _;refine xW (by lia) c4 (by lia) (by lia) (fun t ht=>?_) h30 h26;rw[h12];have hb1:b'.log2<9000:=by rw[Nat.log2_lt (by lia)];exact iu (vK b') (Nat.pow_le_pow_right (by decide) (by exact rJ ‹_› rfl))
   have hib:=ja ht;show(if(b':Int)≠0/\(b':Int).natAbs.log2<9000/\(ib (t:Int):Int)-((ib (b':Int):Nat):Int)<=4000 then some (mi (t:Int) (b':Int))else none)=_;rw[if_pos ⟨by lia,by simpa using hb1,by lia⟩,ou]
theorem FJ (h24:S.cal 24=eE)(h:oq ds=some d):aW S bL ds=some d:=by
 obtain⟨a,b,rfl,h⟩:=pG h;obtain⟨c,rfl⟩:=gz h
 .·
   exact qv c.1 c.2.1 (by rw[h24];show(if _ then _ else _)=_;rw[if_pos c])
theorem FK (h24:S.cal 24=eE)(h31:S.cal 31=oq)(h:ot ds=some d):aW S bL ds=some d:=by
 obtain⟨a,b,rfl,h⟩:=pG h;obtain⟨c,rfl⟩:=gz h
 .·
   by_cases ha:0<=a
   .exact qv ha c.1 (by rw[h24];show(if _ then _ else _)=_;rw[if_pos ⟨ha,c.1,c.2⟩])
   .exact vY (by lia) c.1 (by rw[h31];show(if _ then _ else _)=_;rw[if_pos ⟨by lia,c.1,az (Cv (by lia)) c.2.1,c.2.2⟩])
theorem FL (h24:S.cal 24=eE)(h31:S.cal 31=ot)(h:pH ds=some d):aW S bL ds=some d:=by
 obtain⟨a,b,rfl,h⟩:=pG h;obtain⟨c,rfl⟩:=gz h
 .·
   by_cases hb:0<b
   .by_cases ha:0<=a
    .exact qv ha hb (by rw[h24];show(if _ then _ else _)=_;rw[if_pos ⟨ha,hb,c.2⟩])
    .exact vY (by lia) hb (by rw[h31];show(if _ then _ else _)=_;rw[if_pos ⟨hb,az (Cv (by lia)) c.2.1,c.2.2⟩])
   .have:=c.1;exact DK (by lia) (by rw[h31];show(if _ then _ else _)=_;rw[if_pos ⟨by lia,by rw[Cw];exact c.2.1,by rw[Cw];exact c.2.2⟩])
end
end Internal
section
namespace Internal
variable {S:cL}
open PySem.StrLaws PySem.Builtin.Str
noncomputable def eO (g w:aH)(s e:Nat):Option Nat:=(List.range' s (e+1-s)).find? fun k=>decide (k+w.length<=e)&&((g.drop k).take w.length==w)
theorem Aa (h:l=pre++a::post)(hn:∀i∈pre,p i=false)(ha:p a=true):l.find? p=some a:=by subst h;rw[List.find?_append,List.find?_eq_none.mpr (fun i m=>by rw[hn i m];exact nP),List.find?_cons,ha];rfl
theorem Dl (x y:Str)(lo hi:Nat):(occurrences x y lo hi 1).head?=eO x.cps.toList y.cps.toList lo hi:=by
 have hp:∀k,(decide (k+y.cps.toList.length<=hi)&&((x.cps.toList.drop k).take y.cps.toList.length==y.cps.toList))=true↔At x y hi k:=fun k=>by
  have e1:y.length=y.cps.toList.length:=by simp[Str.length]
  unfold At;rw[subAt_eq,g9,kh,e1]
 rw[occ_eq];unfold eO;rcases occ_first x y hi 1 (gC 1) (List.range' lo (hi+1-lo)) lo (fun i hi=>by have:=List.mem_range'_1.mp hi;lia)with⟨h0,hn⟩|⟨pre,a,post,e,h0,ha,hn⟩
 .rw[h0]
  symm
  exact List.find?_eq_none.mpr fun k m q=>hn k m ((hp k).mp q)
 .rw[Aa e (fun i m=>by
   cases q:(decide (i+y.cps.toList.length<=hi)&&((x.cps.toList.drop i).take y.cps.toList.length==y.cps.toList))with
   |false=>rfl
   |true=>exact absurd ((hp i).mp q) (hn i m)) ((hp a).mpr ha)]
  generalize (forIn (List.range' lo (hi+1-lo)) ((#[]:Array Nat),lo) (occBody x y hi 1)).run.fst=arr at h0;have h1:arr.toList[0]?=some a:=by simpa using h0
  rw[<- h1];cases arr.toList <;> rfl
theorem vj (n i:Nat):fromIndex n (i:Int)=i:=by show(max 0 (if(i:Int)<0 then(i:Int)+n else i)).toNat=i;rw[if_neg (by lia),Int.max_eq_right (by lia),kj]
theorem Ck {x y:Str}{i j:Nat}(hj:j<=x.length):px x y i j=match eO x.cps.toList y.cps.toList i j with|some k=>(k:Int)|none => -1:=by unfold px;have e1:fromIndex x.length (i:Int)=i:=vj _ _;have e2:fromIndex x.length (j:Int)=j:=vj _ _;rw[e1,e2,Nat.min_eq_left hj,<- Dl];cases occurrences x y i j 1 <;> rfl
noncomputable def de (g:aH)(e:Nat):Nat->List aH->Bool
 |_,[]=>true
 |s,w::ws=>match eO g w s e with
  |some k=>de g e (k+w.length) ws
  |none=>false
theorem yF (a b:Int):cY .Gt (.int a) (.int b)=some (.bool (decide (b<a))):=rfl
theorem E0 (a b:Int):cY .GtE (.int a) (.int b)=some (.bool (decide (b<=a))):=rfl
theorem HX {f:D->aB->Option jg}{n k i:Nat}{ρ ρ':aB}{xs:List D}{d:D}{o:Option jg}(g:ρ.get n=some (.list xs))(h:xs[i]?=some d)(hf:f d ρ=some (.n ρ'))(h':rE f n k (i+1) ρ'=o):rE f n (k+1) i ρ=o:=by show ju (ρ.get n) (fun xs=>(xs[i]?).elim (some (.n ρ)) fun d=>qT (f d ρ) (rE f n k (i+1)))=o;rw[g];show(xs[i]?).elim (some (.n ρ)) (fun d=>qT (f d ρ) (rE f n k (i+1)))=o;rw[h];show qT (f d ρ) (rE f n k (i+1))=o;rw[hf];exact h'
theorem FG {f:D->aB->Option jg}{n k i:Nat}{ρ:aB}{xs:List D}{d e:D}(g:ρ.get n=some (.list xs))(h:xs[i]?=some d)(hf:f d ρ=some (.r e)):rE f n (k+1) i ρ=some (.r e):=by show ju (ρ.get n) (fun xs=>(xs[i]?).elim (some (.n ρ)) fun d=>qT (f d ρ) (rE f n k (i+1)))=_;rw[g];show(xs[i]?).elim (some (.n ρ)) (fun d=>qT (f d ρ) (rE f n k (i+1)))=_;rw[h];show qT (f d ρ) (rE f n k (i+1))=_;rw[hf];rfl
theorem FE {f:D->aB->Option jg}{n k i:Nat}{ρ:aB}{xs:List D}(g:ρ.get n=some (.list xs))(h:xs.length<=i):rE f n (k+1) i ρ=some (.n ρ):=by show ju (ρ.get n) (fun xs=>(xs[i]?).elim (some (.n ρ)) fun d=>qT (f d ρ) (rE f n k (i+1)))=_;rw[g];show(xs[i]?).elim (some (.n ρ)) (fun d=>qT (f d ρ) (rE f n k (i+1)))=_;rw[Ao h];rfl
theorem uU (he:e<=g.length) 
  (hbody:body=.c (.s 35 (.m .find3 (.v 36) (.c (.v 33) (.c (.v 35) (.c (.v 37) .n))))) (.c (.i (.q .Lt (.v 35) (.l (.int 0))) (.c (.r (.l (.bool false))) .n) .n) (.c (.aug 35 .Add (.f .len (.c (.v 33) .n))) .n))) :
  ∀{ws al:List aH}{i K s:Nat}{ρ:aB},al.drop i=ws->ws.length<K->ρ.get 34=some (.list (al.map an))->ρ.get 36=some (an g)->ρ.get 35=some (aa s)->ρ.get 37=some (aa e) ->
   ∃o,rE (fun d ρ'=>(bE ρ' [33] d).bind fun ρ''=>eK S ρ'' body) 34 K i ρ=some o/\(de g e s ws=true->∃ρ',o=.n ρ')/\(de g e s ws=false->o=.r (.bool false))
 |_,_,_,0,_,_,_,hk,_,_,_,_=>absurd hk (Nat.not_lt_zero _)
 |[],al,i,K+1,s,ρ,hd,_,g0,_,_,_=>⟨.n ρ,FE g0 (by rw[dq];exact List.drop_eq_nil_iff.mp hd),fun _=>⟨ρ,rfl⟩,fun h=>ff h.symm⟩
 |w::ws,al,i,K+1,s,ρ,hd,hk,g0,g1,g2,g3=>by
  subst hbody;have hx:(al.map an)[i]?=some (an w):=by rw[List.getElem?_map,show al[i]?=some w from(List.getElem?_drop (i:=i) (j:=0)).symm.trans (congrArg (·[0]?) hd)];rfl
  have G:∀(ρ:aB)(m k:Nat) (d:D),(ρ.set m d).get k=if k=m then some d else ρ.get k:=fun ρ m k d=>aB.get_set ρ m k d;have hf:px (tx g) (tx w) (s:Int) (e:Int)=match eO g w s e with|some k=>(k:Int)|none => -1:=by have:=Ck (x:=tx g) (y:=tx w) (i:=s) (j:=e) (by simpa [Str.length]using he);exact this
  have s1:ev S (ρ.set 33 (an w)) (.m .find3 (.v 36) (.c (.v 33) (.c (.v 35) (.c (.v 37) .n))))=some (.int (px (tx g) (tx w) s e)):=by
   have e1:ev S (ρ.set 33 (an w)) (.v 36)=some (an g):=ab (by simp[G,g1]);have e2:kI S (ρ.set 33 (an w)) (.c (.v 33) (.c (.v 35) (.c (.v 37) .n)))=some [an w,aa s,aa e] :=
    ad (ab (by simp[G])) (ad (ab (by simp[G,g2])) (ad (ab (by simp[G,g3])) aj))
   exact bi e1 (bi e2 rfl)
  cases hw:eO g w s e with
  |none =>
   rw[hw]at hf;refine⟨.r (.bool false), ?_,fun h=>?_,fun _=>rfl⟩
   .exact FG g0 hx (af (aA s1) (aE (d:=.bool false) (aY (t:=true) (aL (x:=.int (-1)) (ab (by rw[aB.get_set,if_pos rfl,hf])) rfl rfl) rfl)))
   .have:de g e s (w::ws)=false:=by show(match eO g w s e with|some k=>de g e (k+w.length) ws|none=>false)=_;rw[hw]
    rw[this]at h;exact ff h
  |some k =>
   rw[hw]at hf;obtain⟨o,o1,o2,o3⟩:=uU he rfl (ws:=ws) (i:=i+1) (s:=k+w.length) (ρ:=((ρ.set 33 (an w)).set 35 (aa k)).set 35 (aa (k+w.length))) ((List.drop_drop (i:=1)).symm.trans (congrArg (List.drop 1) hd)) (Nat.lt_of_succ_lt_succ hk) (by simp[G,g0]) (by simp[G,g1]) (by simp[G]) (by simp[G,g3]);have ew:de g e s (w::ws)=de g e (k+w.length) ws:=by show(match eO g w s e with|some k=>de g e (k+w.length) ws|none=>false)=_;rw[hw]
   rw[ew];refine⟨o, ?_,o2,o3⟩;refine HX g0 hx ?_ o1;show eK S (ρ.set 33 (an w)) _=_;rw[hf]at s1;refine af (aA s1) (af (ρ':=(ρ.set 33 (an w)).set 35 (aa k)) (aY (t:=false) (aL (x:=aa k) (ab (by simp[G])) rfl (by rw[jT,fH (by lia)])) rfl) (af ?_ rfl));have e6:ev S ((ρ.set 33 (an w)).set 35 (aa k)) (.f .len (.c (.v 33) .n))=some (aa w.length):=by refine bi (ad (ab (show _=some (an w) by simp[G])) aj) ?_;show some (PyData.int ((tx w).length:Nat))=_;simp[Str.length]
   refine bi (show((ρ.set 33 (an w)).set 35 (aa k)).get 35=some (aa k) by simp[G]) (bi e6 ?_);have e8:sX .Add (aa k) (aa w.length)=some (aa (k+w.length)):=by
    show some (PyData.int ((k:Int)+(w.length:Int)))=_
    norm_cast
   rw[e8];rfl
end Internal
end
namespace Internal
section
variable {S:cL}
def qO (g:aH)(s:Nat)(ws:List aH):Bool:=
 if ws.getLastD []=[]then(if g.length<s then false else de g g.length s ws)
 else if(ws.getLastD []).isSuffixOf g then(if g.length-(ws.getLastD []).length<s then false else de g (g.length-(ws.getLastD []).length) s ws.dropLast)
 else false
def B1 (ps:List aH)(g:aH):Bool:=match ps with
 |[]=>false
 |p::r=>if p=[]then qO g 0 (p::r)else if p.isPrefixOf g then qO g p.length r else false
noncomputable abbrev JF:oK:=.c (.s 35 (.m .find3 (.v 36) (.c (.v 33) (.c (.v 35) (.c (.v 37) .n))))) (.c (.i (.q .Lt (.v 35) (.l (.int 0))) (.c (.r (.l (.bool false))) .n) .n) (.c (.aug 35 .Add (.f .len (.c (.v 33) .n))) .n))
abbrev B0:oK:=.c (.i (.q .Gt (.v 35) (.v 37)) (.c (.r (.l (.bool false))) .n) .n) (.c (.grow 34 [33] JF) (.c (.r (.l (.bool true))) .n))
abbrev HI:oK:=.c (.s 33 (.oget 34 (.n (.l (.int 1))))) (.c (.i (.v 33) (.c (.i (.m .endswith (.v 36) (.c (.v 33) .n)) (.c (.aug 37 .Sub (.f .len (.c (.v 33) .n))) (.c (.del 34 (-1)) .n)) (.c (.r (.l (.bool false))) .n)) .n) .n) B0)
theorem B4 (hl:ws.length<=100000)(he:e<=g.length)(g1:ρ.get 36=some (an g))(g2:ρ.get 35=some (aa s))(g3:ρ.get 37=some (aa e))(g4:ρ.get 34=some (.list (ws.map an))) :
  eK S ρ B0=some (.r (.bool (if e<s then false else de g e s ws))):=by
 by_cases c:e<s
 .rw[if_pos c];exact aE (aY (t:=true) (aL (ab g2) (ab g3) (by rw[yF,eD (by lia)])) rfl)
 .rw[if_neg c];refine af (aY (t:=false) (aL (ab g2) (ab g3) (by rw[yF,fH (by lia)])) rfl) ?_;obtain⟨o,o1,o2,o3⟩:=uU (S:=S) (g:=g) he rfl (ws:=ws) (al:=ws) (i:=0) (s:=s) (ρ:=ρ) rfl (K:=Co) (fy hl (by decide)) g4 g1 g2 g3;cases hw:de g e s ws with
  |true =>
   obtain⟨ρ',rfl⟩:=o2 hw;exact af o1 (aE rfl)
  |false =>
   have:=o3 hw;subst this;exact aE o1
theorem CM (h:ws≠[]):(ws.map an)[ws.length-1]?=some (an (ws.getLastD [])):=by
 rw[List.getElem?_map];have:ws[ws.length-1]?=some (ws.getLastD []):=by
  rw[<- List.getLast?_eq_getElem?];cases ws with
  |nil=>exact absurd rfl h
  |cons a r=>rw[List.getLastD_eq_getLast?,List.getLast?_eq_some_getLast (List.cons_ne_nil a r)];rfl
 rw[this];rfl
theorem vy (h:0<n):seqIndex? (-1) n=some (n-1):=by rw[PySem.StrLaws.seqIndex_neg (by decide) (show -(n:Int) <= -1 from Int.neg_le_neg (Int.ofNat_le.mpr h))];exact congrArg some ((congrArg Int.toNat (Int.add_comm (-1) n)).trans (Int.toNat_sub n 1))
theorem sZ (h:ρ.get n=some (an w)):ev S ρ (.f .len (.c (.v n) .n))=some (aa w.length):=by refine bi (ad (ab h) aj) ?_;show some (PyData.int ((tx w).length:Nat))=_;simp[Str.length]
theorem lu (h:ρ.get n=some (an w)):evT S ρ (.v n)=some (!w.isEmpty):=by
 have e:evT S ρ (.v n)=(ρ.get n).bind eJ:=rfl;rw[e,h];show some (((tx w).length:Int) != 0)=_;cases w with
 |nil=>rfl
 |cons a r=>simp[Str.length];lia
theorem xf (h:evT S ρ c=some true):ex S ρ (.assert c)=some (.n ρ):=bi (k:=fun t=>bif t then some (jg.n ρ)else none) h rfl
theorem B3 (hl:ws.length<=100000)(hw:ws≠[])(g1:ρ.get 36=some (an g))(g2:ρ.get 35=some (aa s))(g3:ρ.get 37=some (aa g.length))(g4:ρ.get 34=some (.list (ws.map an))) :
  eK S ρ HI=some (.r (.bool (qO g s ws))):=by
 have hpos:0<ws.length:=List.length_pos_iff.mpr hw;have G:∀(ρ:aB)(m k:Nat) (d:D),(ρ.set m d).get k=if k=m then some d else ρ.get k:=fun ρ m k d=>aB.get_set ρ m k d;generalize hlast:ws.getLastD []=w;have e1:ev S ρ (.oget 34 (.n (.l (.int 1))))=some (an w):=by refine li g4 (bi (x:=.int (-1)) rfl ?_);show(seqIndex? (-1) (ws.map an).length).bind ((ws.map an)[·]?)=_;rw[dq,vy hpos];show(ws.map an)[ws.length-1]?=_;rw[CM hw,hlast]
 refine af (aA e1) ?_;have g33:(ρ.set 33 (an w)).get 33=some (an w):=by simp[G]
 unfold qO;rw[hlast];by_cases c:w=[]
 .rw[if_pos c];refine af (aY (t:=false) (by rw[lu g33,c];rfl) rfl) ?_;exact B4 hl (gC _) (by simp[G,g1]) (by simp[G,g2]) (by simp[G,g3]) (by simp[G,g4])
 .rw[if_neg c];have ht:evT S (ρ.set 33 (an w)) (.v 33)=some true:=by
   rw[lu g33];cases w with
   |nil=>exact absurd rfl c
   |cons _ _=>rfl
  have hm:evT S (ρ.set 33 (an w)) (.m .endswith (.v 36) (.c (.v 33) .n))=some (w.isSuffixOf g):=by refine bi (x:=.bool (Txt.endswith (tx g) (tx w))) (bi (ab (show(ρ.set 33 (an w)).get 36=some (an g) by simp[G,g1])) (bi (ad (ab g33) aj) rfl)) ?_;show some (Txt.endswith (tx g) (tx w))=_;rw[ry]
  by_cases c2:w.isSuffixOf g=true
  .rw[if_pos c2];have hle:w.length<=g.length:=(List.isSuffixOf_iff_suffix.mp c2).length_le;have hdel:(ws.map an).eraseIdx (ws.length-1)=ws.dropLast.map an:=by rw[List.map_dropLast,List.dropLast_eq_take,dq,List.eraseIdx_eq_take_drop_succ,List.drop_of_length_le (by rw[dq,Nat.sub_add_cancel hpos];exact gC _),List.append_nil]
   refine af (ρ':=((ρ.set 33 (an w)).set 37 (aa (g.length-w.length))).set 34 (.list (ws.dropLast.map an))) (aY ht (af (ρ':=((ρ.set 33 (an w)).set 37 (aa (g.length-w.length))).set 34 (.list (ws.dropLast.map an))) (aY (t:=true) (by rw[hm,c2]) (af (ρ':=(ρ.set 33 (an w)).set 37 (aa (g.length-w.length))) ?_ (af ?_ rfl))) rfl)) ?_
   .refine bi (show(ρ.set 33 (an w)).get 37=some (aa g.length) by simp[G,g3]) (bi (sZ g33) ?_);show(some (PyData.int ((g.length:Int)-(w.length:Int)))).map _=_;rw[<- Int.ofNat_sub hle];rfl
   .refine li (show((ρ.set 33 (an w)).set 37 (aa (g.length-w.length))).get 34=some (.list (ws.map an)) by simp[G,g4]) ?_;show((seqIndex? (-1) (ws.map an).length).bind fun j=>some (jg.n (aB.set ((ρ.set 33 (an w)).set 37 (aa (g.length-w.length))) 34 (.list ((ws.map an).eraseIdx j)))))=_;rw[dq,vy hpos];show some (jg.n (aB.set _ 34 (.list ((ws.map an).eraseIdx (ws.length-1)))))=_;rw[hdel]
   .exact B4 (by rw[List.length_dropLast];exact az (Nat.sub_le _ _) hl) (by exact Nat.sub_le _ _) (by simp[G,g1]) (by simp[G,g2]) (by simp[G]) (by simp[G])
  .rw[if_neg c2];have c2:w.isSuffixOf g=false:=Bool.eq_false_iff.mpr c2;exact aE (aY ht (aE (aY (t:=false) (by rw[hm,c2]) rfl)))
theorem pZ (h:(!(Builtin.Str.occurrences x dots 0 x.length 1).isEmpty)=b):cY .NotIn (.str "...") (.str x)=some (.bool (!b)):=by show some (PyData.bool (!(!(Builtin.Str.occurrences x dots 0 x.length 1).isEmpty)))=_;rw[h]
theorem Gg (hg:S.gl 39=some (.str "..."))(hn:2<=ps.length)(hd:∀p∈ps,46∉p)(hok:∀p∈ps,uk p)(hl:ps.length<=100000):aW S bU [an (bR ps),an g]=some (.bool (B1 ps g)):=by
 have hne:ps≠[]:=fun e=>by rw[e]at hn;simp at hn
 have hsp:=yc (x:=tx (bR ps)) rfl hn hd;have hsp2:Txt.split (tx (bR ps)) dots=ps.map tx:=by
  have:((Txt.split (tx (bR ps)) dots).map (·.cps.toList)).map tx=ps.map tx:=by rw[hsp]
  rw[fv]at this;rw[<- this]
  conv=>lhs;rw[<- List.map_id (Txt.split (tx (bR ps)) dots)]
  refine List.map_congr_left fun x _=>?_;exact Str.ext' (by simp)
 have hin:(!(Builtin.Str.occurrences (tx (bR ps)) dots 0 (tx (bR ps)).length 1).isEmpty)=true:=by
  rw[PySem.StrLaws.found_iff];obtain⟨⟨f,c1,_⟩,_⟩:=mP (x:=tx (bR ps)) (ps:=ps) (a:=0) hne hd rfl (nv _);rcases ps with⟨⟩|⟨p,⟨⟩|⟨q,r⟩⟩
  .exact absurd rfl hne
  .exact absurd hn (by decide:¬ 2<=1)
  .exact⟨_,c1.2.1⟩
 refine dg rfl ?_;show eK S [(38,an (bR ps)),(36,an g)] _=_;refine af (aY (t:=false) (aL (x:=.str "...") (y:=an (bR ps)) (show S.gl 39=_ from hg) rfl (by rw[pZ hin];rfl)) rfl) ?_;refine af (ρ':=[(38,an (bR ps)),(36,an g),(34, .list (ps.map an))]) ?_ ?_
 .refine si rfl (si (show S.gl 39=_ from hg) ?_);show(if decide (0<dots.length)&&sok (.list ((Txt.split (tx (bR ps)) dots).map .str))then some (jg.n (aB.set [(38,an (bR ps)),(36,an g)] 34 (.list ((Txt.split (tx (bR ps)) dots).map .str))))else none)=_;rw[hsp2,if_pos]
  .rw[fv];rfl
  .rw[g9];refine⟨rfl, ?_⟩;show(decide (((ps.map tx).map PyData.str).length<=16777216)&&sokAll ((ps.map tx).map PyData.str))=true;rw[g9,kh];refine⟨by simp;exact rJ ‹_› rfl,sokAll_iff.mpr fun x hx=>?_⟩;rw[fv]at hx;obtain⟨p,hp,rfl⟩:=gO hx;have:=hok p hp;exact kU (by have:=this.1;exact rJ ‹_› rfl) this.2
 refine af (ρ':=[(38,an (bR ps)),(36,an g),(34, .list (ps.map an))]) ?_ ?_
 .exact xf (aL (x:=.int ((ps.map an).length:Nat)) (y:=.int 2) rfl rfl (by rw[E0,eD (by rw[dq];lia)]))
 refine af (iK (xs:=[aa 0,aa g.length]) ?_ rfl) ?_
 .refine lv (ad rfl (ad (sZ (by rfl)) aj)) (j6 rfl)
 show eK S [(38,an (bR ps)),(36,an g),(34, .list (ps.map an)),(35,aa 0),(37,aa g.length)] _=_
 match ps,hn,hne,hl with
 |p::r,hn,_,hl =>
  have hr:r≠[]:=fun e=>by rw[e]at hn;simp at hn
  have e1:ev S [(38,an (bR (p::r))),(36,an g),(34, .list ((p::r).map an)),(35,aa 0),(37,aa g.length)] (.oget 34 (.l (.int 0)))=some (an p):=by show(seqIndex? 0 ((p::r).map an).length).bind (((p::r).map an)[·]?)=_;rw[seqIndex_of (by decide) (by simp)];rfl
  refine af (aA e1) ?_;show eK S [(38,an (bR (p::r))),(36,an g),(34, .list ((p::r).map an)),(35,aa 0),(37,aa g.length),(33,an p)] _=_;show _=some (jg.r (.bool (if p=[]then qO g 0 (p::r)else if p.isPrefixOf g then qO g p.length r else false)));by_cases c:p=[]
  .rw[if_pos c];refine af (aY (t:=false) (by rw[lu (w:=p) rfl,c];rfl) rfl) ?_;exact B3 hl (by simp) rfl rfl rfl rfl
  .rw[if_neg c];have ht:evT S [(38,an (bR (p::r))),(36,an g),(34, .list ((p::r).map an)),(35,aa 0),(37,aa g.length),(33,an p)] (.v 33)=some true:=by
    rw[lu (w:=p) rfl];cases p with
    |nil=>exact absurd rfl c
    |cons _ _=>rfl
   have hm:evT S [(38,an (bR (p::r))),(36,an g),(34, .list ((p::r).map an)),(35,aa 0),(37,aa g.length),(33,an p)] (.m .startswith (.v 36) (.c (.v 33) .n))=some (p.isPrefixOf g):=by show some (Txt.startswith (tx g) (tx p))=_;rw[nK]
   by_cases c2:p.isPrefixOf g=true
   .rw[if_pos c2];have hb2:eK S [(38,an (bR (p::r))),(36,an g),(34, .list ((p::r).map an)),(35,aa 0),(37,aa g.length),(33,an p)] (.c (.s 35 (.f .len (.c (.v 33) .n))) (.c (.del 34 0) .n)) =
      some (.n [(38,an (bR (p::r))),(36,an g),(34, .list (r.map an)),(35,aa p.length),(37,aa g.length),(33,an p)]):=by
     refine af (aA (sZ (w:=p) rfl)) ?_;refine af (ρ':=[(38,an (bR (p::r))),(36,an g),(34, .list (r.map an)),(35,aa p.length),(37,aa g.length),(33,an p)]) ?_ rfl;exact li rfl (bi (seqIndex_of (by decide) (by simp)) rfl)
    have hb1:eK S [(38,an (bR (p::r))),(36,an g),(34, .list ((p::r).map an)),(35,aa 0),(37,aa g.length),(33,an p)] (.c (.i (.m .startswith (.v 36) (.c (.v 33) .n)) (.c (.s 35 (.f .len (.c (.v 33) .n))) (.c (.del 34 0) .n)) (.c (.r (.l (.bool false))) .n)) .n) =
      some (.n [(38,an (bR (p::r))),(36,an g),(34, .list (r.map an)),(35,aa p.length),(37,aa g.length),(33,an p)]):=af (aY (t:=true) (by rw[hm,c2]) hb2) rfl
    refine af (aY ht hb1) ?_;exact B3 (Nat.le_of_succ_le hl) hr rfl rfl rfl rfl
   .rw[if_neg c2];have c2:p.isPrefixOf g=false:=Bool.eq_false_iff.mpr c2;exact aE (aY ht (aE (aY (t:=false) (by rw[hm,c2]) rfl)))
theorem DI (hg:S.gl 39=some (.str "..."))(hd:46∉x):aW S bU [an x,an g]=some (.bool (x==g)):=by
 have hin:(!(Builtin.Str.occurrences (tx x) dots 0 (tx x).length 1).isEmpty)=false:=by
  cases q:(!(Builtin.Str.occurrences (tx x) dots 0 (tx x).length 1).isEmpty)with
  |false=>rfl
  |true =>
   rw[PySem.StrLaws.found_iff]at q;obtain⟨i,hi⟩:=q;have:=sQ (x:=tx x) hi;exact absurd (Ib this) (by simpa using hd)
 refine dg rfl ?_;show eK S [(38,an x),(36,an g)] _=_;have e:ev S [(38,an x),(36,an g)] (.q .Eq (.v 38) (.v 36))=some (.bool (x==g)):=by
  refine jW (x:=an x) (y:=an g) rfl rfl ?_;show some (PyData.bool (tx x==tx g))=_
  congr 2
  rw[Bool.eq_iff_iff,beq_iff_eq,beq_iff_eq];constructor
  .intro h;have:=congrArg (fun s:Str=>s.cps.toList) h;simpa using this
  .intro h;rw[h]
 have hb:eK S [(38,an x),(36,an g)] (.c (.r (.q .Eq (.v 38) (.v 36))) .n)=some (.r (.bool (x==g))):=aE (cE e);exact aE (aY (t:=true) (aL (x:=.str "...") (y:=an x) (show S.gl 39=_ from hg) rfl (by rw[pZ hin];rfl)) hb)
end
section
inductive JA (G:GC)(p:Program)(mg:Str->Option Value)(nm:List Str)(x:Str)(f:Fn)(xs:List Str):Prop
 |mk (a:Addr)(fd:FuncData)(d:DefRec)(hd:nI p x=some d)(hm:mg x=some (.ref a))(D:gP G a fd d.body xs)(hf:ve nm f fd d.body xs=true)(hs:fd.scope=d.scope)
section
variable {p prog:Program}{loose:List Str}{mean:ExcName->Option Value}{w:World}{h:Heap}{mg mb:Str->Option Value}{c1 P1 c2 P2:Addr}{pos1 pos2:Pos}{nm:List Str}
theorem xh (e:fd.scope=fd'.scope):ve nm f fd body xs=ve nm f fd' body xs:=by unfold ve hJ;rw[e]
theorem tO (T:Top p loose mean mg mb h)(hT:TabsAt [(c1,P1),(c2,P2)] h)(hr:eY nm p x f xs=true) :
  JA (fh prog w h mg mb c1 P1 c2 P2 pos1 pos2 nm) p mg nm x f xs:=by
 obtain⟨d,hd,hr⟩:=AG hr;obtain⟨a,fd,hm,Df,hs,-,-,-,-⟩:=xj (prog:=prog) (w:=w) (pos1:=pos1) (pos2:=pos2) (nm:=nm) T hT hd (bH hr).2;exact⟨a,fd,d,hd,hm,Df,(xh hs).trans (bH hr).1,hs⟩
theorem cI.rc (T:Top p loose mean mg mb h)(hT:TabsAt [(c1,P1),(c2,P2)] h)(ok:oI (fh prog w h mg mb c1 P1 c2 P2 pos1 pos2 nm)){K U n:Nat}{x:Str}{f:Fn}{xs:List Str}{cf:List D->Option D}{gl:Nat->Option D}
  (hg:g8 (fh prog w h mg mb c1 P1 c2 P2 pos1 pos2 nm) gl)(hU:103<=U)(hn:nm[n]?=some x)(hr:eY nm p x f xs=true)(F:cI (fh prog w h mg mb c1 P1 c2 P2 pos1 pos2 nm) cal K U)
  (hc:∀ds d,cf ds=some d->aW ⟨cal,gl,false⟩ f ds=some d):cI (fh prog w h mg mb c1 P1 c2 P2 pos1 pos2 nm) (put cal n cf) (K+1) (U+3):=by
 obtain⟨a,fd,d,-,hm,Df,hf,-⟩:=tO (prog:=prog) (w:=w) (pos1:=pos1) (pos2:=pos2) T hT hr;exact F.add ok hU hn hm Df hf hg hc
def rY (p:Program)(x:Str)(k:DefRec->Bool):Bool:=match nI p x with|some d=>k d|none=>false
theorem j9 (h:rY p x k=true):∃d,nI p x=some d/\k d=true:=by
 unfold rY at h;cases e:nI p x with
 |none=>rw[e]at h;exact ff h
 |some d=>rw[e]at h;exact⟨d,rfl,h⟩
def HA (nm:List Str)(p:Program)(pos1 pos2:Pos):Bool:=rY p "_int2digits" fun d1=>rY p "_digits2int" fun d2 =>
 jG d1 ["a", "n"]&&jG d2 ["digits", "n"]&&tm ⟨nm,fK,[]⟩ ⟨0,0,pos1, ""⟩ d1.body&&sS ⟨nm,fG,[]⟩ ⟨0,0,pos2, ""⟩ d2.body&&decide (d1.scope.names=fK)&&decide (d2.scope.names=fG)
inductive GS (nm:List Str)(sc:List (Str × NameKind)):dY->Prop
 |mk {ts:Expr}{y:Str}{np rp ip:Pos}{els rest:dY}(h:(y==("ZeroDivisionError" : Str)&&bn ⟨nm,sc,[]⟩ (.q .Eq (.v 21) (.l (.int 0))) ts&&sc.lookup ("ZeroDivisionError" : Str)==some .globalImplicit)=true):GS nm sc (.If ts [.Raise (some (.Name y np)) none rp] els ip::rest)
def Ev (nm:List Str)(sc:List (Str × NameKind))(b:dY):Bool:=
 aZ b fun s1 _=>zf s1 fun ts th _ _=>aZ th fun r th=>bK th <| vS r fun e z _=>gF z <| fQ e fun e=>bD e fun y _ =>
  (y==("ZeroDivisionError" : Str)&&bn ⟨nm,sc,[]⟩ (.q .Eq (.v 21) (.l (.int 0))) ts&&sc.lookup ("ZeroDivisionError" : Str)==some .globalImplicit)
theorem Bg (h:Ev nm sc b=true):GS nm sc b:=by unfold Ev at h;refine ar h fun _ _ h=>?_;refine kO h fun _ _ _ _ h=>?_;refine ar h fun _ _ h=>?_;refine aJ h fun h=>?_;refine qS h fun _ _ _ h=>?_;refine cZ h fun h=>?_;refine da h fun _ h=>?_;refine aF h fun _ _ h=>?_;exact .mk h
def Jn (nm:List Str)(p:Program):Bool:=rY p "int_divmod" fun d=>Ev nm d.scope.names d.body
noncomputable def yT (p:Program)(loose:List Str)(x:Str):Bool:=!startupNames.contains x&&!loose.contains x&&!((recsOf p).map (·.name)).contains x&&!((litsOf p).map (·.1)).contains x&&!((clssOf p loose).map (·.name)).contains x
theorem yU (T:Top p loose mean mg mb h)(hx:yT p loose x=true):mg x=none:=by
 unfold yT at hx;simp only[g9,Bool.not_eq_true']at hx;obtain⟨⟨⟨⟨h1,h2⟩,h3⟩,h4⟩,h5⟩:=hx;have g:∀{l:List Str},l.contains x=false->x∉l:=fun q m=>by rw[List.contains_iff_mem.mpr m]at q;cases q
 exact T.free x (g h1) (g h2) (g h3) (g h4) (g h5)
noncomputable def vb:dY->Pos
 |[]=>⟨0,0,0,0⟩
 |s::r=>if gG s fun _ _ _ _ _ _ _ _ _ _=>true then s.pos else vb r
def dy (p:Program)(x:Str):Pos:=match nI p x with
 |some d=>vb d.body
 |none=>⟨0,0,0,0⟩
def iB (mg:Str->Option Value)(h:Heap)(x:Str)(c:Addr):Prop:=∀a o fd,mg x=some (.ref a)->h.get? a=some o->o.data=.func fd->fd.code=.ref c
noncomputable def GH (v:Value):Option Addr:=match v with|.ref a=>some a|_=>none
noncomputable def JM (o:Obj)(x:Str):Option Value:=match o.data with|.dict es _=>nsFind es x|_=>none
def JL (o:Obj):Option Addr:=match o.data with|.func fd=>GH fd.code|_=>none
def G3 (o:Obj):Option Addr:=match o.data with|.fields vs=>(vs[11]?:Option Value).bind GH|_=>none
def wl (h:Heap)(x:Str):Option Addr:=(h.get? mainGlobals).bind fun o=>(JM o x).bind fun v=>(GH v).bind fun a=>(h.get? a).bind fun o=>(JL o).bind fun c=>(h.get? c).bind G3
theorem sB (k:∀b o,h.get? b=some o->h'.get? b=some o)(e:wl h x=some P):wl h' x=some P:=
 au e fun _ e1 e=>au e fun _ e2 e=>au e fun _ e3 e=>au e fun _ e4 e=>au e fun _ e5 e=>au e fun _ e6 e =>
  bi (k _ _ e1) (bi e2 (bi e3 (bi (k _ _ e4) (bi e5 (bi (k _ _ e6) e)))))
theorem D9 (T:Top p loose mean mg mb h)(hd:G8 p x d)(hP:wl h x=some P):∃c,CodeHd h c P/\h.get? P=some (tabObj #[])/\iB mg h x c:=by
 have hn:d.name=x:=eC (List.find?_some (p:=fun e:DefRec=>e.name==x) hd);obtain⟨a,o,fd,c,P',h1,h2,h3,h4,h5,h6⟩:=T.tab d (List.mem_of_find?_eq_some hd);rw[hn]at h1;have hP':P'=P:=by
  obtain⟨og,es,ep,g1,g2,_,g3⟩:=T.g;obtain⟨⟨oc,vs,i1,_,i2,i3⟩,_⟩:=h6;have:wl h x=some P':=by
   refine bi g1 (bi (x:=.ref a) ?_ (bi rfl (bi h2 (bi (x:=c) ?_ (bi i1 ?_)))))
   .unfold JM;rw[g2];exact(g3 x).trans h1
   .unfold JL;rw[h3];show GH fd.code=_;rw[h4];rfl
   .unfold G3;rw[i2];exact bi i3 rfl
  rw[hP]at this;exact(aC this).symm
 subst hP';refine⟨c,CodeHd.of h5 h6,h6.2,fun a2 o2 fd2 m1 m2 m3=>?_⟩;rw[h1]at m1;cases m1;rw[h2]at m2;obtain rfl:=aC m2;rw[h3]at m3;cases m3;exact h4
structure yv (p:Program)(loose:List Str)(nm:List Str)(pos1 pos2:Pos):Prop where
 nd:nm.Nodup
 pre:∀(i:Nat) (x:Str),gL[i]?=some x->nm[i]?=some x
 nb:cC.all (yT p loose)=true
 nz:yT p loose "ZeroDivisionError" = true
 g23:valOf p "_DIV_LIMIT" = some (.int 4000)
 g39:valOf p "ELLIPSIS_MARKER" = some (.str "...")
 b:HA nm p pos1 pos2=true
 z:Jn nm p=true
 r12:eY nm p "_div2n1n" iX ["a", "b", "n"]=true
 r24:eY nm p "_divmod_pos" fS ["a", "b"]=true
 r31:eY nm p "int_divmod" bL ["a", "b"]=true
 r32:eY nm p "_ellipsis_match" bU ["want", "got"]=true
 r40:eY nm p "_escape_cdata" dz ["text"]=true
 r42:eY nm p "_escape_attrib" dh ["text"]=true
 r43:eY nm p "_escape_attrib_html" bP ["text"]=true
 r44:eY nm p "_escape_cdata_c14n" bZ ["text"]=true
 r45:eY nm p "_escape_attrib_c14n" bO ["text"]=true
 r46:eY nm p "_law_written" cV ["kind", "text"]=true
 r48:eY nm p "_law_spelled" dT ["kind", "text"]=true
variable (T:Top p loose mean mg mb h)(hT:TabsAt [(c1,P1),(c2,P2)] h)(hne:P1≠P2)(R:yv p loose nm pos1 pos2)
include T hT hne R
theorem DT:oI (fh prog w h mg mb c1 P1 c2 P2 pos1 pos2 nm):=JI T hT R.nd fun x hx=>yU T (bQ R.nb x hx)
theorem Hc:g8 (fh prog w h mg mb c1 P1 c2 P2 pos1 pos2 nm) bC:=FB T fun n x d hn hd=>by
 by_cases c:n=23
 .obtain rfl:=aC ((if_pos c).symm.trans hd);subst c;obtain rfl:=aC ((R.pre 23 "_DIV_LIMIT" rfl).symm.trans hn);exact⟨R.g23,rfl⟩
 .have hd:=(if_neg c).symm.trans hd;by_cases c:n=39
  .obtain rfl:=aC ((if_pos c).symm.trans hd);subst c;obtain rfl:=aC ((R.pre 39 "ELLIPSIS_MARKER" rfl).symm.trans hn);exact⟨R.g39,by decide +kernel⟩
  .exact nn ((if_neg c).symm.trans hd)
def EX:Nat->List D->Option D:=put (put (fun _ _=>none) 30 iN) 26 iG
omit T hT hne R in
theorem AE:∀(i:Nat) (x:Str),jy[i]?=some x->gL[i]?=some x:=fun i x hx=>by
 have e:jy=gL.take 12:=by decide +kernel
 rw[e,List.getElem?_take]at hx;split at hx
 .exact hx
 .exact nn hx
omit T hT hne R in
theorem JZ:("_int2digits" : Str) ++ ".<locals>." ++ ("inner" : Str) = "_int2digits.<locals>.inner":=by decide +kernel
omit T hT hne R in
theorem J0:("_digits2int" : Str) ++ ".<locals>." ++ ("inner" : Str) = "_digits2int.<locals>.inner":=by decide +kernel
theorem Gl (hc1:iB mg h "_int2digits" c1)(hc2:iB mg h "_digits2int" c2):cI (fh prog w h mg mb c1 P1 c2 P2 pos1 pos2 nm) EX 30 200:=by
 obtain⟨d1,h1,hb⟩:=j9 R.b;obtain⟨d2,h2,hb⟩:=j9 hb;simp only[g9,kh]at hb;obtain⟨⟨⟨⟨⟨b1,b2⟩,b3⟩,b4⟩,b5⟩,b6⟩:=hb;obtain⟨a1,fd1,m1,D1,s1,q1,o1,e1,e2⟩:=xj (prog:=prog) (w:=w) (pos1:=pos1) (pos2:=pos2) (nm:=nm) T hT h1 b1;obtain⟨a2,fd2,m2,D2,s2,q2,o2,e3,e4⟩:=xj (prog:=prog) (w:=w) (pos1:=pos1) (pos2:=pos2) (nm:=nm) T hT h2 b2;exact Bz (G:=fh prog w h mg mb c1 P1 c2 P2 pos1 pos2 nm) (DT T hT hne R) (FD hne) (fun i x hx=>R.pre i x (AE i x hx)) (by decide) (R.pre 30 "_int2digits" rfl) (R.pre 26 "_digits2int" rfl) m1 m2 (t1:=⟨c1,P1,pos1, "_int2digits.<locals>.inner"⟩) (t2:=⟨c2,P2,pos2, "_digits2int.<locals>.inner"⟩)
  (by show _∈[_,_];simp) (by show _∈[_,_];simp) D1 D2 b3 b4 (by rw[s1];exact b5) (by rw[s2];exact b6) (hc1 a1 o1 fd1 m1 e1 e2) (hc2 a2 o2 fd2 m2 e3 e4) (by rw[q1];exact JZ) (by rw[q2];exact J0)
def GY:Nat->List D->Option D:=put EX 12 nZ
def GZ:Nat->List D->Option D:=put GY 24 eE
def BF:Nat->List D->Option D:=put GZ 31 oq
def BG:Nat->List D->Option D:=put BF 31 ot
def rk:Nat->List D->Option D:=put BG 31 pH
def ut:Nat->List D->Option D:=put rk 32 fun ds=>aW ⟨rk,bC,false⟩ bU ds
def uu:Nat->List D->Option D:=put ut 40 fun ds=>aW ⟨ut,bC,false⟩ dz ds
def uv:Nat->List D->Option D:=put uu 42 fun ds=>aW ⟨uu,bC,false⟩ dh ds
def uw:Nat->List D->Option D:=put uv 43 fun ds=>aW ⟨uv,bC,false⟩ bP ds
def ux:Nat->List D->Option D:=put uw 44 fun ds=>aW ⟨uw,bC,false⟩ bZ ds
def rm:Nat->List D->Option D:=put ux 45 fun ds=>aW ⟨ux,bC,false⟩ bO ds
def uy:Nat->List D->Option D:=put rm 46 fun ds=>aW ⟨rm,bC,false⟩ cV ds
def gR:Nat->List D->Option D:=put uy 48 fun ds=>aW ⟨uy,bC,false⟩ dT ds
theorem IC (hc1:iB mg h "_int2digits" c1)(hc2:iB mg h "_digits2int" c2):cI (fh prog w h mg mb c1 P1 c2 P2 pos1 pos2 nm) gR 43 239:=by have ok:oI (fh prog w h mg mb c1 P1 c2 P2 pos1 pos2 nm):=DT T hT hne R;have gl:g8 (fh prog w h mg mb c1 P1 c2 P2 pos1 pos2 nm) bC:=Hc T hT hne R;have f0:cI (fh prog w h mg mb c1 P1 c2 P2 pos1 pos2 nm) EX 30 200:=Gl T hT hne R hc1 hc2;have f1:=cI.rc T hT ok gl (n:=12) (cf:=nZ) (by decide) (R.pre 12 "_div2n1n" rfl) R.r12 f0 fun ds d e=>Fe rfl e;have f2:=cI.rc T hT ok gl (n:=24) (cf:=eE) (by decide) (R.pre 24 "_divmod_pos" rfl) R.r24 f1 fun ds d e=>z6 rfl rfl rfl e;have f3:=cI.rc T hT ok gl (n:=31) (cf:=oq) (by decide) (R.pre 31 "int_divmod" rfl) R.r31 f2 fun ds d e=>FJ rfl e;have f4:=cI.rc T hT ok gl (n:=31) (cf:=ot) (by decide) (R.pre 31 "int_divmod" rfl) R.r31 f3 fun ds d e=>FK rfl rfl e;have f5:=cI.rc T hT ok gl (n:=31) (cf:=pH) (by decide) (R.pre 31 "int_divmod" rfl) R.r31 f4 fun ds d e=>FL rfl rfl e;have f6:=cI.rc T hT ok gl (n:=32) (cf:=fun ds=>aW ⟨rk,bC,false⟩ bU ds) (by decide) (R.pre 32 "_ellipsis_match" rfl) R.r32 f5 fun ds d e=>e;have f7:=cI.rc T hT ok gl (n:=40) (cf:=fun ds=>aW ⟨ut,bC,false⟩ dz ds) (by decide) (R.pre 40 "_escape_cdata" rfl) R.r40 f6 fun ds d e=>e;have f8:=cI.rc T hT ok gl (n:=42) (cf:=fun ds=>aW ⟨uu,bC,false⟩ dh ds) (by decide) (R.pre 42 "_escape_attrib" rfl) R.r42 f7 fun ds d e=>e;have f9:=cI.rc T hT ok gl (n:=43) (cf:=fun ds=>aW ⟨uv,bC,false⟩ bP ds) (by decide) (R.pre 43 "_escape_attrib_html" rfl) R.r43 f8 fun ds d e=>e;have f10:=cI.rc T hT ok gl (n:=44) (cf:=fun ds=>aW ⟨uw,bC,false⟩ bZ ds) (by decide) (R.pre 44 "_escape_cdata_c14n" rfl) R.r44 f9 fun ds d e=>e;have f11:=cI.rc T hT ok gl (n:=45) (cf:=fun ds=>aW ⟨ux,bC,false⟩ bO ds) (by decide) (R.pre 45 "_escape_attrib_c14n" rfl) R.r45 f10 fun ds d e=>e;have f12:=cI.rc T hT ok gl (n:=46) (cf:=fun ds=>aW ⟨rm,bC,false⟩ cV ds) (by decide) (R.pre 46 "_law_written" rfl) R.r46 f11 fun ds d e=>e;exact cI.rc T hT ok gl (n:=48) (cf:=fun ds=>aW ⟨uy,bC,false⟩ dT ds) (by decide) (R.pre 48 "_law_spelled" rfl) R.r48 f12 fun ds d e=>e
end
theorem BH (ps:List aH)(g:aH)(hn:2<=ps.length)(hd:∀p∈ps,46∉p)(hok:∀p∈ps,uk p)(hl:ps.length<=100000):gR 32 [an (bR ps),an g]=some (.bool (B1 ps g)):=Gg (S:=⟨rk,bC,false⟩) rfl hn hd hok hl
theorem zQ (x g:aH)(hd:46∉x):gR 32 [an x,an g]=some (.bool (x==g)):=DI (S:=⟨rk,bC,false⟩) rfl hd
theorem BI (k:Nat)(l:aH)(hk:k<5)(hl:uk l):gR 46 [aa k,an l]=some (an (bJ (bu (cW k)) l)):=by refine v7 (S:=⟨rm,bC,false⟩) hk ?_;exact ly (P:=fun k=>rm (Ep k) [an l]=some (an (bJ (bu (cW k)) l))) (AW (S:=⟨ut,bC,false⟩) hl) (xV (S:=⟨uu,bC,false⟩) hl) (DJ (S:=⟨uv,bC,false⟩) hl) (vX (S:=⟨uw,bC,false⟩) hl) (tR (S:=⟨ux,bC,false⟩) hl) k hk
theorem BJ (k:Nat)(l:aH)(hk:k<5)(hl:uk l):gR 48 [aa k,an l]=some (an (bJ (bu (cW k)) l)):=vZ (S:=⟨uy,bC,false⟩) hk hl
theorem script_reps {ns:List Int}(r:Reads h (.ref a) (.list (ns.map PyData.int)) as)(hw:Well P h (.ref a) (ofPy (.list (ns.map PyData.int))))(hl:ns.length<=1000):ai w [] h [.ref a] [.list (ns.map PyData.int)]:=by
 have ra:∀{vs:eU}{ns:List Int}{as:a9},ReadsAll h vs (ns.map PyData.int) as->as=[]:=by
  intro vs ns
  induction ns generalizing vs with
  |nil=>intro as x;cases x;rfl
  |cons n ns ih=>intro as x;cases x with|cons x y=>cases x;rw[ih y];rfl
 have so:∀ns:List Int,sokAll (ns.map PyData.int)=true:=fun ns=>sokAll_iff.mpr fun x hx=>by obtain⟨i,_,rfl⟩:=gO hx;rfl
 cases r with
 |list h1 h2 h3 h4 =>
  obtain rfl:=ra h4;have ho:jf w h a:=fun o e=>by
   cases hw with
   |list e1 _ =>
    rw[e1]at e;obtain rfl:=aC e;exact⟨rfl,fun es n q=>by cases q⟩
  refine⟨_, .cons (.list h1 h2 h3 h4) .nil,fun b m=>?_, ?_⟩
  .simp only[List.append_nil,List.mem_cons,List.not_mem_nil,or_false]at m;subst m;exact⟨by simp,ho⟩
  .show(sok (.list (ns.map PyData.int))&&true)=true;rw[Bool.and_true];show(decide ((ns.map PyData.int).length<=16777216)&&sokAll (ns.map PyData.int))=true;rw[so,Bool.and_true,kh,dq];exact rJ ‹_› rfl
def viewOf (p:Program):Program:={ p with main:={ p.main with body:=p.main.body.filter fun s=>!(lI s fun t _=>bD t fun x _=>x==("__name__" : Str)) } }
def obs5 (s:Shared):Option Addr × Option Addr × Nat:=(wl s.heap "_int2digits",wl s.heap "_digits2int",s.toks)
noncomputable def val5 (P1 P2 t:Nat)(_:World):Option Addr × Option Addr × Nat:=(some P1,some P2,t)
theorem obs_at {s₀ s₁:Shared}{mean:ExcName->Option Value}{mg mb:Str->Option Value}{P1 P2 t:Nat}(y:obs5 s₀=val5 P1 P2 t w)(k:∀b o,s₀.heap.get? b=some o->s₁.heap.get? b=some o)
  (T:Top p loose mean mg mb s₁.heap)(h1:(nI p "_int2digits").isSome=true) (h2:(nI p "_digits2int").isSome=true):s₀.toks=t/\∃c1 c2,TabsAt [(c1,P1),(c2,P2)] s₁.heap/\iB mg s₁.heap "_int2digits" c1/\iB mg s₁.heap "_digits2int" c2:=by
 obtain⟨d1,h1⟩:=Option.isSome_iff_exists.mp h1;obtain⟨d2,h2⟩:=Option.isSome_iff_exists.mp h2;have y1:wl s₀.heap "_int2digits" = some P1:=congrArg Prod.fst y;have y2:wl s₀.heap "_digits2int" = some P2:=congrArg (fun x=>x.2.1) y;obtain⟨c1,a1,a2,a3⟩:=D9 T h1 (sB k y1);obtain⟨c2,b1,b2,b3⟩:=D9 T h2 (sB k y2);exact⟨congrArg (fun x=>x.2.2) y,c1,c2,List.forall_mem_cons.mpr ⟨⟨a1,a2⟩,List.forall_mem_cons.mpr ⟨⟨b1,b2⟩,fun _ h=>nomatch h⟩⟩,a3,b3⟩
end
section
variable {S:cL}
theorem yR {a:Int}(h:ib a<=100000):fits a=true:=eD h
theorem GW {a b:Int}(ha:ib a<=100000)(hb:ib b<=100000):cX .Mult (.int a) (.int b)=some (.int (a*b)):=by show(if fits a&&fits b then some (PyData.int (a*b))else none)=_;rw[if_pos (by rw[yR ha,yR hb];rfl)]
theorem oT (a b:Int):cX .Add (.int a) (.int b)=some (.int (a+b)):=rfl
theorem yD (a b:Int):cX .Sub (.int a) (.int b)=some (.int (a-b)):=rfl
end
section
structure Code (u v:aH):Prop where
 u0:u≠[]
 v0:v≠[]
 p1:¬ u <+: v
 p2:¬ v <+: u
 s1:¬ u <:+ v
 s2:¬ v <:+ u
noncomputable def wd (u v:aH)(x:aG):aH:=x.flatMap fun b=>if b then v else u
theorem cB (u v:aH)(x y:aG):wd u v (x++y)=wd u v x++wd u v y:=by simp[wd]
theorem cF (u v:aH)(b:Bool)(x:aG):wd u v (b::x)=(if b then v else u)++wd u v x:=by simp[wd]
theorem ue (h0:u≠[]/\v≠[])(h:¬ u <+: v/\¬ v <+: u):∀{x y:aG},wd u v x <+: wd u v y->x <+: y
 |[],y,_=>List.nil_prefix
 |a::x,[],hp=>by
  rw[cF]at hp;have:=List.prefix_nil.mp (show _ <+: []from hp);have h1:=(List.append_eq_nil_iff.mp this).1;cases a
  .exact absurd h1 h0.1
  .exact absurd h1 h0.2
 |a::x,b::y,hp=>by
  rw[cF,cF]at hp;by_cases e:a=b
  .subst e;have:=ue h0 h ((List.prefix_append_right_inj _).mp hp);exact List.cons_prefix_cons.mpr ⟨rfl,this⟩
  .have h1:(if a then v else u) <+: (if b then v else u)++wd u v y:=(List.prefix_append _ _).trans hp;have h2:(if b then v else u) <+: (if b then v else u)++wd u v y:=List.prefix_append _ _;rcases List.prefix_or_prefix_of_prefix h1 h2 with q|q
   .cases a <;> cases b <;> simp at e q
    .exact absurd q h.1
    .exact absurd q h.2
   .cases a <;> cases b <;> simp at e q
    .exact absurd q h.2
    .exact absurd q h.1
theorem ud (h:x <+: y):wd u v x <+: wd u v y:=by obtain⟨r,rfl⟩:=h;rw[cB];exact List.prefix_append _ _
theorem En (u v:aH)(x:aG):(wd u v x).reverse=wd u.reverse v.reverse x.reverse:=by
 induction x with
 |nil=>rfl
 |cons b x ih =>
  rw[cF,List.reverse_append,ih,List.reverse_cons,cB]
  congr 1
  cases b <;> simp[wd]
theorem Code.pre (c:Code u v)(x y:aG):(wd u v x).isPrefixOf (wd u v y)=x.isPrefixOf y:=by rw[Bool.eq_iff_iff,List.isPrefixOf_iff_prefix,List.isPrefixOf_iff_prefix];exact⟨ue ⟨c.u0,c.v0⟩ ⟨c.p1,c.p2⟩,ud⟩
theorem Code.suf (c:Code u v)(x y:aG):(wd u v x).isSuffixOf (wd u v y)=x.isSuffixOf y:=by have h:∀{α:Type}(a b:List α),a <:+ b↔a.reverse <+: b.reverse:=fun a b=>List.reverse_prefix.symm;rw[Bool.eq_iff_iff,List.isSuffixOf_iff_suffix,List.isSuffixOf_iff_suffix,h,h,En,En];refine⟨ue ⟨by simpa using c.u0,by simpa using c.v0⟩ ⟨fun q=>c.s1 (List.reverse_prefix.mp q),fun q=>c.s2 (List.reverse_prefix.mp q)⟩,ud⟩
theorem zF (c:Code u v)(h:x≠[]):wd u v x≠[]:=by
 cases x with
 |nil=>exact absurd rfl h
 |cons b x =>
  rw[cF];intro q;have h1:=(List.append_eq_nil_iff.mp q).1;cases b
  .exact c.u0 h1
  .exact c.v0 h1
noncomputable def mk:aG->aG × aG
 |[]=>([false],[true])
 |true::r=>((mk r).1++(mk r).2,(mk r).2)
 |false::r=>((mk r).1,(mk r).1++(mk r).2)
theorem pz (h:s+w.length<=e)(hw:(g.drop s).take w.length=w):eO g w s e=some s:=by
 unfold eO;have:e+1-s=(e-s)+1:=Nat.sub_add_comm (az (je s _) h);rw[this,List.range'_succ,List.find?_cons];have hc:(decide (s+w.length<=e)&&((g.drop s).take w.length==w))=true:=by rw[g9,kh,beq_iff_eq];exact⟨h,hw⟩
 rw[hc]
theorem Em (h:s<=e):de g e s [[]]=true:=by show(match eO g [] s e with|some k=>de g e (k+0) []|none=>false)=true;rw[pz (by simpa using h) (by simp)];rfl
variable {S:cL}
structure Facts (S:cL):Prop where
 c30:S.cal 30=iN
 c26:S.cal 26=iG
 c31:S.cal 31=pH
 c32:∀ps g,2<=ps.length->(∀p∈ps,46∉p)->(∀p∈ps,uk p)->ps.length<=100000->S.cal 32 [an (bR ps),an g]=some (.bool (B1 ps g))
 c320:∀x g,46∉x->S.cal 32 [an x,an g]=some (.bool (x==g))
 c46:∀k l,k<5->uk l->S.cal 46 [aa k,an l]=some (an (bJ (bu (cW k)) l))
 c48:∀k l,k<5->uk l->S.cal 48 [aa k,an l]=some (an (bJ (bu (cW k)) l))
theorem uS:∀ps:List aH,(ps.intersperse [46,46,46]).flatten=bR ps
 |[]=>rfl
 |[p]=>by simp[bR]
 |p::q::r=>by have:=uS (q::r);rw[List.intersperse_cons_cons,List.flatten_cons,List.flatten_cons,this];simp[bR]
theorem Aj (ps:List aH):Txt.join "..." (ps.map tx)=tx (bR ps):=by
 refine Str.of_list ?_;rw[vG,fv];have e:("..." : Str).cps.toList=[46,46,46]:=jU;rw[e];show _=(bR ps).toArray.toList;rw[List.toList_toArray,<- uS]
 congr 2
 exact(List.map_congr_left fun x _=>by simp).trans (List.map_id ps)
theorem uR:∀{ps:List aH},c∈bR ps->c=46\/∃p∈ps,c∈p
 |[],h=>by cases h
 |[p],h=>.inr ⟨p,by simp,h⟩
 |p::q::r,h=>by
  simp only[bR,List.mem_append]at h;rcases h with(h|h)|h
  .exact .inr ⟨p,by simp,h⟩
  .simp at h;exact .inl h
  .rcases uR h with h|⟨x,h1,h2⟩
   .exact .inl h
   .exact .inr ⟨x,dP _ h1,h2⟩
theorem uQ:∀{ps:List aH}{B:Nat},(∀p∈ps,p.length<=B)->(bR ps).length<=ps.length*(B+3)
 |[],_,_=>by simp[bR]
 |[p],B,h=>by have:=h p (by simp);simp[bR];lia
 |p::q::r,B,h=>by
  have h1:=h p (by simp);have h2:=uQ (ps:=q::r) (B:=B) fun x m=>h x (dP _ m);simp only[bR,lla,nR,List.length_nil,Nat.add_mul,Nat.one_mul]at h2 ⊢
  lia
theorem jX (h1:ev S ρ e1=some (an a))(h2:ev S ρ e2=some (an b))(hl:a.length+b.length<=100000):ev S ρ (.b .Add e1 e2)=some (an (a++b)):=by
 refine ag h1 h2 ?_;show(if decide ((tx a).length+(tx b).length<=16777216)then some (PyData.str (tx a++tx b))else none)=_;rw[if_pos (eD (by simp[Str.length];exact rJ ‹_› rfl))]
 congr 2
 exact Str.of_list (by show(a.toArray++b.toArray).toList=(a++b).toArray.toList;simp)
theorem sY (h1:ev S ρ e1=some (.list a))(h2:ev S ρ e2=some (.list b))(hl:a.length+b.length<=100000):ev S ρ (.b .Add e1 e2)=some (.list (a++b)):=by refine ag h1 h2 ?_;show(if decide (a.length+b.length<=16777216)then some (PyData.list (a++b))else none)=_;rw[if_pos (eD (by exact rJ ‹_› rfl))]
theorem Fr (h1:ev S ρ e1=some (an a))(h2:ev S ρ e2=some (aa n))(hn:n<=1000)(hl:a.length<=10000):ev S ρ (.b .Mult e1 e2)=some (an (List.replicate n a).flatten):=by
 refine ag h1 h2 ?_;show(if decide ((0:Int)<=n)&&decide ((n:Int)<=16777216)&&decide ((tx a).length*((n:Int)).toNat<=16777216)then some (PyData.str (jL ((n:Int)).toNat (tx a)))else none)=_;rw[kj,if_pos]
 .show some (PyData.str ⟨(List.replicate n a).flatten.toArray⟩)=_;rfl
 .have:(tx a).length=a.length:=by simp[Str.length]
  rw[this];have:a.length*n<=10000*1000:=Nat.mul_le_mul hl hn;simp only[g9,kh]
  lia
theorem ta (h1:ev S ρ e1=some (.list a))(h2:ev S ρ e2=some (aa n))(hn:n<=1000)(hl:a.length<=10000):ev S ρ (.b .Mult e1 e2)=some (.list (List.replicate n a).flatten):=by
 refine ag h1 h2 ?_;show(if decide ((0:Int)<=n)&&decide ((n:Int)<=16777216)&&decide (a.length*((n:Int)).toNat<=16777216)then some (PyData.list (List.replicate ((n:Int)).toNat a).flatten)else none)=_;rw[kj,if_pos];have:a.length*n<=10000*1000:=Nat.mul_le_mul hl hn;simp only[g9,kh]
 lia
theorem Cf (h:ev S ρ e=some (.list (ps.map an)))(hn:ps.length<=100)(hp:∀p∈ps,p.length<=1000/\∀c∈p,c<55296):ev S ρ (.m .join (.l (.str "...")) (.c e .n))=some (an (bR ps)):=by
 refine bi rfl (bi (ad h aj) ?_);have e3:ps.map an=(ps.map tx).map PyData.str:=by rw[fv];rfl
 rw[e3];show(match kx ((ps.map tx).map PyData.str)with
  |some ts=>if JoinOk "..." ts&&sok (.str (Txt.join "..." ts))then some (PyData.str (Txt.join "..." ts))else none
  |none=>none)=_
 rw[lX];show(if(JoinOk "..." (ps.map tx)&&sok (.str (Txt.join "..." (ps.map tx))))=true then some (PyData.str (Txt.join "..." (ps.map tx)))else none)=_;rw[Aj,if_pos];rw[g9];refine⟨?_,kU ?_ fun c hc=>?_⟩
 .unfold JoinOk;rw[PySem.StrLaws.joinFits (B:=1000)]
  .rfl
  .intro y hy;obtain⟨p,hp',rfl⟩:=gO hy;have:=(hp p hp').1
   simpa [Str.length]using this
  .have:(("..." : Str).length)=3:=gy;rw[this,dq];have:=wE 1000 hn
   lia
 .have:=uQ (ps:=ps) (B:=1000) fun p m=>(hp p m).1;have:=wE 1003 hn
  lia
 .rcases uR hc with rfl|⟨p,h1,h2⟩
  .decide
  .exact(hp p h1).2 c h2
end
section
variable {S:cL}
noncomputable def ij (v:Option Nat)(d n:Nat):Nat:=match v with|none=>d|some i=>min i n
theorem wV (lo hi:Option Nat)(n:Nat):sliceBounds (lo.map (fun i:Nat=>(i:Int))) (hi.map (fun i:Nat=>(i:Int))) none n=(((ij lo 0 n:Nat):Int),((ij hi n n:Nat):Int),(1:Int)):=by
 have c:∀i:Nat,(if((i:Int))<0 then(i:Int)+n else i)=i:=fun i=>if_neg (by lia)
 delta sliceBounds ij
 cases lo <;> cases hi <;> simp only[Option.map_none,Option.map_some,Option.getD_none,show(1:Int) > 0 by decide,if_true,c,Prod.mk.injEq,and_true] <;> first|(constructor <;> lia)|lia|rfl
theorem sR (xs:List α)(lo hi:Option Nat):mh xs (lo.map (fun i:Nat=>(i:Int))) (hi.map (fun i:Nat=>(i:Int))) none=(xs.drop (ij lo 0 xs.length)).take (ij hi xs.length xs.length-ij lo 0 xs.length):=by
 delta mh
 rw[wV];dsimp only;rw[sliceRange_one];have h:ij hi xs.length xs.length<=xs.length:=by delta ij;cases hi <;> simp <;> lia
 have h2:ij lo 0 xs.length<=xs.length:=by delta ij;cases lo <;> simp <;> lia
 exact PySem.StrLaws.picks xs _ _ (by lia)
noncomputable abbrev D3:aH:=[46,46,46]
theorem Ff:("..." : Str)=tx D3:=Str.of_list jU
theorem H9:ev S ρ (.l (.str "..."))=some (an D3):=congrArg (fun x=>some (PyData.str x)) Ff
theorem ll (n:Nat):∀ns:aH,(ns.map aa).all (fun x=>eT (n+1) x)=true:=fun ns=>List.all_eq_true.mpr fun x hx=>by obtain⟨m,_,rfl⟩:=gO hx;rfl
theorem ph:∀a b:aH,PyData.eqvAll (a.map aa) (b.map aa)=decide (a=b)
 |[],[]=>rfl
 |[],_::_=>rfl
 |_::_,[]=>rfl
 |x::a,y::b=>by
  have e:PyData.eqvAll ((x::a).map aa) ((y::b).map aa)=(((x:Int)==(y:Int))&&PyData.eqvAll (a.map aa) (b.map aa)):=rfl;rw[e,ph a b];by_cases h:x=y
  .subst h;simp
  .have:((x:Int)==(y:Int))=false:=beq_eq_false_iff_ne.mpr (by lia);rw[this];simp[h]
theorem BL (a b:aH):cY .NotEq (.list (a.map aa)) (.list (b.map aa))=some (.bool (!decide (a=b))):=by
 have h:∀ns:aH,eT 8 (.list (ns.map aa))=true:=fun ns=>by show(ns.map aa).all (fun x=>eT 7 x)=true;exact ll 6 ns
 show(if eT 8 (.list (a.map aa))&&eT 8 (.list (b.map aa))then some (PyData.bool (!PyData.eqv (.list (a.map aa)) (.list (b.map aa))))else none)=_;rw[h,h];show some (PyData.bool (!PyData.eqvAll (a.map aa) (b.map aa)))=_;rw[ph]
theorem JY (k:Nat)(hk:k<=1000000):cX .Pow (.int 2) (aa k)=some (aa (2^k)):=by
 show(if decide ((0:Int)<=k)&&decide (((ib 2:Nat):Int)*(k:Int)<=2^27)then some (PyData.int (2^((k:Int)).toNat))else none)=_;have:(ib 2:Nat)=2:=by decide
 rw[this,kj,if_pos]
 .norm_cast
 .have:(2:Int)^27=134217728:=by decide
  rw[this];simp only[g9,kh]
  lia
theorem HZ (k:Nat):ib ((2^k:Nat):Int)<=k+1:=ja (by rw[Nat.pow_succ];have:0<2^k:=Nat.two_pow_pos k;lia)
theorem j3:∀ns:aH,fT (ns.map aa)=some (ns.map fun n:Nat=>(n:Int))
 |[]=>rfl
 |n::ns=>by have e:fT ((n::ns).map aa)=(fT (ns.map aa)).map ((n:Int) :: ·):=rfl;rw[e,j3 ns];rfl
theorem wj:∀ns:aH,(ns.map fun n:Nat=>(n:Int)).sum=((ns.sum:Nat):Int)
 |[]=>rfl
 |n::ns=>by rw[fU,List.sum_cons,wj ns,List.sum_cons];norm_cast
theorem HG (h:0<nb)(hl:nb*ns.length<=2^26)(hl2:ns.length<=2^24)(hd:∀d∈ns,d<2^nb):iG [.list (ns.map aa),aa nb]=some (aa (fD nb ns)):=by have e:iG [.list (ns.map aa),aa nb]=(pX (ns.map aa)).bind fun ns=>if 0<(nb:Int)/\((nb:Int)).toNat*ns.length<=2^26/\ns.length<=2^24/\ns.all (fun d=>decide (d<2^((nb:Int)).toNat))then some (aa (fD ((nb:Int)).toNat ns))else none:=rfl;rw[e,pY];show(if _ then _ else _)=_;rw[kj,if_pos];exact⟨by lia,hl,hl2,List.all_eq_true.mpr fun d m=>eD (hd d m)⟩
theorem HY {x nb:Nat}(h:0<nb)(h2:nb<=1000)(hx:ib (x:Int)<=1000000):iN [aa x,aa nb]=some (.list ((cH nb x (bV x nb)).map aa)):=by
 have e:iN [aa x,aa nb]=if 0<=(x:Int)/\0<(nb:Int)/\(nb:Int)<=2^26/\((nb:Int)).toNat*bV ((x:Int)).toNat ((nb:Int)).toNat<=2^26/\bV ((x:Int)).toNat ((nb:Int)).toNat<=2^24 then some (.list ((cH ((nb:Int)).toNat ((x:Int)).toNat (bV ((x:Int)).toNat ((nb:Int)).toNat)).map aa))else none:=rfl;have h26:(2:Nat)^26=67108864:=by decide
 have h24:(2:Nat)^24=16777216:=by decide
 have h26i:(2:Int)^26=67108864:=by decide
 have hd:nb*bV x nb<=ib (x:Int)+nb-1:=Nat.mul_div_le _ _;have hd2:bV x nb<=ib (x:Int)+nb-1:=Nat.div_le_self _ _;rw[e,kj,kj,if_pos];exact⟨by lia,by lia,by lia,by lia,by lia⟩
theorem AS {n:Nat}(h:n<=16777216):iR 0 (n:Int) 1=some ((List.range n).map aa):=by
 unfold iR;rw[if_pos]
 .have:((n:Int)-0+1-1) / 1=n:=by lia
  rw[this,kj]
  congr 1
  refine List.map_congr_left fun k _=>?_;show PyData.int (0+(k:Int)*1)=PyData.int k;rw[Int.zero_add,Int.mul_one]
 .simp only[g9,kh]
  lia
theorem dp {e:E}{n:Nat}(h:ev S ρ e=some (aa n))(hn:n<=16777216):dZ S ρ (.r (.c e .n))=some ((List.range n).map aa):=by have e1:dZ S ρ (.r (.c e .n))=(kI S ρ (.c e .n)).bind oe:=rfl;rw[e1,ad h aj];exact AS hn
theorem HN (h:ev S ρ e=some (.list ds)):ev S ρ (.f .len (.c e .n))=some (aa ds.length):=bi (ad h aj) rfl
theorem iJ (h:ev S ρ e=some (an l)):ev S ρ (.f .len (.c e .n))=some (aa l.length):=bi (ad h aj) rfl
theorem cD (h:0<b):cX .Mod (aa a) (aa b)=some (aa (a % b)):=by
 show(if(b:Int) != 0 then some (PyData.int ((a:Int).fmod b))else none)=_;rw[if_pos (by simpa using(by exact Nat.ne_of_gt ‹_›:b≠0)),Int.fmod_eq_emod_of_nonneg _ (Int.natCast_nonneg _)]
 norm_cast
theorem eM (h:0<b)(h2:b<2^60):cX .FloorDiv (aa a) (aa b)=some (aa (a / b)):=by
 show(if(b:Int) != 0&&decide ((b:Int).natAbs.log2<9000)then some (PyData.int ((a:Int).fdiv b))else none)=_;rw[if_pos,Int.fdiv_eq_ediv_of_nonneg _ (Int.natCast_nonneg _)]
 .norm_cast
 .have:b.log2<60:=(Nat.log2_lt (by exact Nat.ne_of_gt ‹_›)).mpr h2;rw[Int.natAbs_natCast];simp only[g9,kh,bne_iff_ne]
  lia
theorem fu (ha:ev S ρ a=some x)(hi:ev S ρ i=some y)(h:lr x y=some d):ev S ρ (.s a i)=some d:=bi ha (bi hi h)
theorem jN (h:xs[i]?=some d):lr (.list xs) (aa i)=some d:=by
 have hi:i<xs.length:=by
  rcases Nat.lt_or_ge i xs.length with q|q
  .exact q
  .rw[Ao q]at h;exact nn h
 show(seqIndex? (i:Int) xs.length).bind (xs[·]?)=_;have e:seqIndex? (i:Int) xs.length=some i:=by
  unfold seqIndex?;have c:¬ ((i:Int)<0):=by lia
  rw[if_neg c];simp;assumption
 rw[e];exact h
theorem dM (h:ev S ρ e=some d):Ch S ρ (.y e)=some (some d):=bi h rfl
theorem eN:Ch S ρ .n=some none:=rfl
theorem oj (h:ev S ρ a=some (.int i)):ev S ρ (.n a)=some (.int (-i)):=bi h rfl
theorem fY {lo hi st:Os}{x d:D}{l h t:Option D}(ha:ev S ρ a=some x)(h1:Ch S ρ lo=some l)(h2:Ch S ρ hi=some h)(h3:Ch S ρ st=some t)(e:fX x l h t=some d):ev S ρ (.a a lo hi st)=some d:=bi ha (bi h1 (bi h2 (bi h3 e)))
theorem en (h:kI S ρ es=some ds)(hb:pj f ds=some d):ev S ρ (.f f es)=some d:=bi h hb
theorem lg (h:eT 8 x=true)(he:PyData.eqv x x=true):cY .NotEq x x=some (.bool false):=by show(if eT 8 x&&eT 8 x then some (PyData.bool (!PyData.eqv x x))else none)=_;rw[h,he];rfl
theorem Fa (f:α->β)(xs:List α)(lo hi st:Option Int):mh (xs.map f) lo hi st=(mh xs lo hi st).map f:=by
 unfold mh;rw[dq,List.map_filterMap]
 congr 1
 funext i
 simp
theorem m5:∀xs:List Int,fT (xs.map PyData.int)=some xs
 |[]=>rfl
 |x::xs=>by have e:fT ((x::xs).map PyData.int)=(fT (xs.map PyData.int)).map (x :: ·):=rfl;rw[e,m5 xs];rfl
def Sm (n:Nat)(a:Int):Prop:=a.natAbs<2^n
theorem Sm.ib (h:Sm n a):ib a<=n:=by have:Internal.ib a<=Internal.ib ((a.natAbs:Nat):Int):=y4 (by rw[Int.natAbs_natCast];exact gC _);exact az this (ja h)
theorem Sm.mono (h:Sm n a)(hm:n<=m):Sm m a:=iu h (Nat.pow_le_pow_right (by decide) hm)
theorem Sm.neg (h:Sm n a):Sm n (-a):=by unfold Sm at *;rw[Int.natAbs_neg];exact h
theorem Sm.add (h:Sm n a)(k:Sm n b):Sm (n+1) (a+b):=by unfold Sm at *;rw[Nat.pow_succ];exact fy (Int.natAbs_add_le a b) ((Nat.mul_two _).symm▸Nat.add_lt_add h k)
theorem Sm.sub (h:Sm n a)(k:Sm n b):Sm (n+1) (a-b):=by rw[Int.sub_eq_add_neg];exact h.add k.neg
theorem Sm.mul (h:Sm n a)(k:Sm m b):Sm (n+m) (a*b):=by unfold Sm at *;rw[Int.natAbs_mul,Nat.pow_add];exact Nat.mul_lt_mul_of_lt_of_lt h k
theorem vx (hb:b≠0)(ha:Sm 20000 a)(hb2:Sm 4000 b):pH [.int a, .int b]=some (mi a b):=by show(if b≠0/\bd a b then some (mi a b)else none)=_;rw[if_pos ⟨hb,by have:=ha.ib;exact rJ ‹_› rfl,hb2.ib⟩]
noncomputable def BP (u v:aH):Bool:=!u.isEmpty&&!v.isEmpty&&!u.isPrefixOf v&&!v.isPrefixOf u&&!u.isSuffixOf v&&!v.isSuffixOf u
theorem BQ (h:BP u v=true):Code u v:=by
 unfold BP at h;simp only[g9,Bool.not_eq_true']at h;obtain⟨⟨⟨⟨⟨h1,h2⟩,h3⟩,h4⟩,h5⟩,h6⟩:=h;have np:∀{a b:aH},a.isPrefixOf b=false->¬ a <+: b:=fun{a b} h q=>by rw[List.isPrefixOf_iff_prefix.mpr q]at h;cases h
 have ns:∀{a b:aH},a.isSuffixOf b=false->¬ a <:+ b:=fun{a b} h q=>by rw[List.isSuffixOf_iff_suffix.mpr q]at h;cases h
 exact⟨(fun e=>by rw[e]at h1;cases h1),(fun e=>by rw[e]at h2;cases h2),np h3,np h4,ns h5,ns h6⟩
theorem kE (hu:u≠[])(hv:v≠[])(h:∀c∈u,c∉v):Code u v:=by
 have g:∀{a b:aH},a≠[]->(∀c∈a,c∉b)->(∀c∈a,c∈b)->False:=fun{a b} ha h1 h2=>by
  cases a with
  |nil=>exact ha rfl
  |cons c r=>exact h1 c dX (h2 c dX)
 have h':∀c∈v,c∉u:=fun c hc hc'=>h c hc' hc;exact⟨hu,hv,fun q=>g hu h fun c m=>q.subset m,fun q=>g hv h' fun c m=>q.subset m,fun q=>g hu h fun c m=>q.subset m,fun q=>g hv h' fun c m=>q.subset m⟩
noncomputable def qW (x:Nat):aH:=[38,60,62,34,13,10,9,x]
abbrev wr (k c:Nat):aH:=eV (bu (cW k)) c
noncomputable def fk:aH:=[38,60,62,34,13,10,9]
theorem CU:((List.range 5).all fun k=>(List.range 7).all fun i=>(List.range 7).all fun j=>i==j || BP (wr k (fk.getD i 0)) (wr k (fk.getD j 0)))=true:=by decide +kernel
theorem Ap:((List.range 5).all fun k=>fk.all fun c=>!(wr k c).isEmpty&&(wr k c).all fun z=>decide (z<192)&&z != 46)=true:=by decide +kernel
theorem CI:((List.range 5).all fun k=>(bu (cW k)).all fun p=>decide (p.1<192))=true:=by decide +kernel
theorem mf (hk:k<5)(hx:192<=x):wr k x=[x]:=by
 have h:=bQ (bQ CI k (List.mem_range.mpr hk));unfold wr eV;have:(bu (cW k)).lookup x=none:=by
  rw[List.lookup_eq_none_iff];intro p hp;have:=bX (h p hp);simp only[bne_iff_ne]
  lia
 rw[this];rfl
theorem uf (hk:k<5)(hc:c∈fk):wr k c≠[]/\∀z∈wr k c,z<192/\z≠46:=by have h:=bQ (bQ Ap k (List.mem_range.mpr hk)) c hc;simp only[g9,Bool.not_eq_true',List.all_eq_true,kh,bne_iff_ne]at h;exact⟨fun e=>by rw[e]at h;simp at h,fun z hz=>h.2 z hz⟩
theorem Mo:∀i:Nat,i<7->i=0\/i=1\/i=2\/i=3\/i=4\/i=5\/i=6:=by decide
theorem Lw:∀i:Nat,i<8->i=0\/i=1\/i=2\/i=3\/i=4\/i=5\/i=6\/i=7:=by decide
theorem v8 (hk:k<5)(hx:192<=x)(hi:i<8)(hj:j<8)(hij:i≠j):Code (wr k ((qW x).getD i 0)) (wr k ((qW x).getD j 0)):=by
 have lowD:∀{i:Nat},i<7->(qW x).getD i 0=fk.getD i 0/\fk.getD i 0∈fk:=fun{i} h=>by have:=Mo i h;rcases this with rfl|rfl|rfl|rfl|rfl|rfl|rfl <;> exact⟨rfl,by decide⟩
 have h7:(qW x).getD 7 0=x:=rfl;by_cases ci:i=7
 .subst ci;obtain⟨e,m⟩:=lowD (i:=j) (by lia);rw[h7,e,mf hk hx];obtain⟨n0,n1⟩:=uf hk m;exact kE (by simp) n0 fun c hc hc2=>by have:=(n1 c hc2).1;simp at hc;lia
 .by_cases cj:j=7
  .subst cj;obtain⟨e,m⟩:=lowD (i:=i) (by lia);rw[h7,e,mf hk hx];obtain⟨n0,n1⟩:=uf hk m;exact kE n0 (by simp) fun c hc hc2=>by have:=(n1 c hc).1;simp at hc2;lia
  .rw[(lowD (i:=i) (by lia)).1,(lowD (i:=j) (by lia)).1];have h:=bQ (bQ (bQ CU k (List.mem_range.mpr hk)) i (List.mem_range.mpr (by lia))) j (List.mem_range.mpr (by lia));rw[Bool.or_eq_true]at h;rcases h with h|h
   .exact absurd (by simpa using h) hij
   .exact BQ h
theorem zq (hk:k<5)(hx:192<=x)(hi:i<8):46∉wr k ((qW x).getD i 0):=by
 by_cases ci:i=7
 .subst ci;show 46∉wr k x;rw[mf hk hx];simp;lia
 .have:=Mo i (Nat.lt_of_le_of_ne (Nat.le_of_lt_succ hi) ci);intro m;have hm:(qW x).getD i 0∈fk:=by rcases this with rfl|rfl|rfl|rfl|rfl|rfl|rfl <;> first|exact(show(38:Nat)∈fk by decide)|exact(show(60:Nat)∈fk by decide)|exact(show(62:Nat)∈fk by decide)|exact(show(34:Nat)∈fk by decide)|exact(show(13:Nat)∈fk by decide)|exact(show(10:Nat)∈fk by decide)|exact(show(9:Nat)∈fk by decide)
  exact((uf hk hm).2 _ m).2 rfl
theorem sq (hx:x<55296)(hi:i<8):(qW x).getD i 0<55296:=by have:=Lw i hi;rcases this with rfl|rfl|rfl|rfl|rfl|rfl|rfl|rfl <;> first|exact hx|exact(show(38:Nat)<55296 by decide)|exact(show(60:Nat)<55296 by decide)|exact(show(62:Nat)<55296 by decide)|exact(show(34:Nat)<55296 by decide)|exact(show(13:Nat)<55296 by decide)|exact(show(10:Nat)<55296 by decide)|exact(show(9:Nat)<55296 by decide)
theorem zr (hi:i<8):((qW x).map fun c=>an [c])[i]?=some (an [(qW x).getD i 0]):=by have:=Lw i hi;rcases this with rfl|rfl|rfl|rfl|rfl|rfl|rfl|rfl <;> rfl
theorem pi (T:List (Nat × aH))(c d:Nat)(x:aG):bJ T (wd [c] [d] x)=wd (eV T c) (eV T d) x:=by
 induction x with
 |nil=>rfl
 |cons b x ih =>
  rw[cF,cF,uX,ih]
  congr 1
  cases b <;> simp[bJ]
theorem ym (c d:Nat)(x:aG):(wd [c] [d] x).length=x.length:=by
 induction x with
 |nil=>rfl
 |cons b x ih =>
  rw[cF,lla,ih];cases b <;> simp <;> lia
theorem yn (h:z∈wd u v x):z∈u\/z∈v:=by
 induction x with
 |nil=>cases h
 |cons b x ih =>
  rw[cF,List.mem_append]at h;rcases h with h|h
  .cases b
   .exact .inl h
   .exact .inr h
  .exact ih h
end
end Internal
section
set_option exponentiation.threshold 1000
namespace Internal
variable {S:cL}
structure i5 (k cu cv:Nat):Prop where
 hk:k<5
 hu:cu<55296
 hv:cv<55296
 code:Code (wr k cu) (wr k cv)
 du:46∉wr k cu
 dv:46∉wr k cv
abbrev tw (cu cv:Nat)(x:aG):aH:=wd [cu] [cv] x
abbrev ww (k cu cv:Nat)(x:aG):aH:=wd (wr k cu) (wr k cv) x
theorem FZ:((List.range 5).all fun k=>Dm (bu (cW k)))=true:=by decide +kernel
theorem Dn (hk:k<5):Dm (bu (cW k))=true:=bQ FZ k (List.mem_range.mpr hk)
section
variable {k cu cv m:Nat}(Q:i5 k cu cv)
include Q
theorem i5.ok (h:x.length<=10000):uk (tw cu cv x):=⟨by rw[ym];exact az h (by decide),fun c hc=>by
 rcases yn hc with q|q
 .rw[aV q];exact Q.hu
 .rw[aV q];exact Q.hv⟩
theorem i5.len (h:x.length<=1000):(ww k cu cv x).length<=6*x.length:=by have:=(jV (Dn Q.hk) (Q.ok (az h (by decide))).2).1;rw[pi,ym]at this;exact this
theorem i5.dot (x:aG):46∉ww k cu cv x:=fun h=>(yn h).elim Q.du Q.dv
theorem i5.ne (h:x≠[]):ww k cu cv x≠[]:=zF Q.code h
end
end Internal
end
namespace Internal
section
section
variable {u v:Nat}
noncomputable def sl (u v:Nat)(s:Bool):Nat:=if s then v else u
def lw (u v:Nat)(t:aG):Nat:=(t.map (sl u v)).sum
end
end
section
theorem Cl (h:eO g w s e=some k):s<=k/\k+w.length<=e:=by unfold eO at h;have h1:=List.find?_some h;have h2:=List.mem_range'_1.mp (List.mem_of_find?_eq_some h);simp only[g9,kh]at h1;exact⟨h2.1,h1.1⟩
theorem sD:∀(ms:List aH)(s:Nat),s<=e->de g e s (ms++[[]])=de g e s ms
 |[],s,h=>Em h
 |w::ms,s,h=>by
  show(match eO g w s e with|some k=>de g e (k+w.length) (ms++[[]])|none=>false)=(match eO g w s e with|some k=>de g e (k+w.length) ms|none=>false);cases c:eO g w s e with
  |none=>rfl
  |some k=>exact sD ms _ (Cl c).2
theorem yl (h:s<=e):de g e s ([]::ms)=de g e s ms:=by show(match eO g [] s e with|some k=>de g e (k+0) ms|none=>false)=_;rw[pz (by simpa using h) (by simp)];rfl
theorem Ak:(ms++[q]).getLastD []=q:=by rw[List.getLastD_eq_getLast?,List.getLast?_concat];rfl
theorem rx:qO g s (ms++[q])=(q.isSuffixOf g&&decide (s+q.length<=g.length)&&de g (g.length-q.length) s ms):=by
 unfold qO;rw[Ak];by_cases hq:q=[]
 .subst hq;rw[if_pos rfl];have e1:([]:aH).isSuffixOf g=true:=List.isSuffixOf_iff_suffix.mpr List.nil_suffix;rw[e1,Bool.true_and];by_cases c:g.length<s
  .rw[if_pos c,fH (by simp;assumption),Bool.false_and]
  .rw[if_neg c,eD (by simp;lia),Bool.true_and,sD ms s (by lia)];rfl
 .rw[if_neg hq];cases c:q.isSuffixOf g with
  |false=>simp
  |true =>
   have hl:=(List.isSuffixOf_iff_suffix.mp c).length_le;rw[if_pos rfl,Bool.true_and,List.dropLast_concat];by_cases c2:g.length-q.length<s
   .rw[if_pos c2,fH (by lia),Bool.false_and]
   .rw[if_neg c2,eD (by lia),Bool.true_and]
theorem xe:B1 (p::(ms++[q])) g=(p.isPrefixOf g&&q.isSuffixOf g&&decide (p.length+q.length<=g.length)&&de g (g.length-q.length) p.length ms):=by
 show(if p=[]then qO g 0 (([]:List aH)++p::(ms++[q]))else if p.isPrefixOf g then qO g p.length (ms++[q])else false)=_;by_cases hp:p=[]
 .subst hp;have e1:([]:aH).isPrefixOf g=true:=List.isPrefixOf_iff_prefix.mpr List.nil_prefix;have e2:([]:List aH)++[]::(ms++[q])=([]::ms)++[q]:=rfl;rw[if_pos rfl,e1,Bool.true_and,e2,rx,List.length_nil];rw[yl (nv _)]
 .rw[if_neg hp];cases c:p.isPrefixOf g with
  |false=>simp
  |true=>rw[if_pos rfl,Bool.true_and,rx]
theorem Code.inj (c:Code u v):wd u v x=wd u v y↔x=y:=by
 constructor
 .intro h;have h1:x.isPrefixOf y=true:=by rw[<- c.pre,h];exact List.isPrefixOf_iff_prefix.mpr (List.prefix_refl _)
  have h2:y.isPrefixOf x=true:=by rw[<- c.pre,h];exact List.isPrefixOf_iff_prefix.mpr (List.prefix_refl _)
  have h1:=List.isPrefixOf_iff_prefix.mp h1;have h2:=List.isPrefixOf_iff_prefix.mp h2;exact h1.eq_of_length (Nat.le_antisymm h1.length_le h2.length_le)
 .rintro rfl;rfl
theorem Kr (u v:aH)(t:aG):(wd u v t).length=lw u.length v.length t:=by
 induction t with
 |nil=>rfl
 |cons b t ih =>
  rw[cF,lla,ih];cases b <;> simp[lw,sl]
theorem zZ (h:d<2^n):cH n (d+2^n*y) (k+1)=d::cH n y k:=by
 have e1:(d+2^n*y) % 2^(n*1)=d:=by rw[Nat.mul_one,Nat.add_mul_mod_self_left,Nat.mod_eq_of_lt h]
 have e2:(d+2^n*y) / 2^(n*1)=y:=by rw[Nat.mul_one,Nat.add_mul_div_left _ _ (Nat.two_pow_pos n),Nat.div_eq_of_lt h,Nat.zero_add]
 rw[Nat.add_comm k 1,<- kG,e1,e2,pe _ _ h];rfl
theorem uO:∀{ns:aH},(∀d∈ns,d<2^n)->cH n (fD n ns) ns.length=ns
 |[],_=>rfl
 |d::ns,h=>by show cH n (d+2^n*fD n ns) (ns.length+1)=_;rw[zZ (h d dX),uO fun x m=>h x (dP _ m)]
noncomputable def bI (L:aH)(K:Nat):aH:=(List.range K).map fun k=>L.count k
theorem zB:∀{xs ys:aH},xs.length=ys.length->fD n (List.zipWith (· + ·) xs ys)=fD n xs+fD n ys
 |[],[],_=>rfl
 |x::xs,y::ys,h=>by have ih:=zB (n:=n) (xs:=xs) (ys:=ys) (by simpa using h);simp only[List.zipWith_cons_cons,fD,ih,Nat.mul_add];omega
theorem wu:∀{K e:Nat},e<K->fD n ((List.range K).map fun k=>if k=e then 1 else 0)=2^(n*e)
 |0,e,h=>by omega
 |K+1,e,h=>by
  rw[List.range_succ_eq_map,fU,fv];show(if 0=e then 1 else 0)+2^n*fD n ((List.range K).map fun k=>if k+1=e then 1 else 0)=_;cases e with
  |zero =>
   have:((List.range K).map fun k=>if k+1=0 then 1 else 0)=(List.range K).map fun k=>0:=List.map_congr_left fun k _=>if_neg (by omega);rw[this];have hz:∀m:Nat,fD n ((List.range m).map fun k=>0)=0:=fun m=>by
    have:((List.range m).map fun _:Nat=>0)=List.replicate m 0:=by rw[List.map_const'];simp
    rw[this]
    induction m with
    |zero=>rfl
    |succ m ih=>rw[List.replicate_succ];simp only[fD];rw[ih (by rw[List.map_const'];simp)];simp
   rw[hz];simp
  |succ e =>
   have:((List.range K).map fun k=>if k+1=e+1 then 1 else 0)=(List.range K).map fun k=>if k=e then 1 else 0:=List.map_congr_left fun k _=>by simp
   rw[this,wu (by omega)];rw[if_neg (by omega),Nat.zero_add,<- Nat.pow_add,Nat.mul_add,Nat.mul_one,Nat.add_comm]
theorem kX {n K:Nat}:∀{L:aH},(∀e∈L,e<K)->fD n (bI L K)=(L.map fun e=>2^(n*e)).sum
 |[],_=>by
  have:bI [] K=List.replicate K 0:=by unfold bI;simp only[List.count_nil];rw[List.map_const'];simp
  rw[this];have:∀m:Nat,fD n (List.replicate m 0)=0:=fun m=>by
   induction m with
   |zero=>rfl
   |succ m ih=>rw[List.replicate_succ];simp only[fD];rw[ih];simp
  rw[this];rfl
 |e::L,h=>by
  have ih:=kX (n:=n) (K:=K) (L:=L) fun x m=>h x (dP _ m);have e1:bI (e::L) K=List.zipWith (· + ·) ((List.range K).map fun k=>if k=e then 1 else 0) (bI L K):=by
   unfold bI;rw[List.zipWith_map,List.zipWith_self];refine List.map_congr_left fun k _=>?_;rw[List.count_cons];by_cases c:k=e
   .subst c;simp;omega
   .rw[if_neg c,if_neg (by simpa using fun q=>c q.symm)];omega
  rw[e1,zB (by simp[bI]),wu (h e dX),ih,fU,List.sum_cons]
theorem pN:∀{l:aH},x∈l->x<=l.sum
 |a::l,h=>by
  rw[List.sum_cons];rcases bM h with rfl|h
  .omega
  .have:=pN h;omega
theorem mI {L:aH}{K B:Nat}(h:L.length<B):∀d∈bI L K,d<B:=fun d m=>by obtain⟨k,_,rfl⟩:=gO m;exact fy List.count_le_length h
variable {S:cL}{cu cv:Nat}
theorem j1:∀{l:List α},(∀a∈l,f (i a)=some (if p a then[g a]else[]))->eQ f (l.map i)=some ((l.filter p).map g)
 |[],_=>rfl
 |a::l,h=>by
  refine bi (h a dX) (bi (j1 fun b m=>h b (dP _ m)) ?_);rw[List.filter_cons];by_cases hp:p a=true
  .rw[if_pos hp,if_pos hp];rfl
  .rw[if_neg hp,if_neg hp];rfl
theorem iI {l:List α}(hs:dZ S ρ src=some (l.map i))
  (h:∀a∈l,∃ρ',bE (ρ.del (tg++[])) tg (i a)=some ρ'/\evT S ρ' c=some (p a)/\(p a=true->ev S ρ' elt=some (g a))) (hz:(!eG src || bf ((l.filter p).map g))=true:=by rfl):ev S ρ (.p elt (.c tg src (.c c .n) .n))=some (.list ((l.filter p).map g)):=by
 refine bi (x:=(l.filter p).map g) (bi hs (j1 fun a m=>?_)) (if_pos (show(true&&(!eG src || bf ((l.filter p).map g)))=true from hz));obtain⟨ρ',h1,h2,h3⟩:=h a m;refine bi h1 (bi (x:=p a) (bi h2 (by cases p a <;> rfl)) ?_);cases hp:p a with
 |false=>rfl
 |true =>
  show(ev S ρ' elt).map (fun d=>[d])=_;rw[h3 hp];rfl
theorem ba {l:List α}(hs:dZ S ρ src=some (l.map i))
  (h:∀a∈l,∃ρ',bE (ρ.del (tg++[])) tg (i a)=some ρ'/\ev S ρ' elt=some (g a)) (hz:(!eG src || bf (l.map g))=true:=by rfl):ev S ρ (.p elt (.c tg src .n .n))=some (.list (l.map g)):=by
 have key:eQ (fun it=>(bE (ρ.del (tg++[])) tg it).bind fun ρ'=>(jn S ρ' .And .n).bind fun b=>bif b then qP S ρ' ρ' (fun ρ'=>ev S ρ' elt) .n else some []) (l.map i)=some ((l.filter fun _=>true).map g):=j1 fun a m=>by obtain⟨ρ',h1,h2⟩:=h a m;refine bi h1 (bi (x:=true) rfl ?_);show(ev S ρ' elt).map (fun d=>[d])=_;rw[h2];rfl
 rw[List.filter_eq_self.mpr fun _ _=>rfl]at key;exact bi (x:=l.map g) (bi hs key) (if_pos (show(true&&(!eG src || bf (l.map g)))=true from hz))
theorem El (x y:aH):((tx x:Str)==tx y)=(x==y):=by rw[Bool.eq_iff_iff,beq_iff_eq,beq_iff_eq];exact⟨fun h=>by have:=congrArg (fun s:Str=>s.cps.toList) h;simpa using this,fun h=>by rw[h]⟩
theorem HJ (x y:aH):PyData.eqv (an x) (an y)=(x==y):=by rw[<- El];rfl
theorem qh (h:cu≠cv):Code [cu] [cv]:=kE (List.cons_ne_nil _ _) (List.cons_ne_nil _ _) fun c m m'=>h ((aV m).symm.trans (aV m'))
theorem Eh (h:cu≠cv)(x y:aG):(tw cu cv x==tw cu cv y)=(x==y):=by rw[Bool.eq_iff_iff,beq_iff_eq,beq_iff_eq];exact(qh h).inj
theorem kW (x:aG):(tw cu cv x).length=x.length:=by rw[ym]
theorem GE (x:aG)(s:Bool):tw cu cv (s::x)=tw cu cv [s]++tw cu cv x:=cB _ _ [s] x
theorem aU {ρ:aB}(h:n≠k)(g:ρ.get n=some d):(ρ.del ([k]++[])).get n=some d:=by
 rw[aB.get_del,if_neg]
 .exact g
 .simpa using h
theorem ae {ρ:aB}(h:n≠k)(g:ρ.get n=some d):(ρ.set k e).get n=some d:=by rw[aB.get_set,if_neg h];exact g
theorem am {ρ:aB}:(ρ.set n d).get n=some d:=by rw[aB.get_set,if_pos rfl]
theorem MC {ρ:aB}(h:Nat.beq n k=false)(g:ρ.get n=some d):(ρ.set k e).get n=some d:=ae (Nat.ne_of_beq_eq_false h) g
theorem Mx {ρ:aB}(h:Nat.beq n k=false)(g:ρ.get n=some d):(ρ.del ([k]++[])).get n=some d:=aU (Nat.ne_of_beq_eq_false h) g
theorem HR (h:evT S ρ c=some true)(h':eK S ρ a=o):ex S ρ (.i c a b)=o:=aY h h'
theorem hG (h:evT S ρ c=some false)(h':eK S ρ b=o):ex S ρ (.i c a b)=o:=aY h h'
theorem dD (h1:ev S ρ e1=some a)(h2:ev S ρ e2=some b):ev S ρ (.t (.c e1 (.c e2 .n)))=some (.tuple [a,b]):=lv (ad h1 (ad h2 aj)) (j6 rfl)
end
section
variable {S:cL}{cu cv:Nat}
theorem BS (xs:List α)(a:Nat):mh xs none (some (a:Int)) none=xs.take a:=by
 have:=sR xs none (some a);simp only[Option.map_some,Option.map_none,ij]at this;rw[this,List.drop_zero,Nat.sub_zero];rcases Nat.le_total a xs.length with h|h
 .rw[Nat.min_eq_left h]
 .rw[Nat.min_eq_right h,List.take_of_length_le (gC _),List.take_of_length_le h]
theorem uJ (xs:List α)(a:Nat):mh xs (some (a:Int)) none none=xs.drop a:=by
 have:=sR xs (some a) none;simp only[Option.map_some,Option.map_none,ij]at this;rw[this];rcases Nat.le_total a xs.length with h|h
 .rw[Nat.min_eq_left h,List.take_of_length_le (by rw[List.length_drop];exact gC _)]
 .rw[Nat.min_eq_right h,List.drop_of_length_le (gC _),List.drop_of_length_le h];simp
theorem v9:fX (an l) none (some (aa a)) none=some (an (l.take a)):=by show some (PyData.str ⟨(mh l none (some (a:Int)) none).toArray⟩)=_;rw[BS]
theorem qy:fX (an l) (some (aa a)) none none=some (an (l.drop a)):=by show some (PyData.str ⟨(mh l (some (a:Int)) none none).toArray⟩)=_;rw[uJ]
theorem A1:fX (.list l) (some (aa a)) none none=some (.list (l.drop a)):=by show some (PyData.list (mh l (some (a:Int)) none none))=_;rw[uJ]
theorem ua (x:aG)(n:Nat):(tw cu cv x).take n=tw cu cv (x.take n):=by
 induction x generalizing n with
 |nil=>simp[wd]
 |cons b x ih =>
  cases n with
  |zero=>rfl
  |succ n =>
   show List.take (n+1) (wd [cu] [cv] (b::x))=wd [cu] [cv] (b::x.take n);have ih':List.take n (wd [cu] [cv] x)=wd [cu] [cv] (x.take n):=ih n;rw[cF,cF,<- ih'];cases b <;> rfl
theorem oH (x:aG)(n:Nat):(tw cu cv x).drop n=tw cu cv (x.drop n):=by
 induction x generalizing n with
 |nil=>simp[wd]
 |cons b x ih =>
  cases n with
  |zero=>rfl
  |succ n =>
   show List.drop (n+1) (wd [cu] [cv] (b::x))=wd [cu] [cv] (x.drop n);have ih':List.drop n (wd [cu] [cv] x)=wd [cu] [cv] (x.drop n):=ih n;rw[cF,<- ih'];cases b <;> rfl
theorem bS (a b:Nat):cX .Add (aa a) (aa b)=some (aa (a+b)):=eF a b
end
section
variable {S:cL}{k cu cv:Nat}
theorem FY {ρ:aB}{rs:aG}(hg:ρ.get y=some (.list (rs.map PyData.bool))) :
  ev S ρ (.p (.v x) (.c [x] (.e (.v y)) (.c (.o .And (.c (.q .IsNot (.v x) (.l (.bool true))) (.c (.q .IsNot (.v x) (.l (.bool false))) .n))) .n) .n))=some (.list []):=by
 have key:=iI (S:=S) (ρ:=ρ) (elt:=.v x) (c:=.o .And (.c (.q .IsNot (.v x) (.l (.bool true))) (.c (.q .IsNot (.v x) (.l (.bool false))) .n))) (tg:=[x]) (src:=.e (.v y)) (l:=rs) (i:=PyData.bool) (g:=PyData.bool) (p:=fun _=>false)
  (bi (ab hg) rfl) fun r _=>⟨(ρ.del ([x]++[])).set x (.bool r),rfl, ?_,fun h=>by exact ff h⟩
 .rw[key,List.filter_eq_nil_iff.mpr fun _ _=>nP];rfl
 .have hv:ev S ((ρ.del ([x]++[])).set x (.bool r)) (.v x)=some (.bool r):=ab am;have e1:evT S ((ρ.del ([x]++[])).set x (.bool r)) (.q .IsNot (.v x) (.l (.bool true)))=some (r != true):=aL hv rfl rfl;have e2:evT S ((ρ.del ([x]++[])).set x (.bool r)) (.q .IsNot (.v x) (.l (.bool false)))=some (r != false):=aL hv rfl rfl;refine bi e1 ?_;cases r
  .exact bi e2 rfl
  .rfl
theorem Ij {ρ:aB}{rs:aG}(hg:ρ.get y=some (.list (rs.map PyData.bool))) :
  evT S ρ (.q .NotEq (.p (.v x) (.c [x] (.e (.v y)) (.c (.o .And (.c (.q .IsNot (.v x) (.l (.bool true))) (.c (.q .IsNot (.v x) (.l (.bool false))) .n))) .n) .n)) (.i .n))=some false:=aL (FY hg) rfl rfl
section
variable (Q:i5 k cu cv)
include Q
theorem i5.okw (h:x.length<=150):uk (ww k cu cv x):=by have:=jV (Dn Q.hk) (Q.ok (x:=x) (by exact rJ ‹_› rfl)).2;rw[pi]at this;have h2:(ww k cu cv x).length<=6*(tw cu cv x).length:=this.1;rw[kW]at h2;exact⟨by lia,this.2⟩
theorem i5.written (F:Facts S)(h:x.length<=150):S.cal 46 [aa k,an (tw cu cv x)]=some (an (ww k cu cv x)):=by rw[F.c46 k _ Q.hk (Q.ok (by exact rJ ‹_› rfl)),pi]
theorem i5.spelled (F:Facts S)(h:x.length<=150):S.cal 48 [aa k,an (tw cu cv x)]=some (an (ww k cu cv x)):=by rw[F.c48 k _ Q.hk (Q.ok (by exact rJ ‹_› rfl)),pi]
end
abbrev cK (cu cv:Nat)(E:List aG):D:=.list (E.map fun t=>an (tw cu cv t))
theorem i5.code_ne (Q:i5 k cu cv):cu≠cv:=fun e=>by
 have h:ww k cu cv [false]=ww k cu cv [true]:=by subst e;rfl
 exact absurd (Q.code.inj.mp h) (by decide)
end
end Internal
section
namespace Internal
variable {S:cL}
open PySem.StrLaws in
theorem nk:∀{cuts:aH}{a f:Nat},ChainG x ⟨#[c]⟩ x.length a cuts f->(∀k,f<=k->¬ At x ⟨#[c]⟩ x.length k)->a<=x.length->(x.cps.toList.drop a).count c=cuts.length
 |[],a,f,h,hn,ha=>by have e:f=a:=h;subst e;have:=part_free x c f x.length (gC _) fun k h1 _=>hn k h1;rw[strSub_toList]at this;rw[List.take_of_length_le (by rw[List.length_drop];simp[Str.length])]at this;exact List.count_eq_zero.mpr this
 |d::r,a,f,h,hn,ha=>by
  obtain⟨h1,h2,h3,h4⟩:=h;have hd:d+1<=x.length:=h2.1;have g:=(subAt_one x c d).mp h2;have free:=part_free x c a d (by exact gp ‹_›) h3;rw[strSub_toList]at free;have ih:=nk h4 hn hd;have e1:x.cps.toList.drop a=(x.cps.toList.drop a).take (d-a)++x.cps.toList.drop d:=by
   have:=(List.take_append_drop (d-a) (x.cps.toList.drop a)).symm;rw[List.drop_drop]at this;have e:a+(d-a)=d:=by lia
   rw[e]at this;exact this
  have e2:x.cps.toList.drop d=c::x.cps.toList.drop (d+1):=by obtain⟨hlt,hv⟩:=List.getElem?_eq_some_iff.mp g;rw[List.drop_eq_getElem_cons hlt,hv]
  rw[e1,List.count_append,List.count_eq_zero.mpr free,e2,List.count_cons_self];have e3:(x.cps.toList.drop (d+1)).count c=r.length:=ih;rw[e3,nR];lia
open PySem.StrLaws in
theorem zW (x:Str)(c:Nat):Txt.count x ⟨#[c]⟩=((x.cps.toList.count c:Nat):Int):=by obtain⟨f,h1,h2⟩:=occ_tight x ⟨#[c]⟩ (gC 1);have:=nk h1 h2 (nv _);rw[List.drop_zero]at this;rw[this];rfl
theorem vL (l:aH)(c:Nat):ki .count (an l) [an [c]]=some (aa (l.count c)):=by show some (PyData.int (Txt.count (tx l) ⟨#[c]⟩))=_;rw[zW]
theorem mV (h:ev S ρ o=some x)(hs:kI S ρ args=some ds)(e:ki m x ds=some d):ev S ρ (.m m o args)=some d:=bi h (bi hs e)
theorem zl {a k:Nat}(h:ib (a:Int)*k<=134217728):cX .Pow (aa a) (aa k)=some (aa (a^k)):=by
 show(if decide (0<=(k:Int))&&decide ((ib (a:Int):Int)*(k:Int)<=2^27)then some (PyData.int ((a:Int)^((k:Int)).toNat))else none)=_;have e:((ib (a:Int):Nat):Int)*(k:Int)=((ib (a:Int)*k:Nat):Int):=by rw[Int.natCast_mul]
 have e27:(2:Int)^27=134217728:=by decide
 rw[e,e27,if_pos (by simp only[g9,kh];lia),kj,<- Int.natCast_pow]
theorem lx (ns:aH):pj .sum [.list (ns.map aa)]=some (aa ns.sum):=by show(fT (ns.map aa)).map (fun ns=>PyData.int ns.sum)=_;rw[j3];show some (PyData.int (ns.map fun n:Nat=>(n:Int)).sum)=_;rw[wj]
noncomputable def m9:Nat->aH->Nat
 |n,[]=>n
 |n,m::r=>m9 (max n m) r
noncomputable def FV:Nat->aH->Nat
 |n,[]=>n
 |n,m::r=>FV (min n m) r
theorem vB:∀(n:Nat) (r:aH),Ac (((n::r).map fun n:Nat=>(n:Int)))=(m9 n r:Int)
 |n,[]=>rfl
 |n,m::r=>by
  have ih:=vB (max n m) r;show List.foldl (fun m x=>if x > m then x else m) (if(m:Int) > (n:Int)then(m:Int)else(n:Int)) (r.map fun n:Nat=>(n:Int))=(m9 (max n m) r:Int);have e:(if(m:Int) > (n:Int)then(m:Int)else(n:Int))=((max n m:Nat):Int):=by
   by_cases h:m > n
   .rw[if_pos (by lia)];lia
   .rw[if_neg (by lia)];lia
  rw[e];exact ih
theorem vC:∀(n:Nat) (r:aH),Ad (((n::r).map fun n:Nat=>(n:Int)))=(FV n r:Int)
 |n,[]=>rfl
 |n,m::r=>by
  have ih:=vC (min n m) r;show List.foldl (fun m x=>if x<m then x else m) (if(m:Int)<(n:Int)then(m:Int)else(n:Int)) (r.map fun n:Nat=>(n:Int))=(FV (min n m) r:Int);have e:(if(m:Int)<(n:Int)then(m:Int)else(n:Int))=((min n m:Nat):Int):=by
   by_cases h:m<n
   .rw[if_pos (by lia)];lia
   .rw[if_neg (by lia)];lia
  rw[e];exact ih
theorem oz:∀(n:Nat) (r:aH),n<=m9 n r/\(∀m∈r,m<=m9 n r)/\(m9 n r=n\/m9 n r∈r)
 |n,[]=>⟨gC _,(fun _ h=>nomatch h), .inl rfl⟩
 |n,m::r=>by
  obtain⟨a,b,c⟩:=oz (max n m) r;have hd:m9 n (m::r)=m9 (max n m) r:=rfl;rw[hd];refine⟨by lia,fun x hx=>?_, ?_⟩
  .rcases bM hx with rfl|hx
   .lia
   .exact b x hx
  .rcases c with c|c
   .rcases Nat.le_total n m with q|q
    .right;rw[c,Nat.max_eq_right q];exact dX
    .left;rw[c,Nat.max_eq_left q]
   .exact .inr (dP _ c)
theorem te (n:Nat)(r:aH):pj .max [.list ((n::r).map aa)]=some (aa (m9 n r)):=by show(match fT ((n::r).map aa)with|some (n::r)=>some (PyData.int (Ac (n::r)))|_=>none)=_;rw[j3];exact congrArg (fun x=>some (PyData.int x)) (vB n r)
theorem Ft (n:Nat)(r:aH):pj .min [.list ((n::r).map aa)]=some (aa (FV n r)):=by show(match fT ((n::r).map aa)with|some (n::r)=>some (PyData.int (Ad (n::r)))|_=>none)=_;rw[j3];exact congrArg (fun x=>some (PyData.int x)) (vC n r)
noncomputable abbrev G0 (b sc kk:Nat)(st:Int):E:=.b .Mod (.b .Add (.v b) (.f .sum (.c (.a (.v sc) (.y (.v kk)) (.y (.l (.int 60))) (.y (.l (.int st)))) .n))) (.b .Pow (.l (.int 10)) (.l (.int 9)))
def ii (xs:List Int)(st b:Int)(k:Nat):Nat:=((b+(mh xs (some (k:Int)) (some 60) (some st)).sum).fmod 1000000000).toNat
theorem Lz:cX .Pow (.int 10) (.int 9)=some (.int 1000000000):=by rfl
theorem Cc {xs:List Int}{ρ:aB}{st bv:Int}{kv:Nat}(hst:st≠0)(gb:ρ.get b=some (.int bv))(gs:ρ.get sc=some (.list (xs.map PyData.int)))(gk:ρ.get kk=some (aa kv)):ev S ρ (G0 b sc kk st)=some (aa (ii xs st bv kv)):=by
 have hs:ev S ρ (.a (.v sc) (.y (.v kk)) (.y (.l (.int 60))) (.y (.l (.int st))))=some (.list ((mh xs (some (kv:Int)) (some 60) (some st)).map PyData.int)):=by refine fY (ab gs) (dM (ab gk)) (dM aq) (dM aq) ?_;show(if some st=some 0 then none else some (PyData.list (mh (xs.map PyData.int) (some (kv:Int)) (some 60) (some st))))=_;rw[if_neg (fun e=>hst (aC e)),Fa]
 have hsum:ev S ρ (.f .sum (.c (.a (.v sc) (.y (.v kk)) (.y (.l (.int 60))) (.y (.l (.int st)))) .n))=some (.int (mh xs (some (kv:Int)) (some 60) (some st)).sum):=by refine en (ad hs aj) ?_;show(fT ((mh xs (some (kv:Int)) (some 60) (some st)).map PyData.int)).map (fun ns=>PyData.int ns.sum)=_;rw[m5];rfl
 refine ag (ag (ab gb) hsum (oT _ _)) (ag aq aq Lz) ?_;show(if(1000000000:Int) != 0 then some (PyData.int ((bv+(mh xs (some (kv:Int)) (some 60) (some st)).sum).fmod 1000000000))else none)=_;rw[if_pos (by decide)];unfold ii;have h0:0<=(bv+(mh xs (some (kv:Int)) (some 60) (some st)).sum).fmod 1000000000:=by rw[Int.fmod_eq_emod_of_nonneg _ (by lia)];lia
 obtain⟨n,hn⟩:=Int.eq_ofNat_of_zero_le h0;rw[hn,kj]
theorem z7 {xs:List Int}{ρ:aB}{st:Int}{src:Bl}{ps:List (Nat × Int)}(hst:st≠0)(hs:dZ S ρ src=some (ps.map fun p=>PyData.tuple [aa p.1, .int p.2]))(h1:b≠kk)(h2:sc≠kk)(h3:sc≠b)(gs:ρ.get sc=some (.list (xs.map PyData.int)))(hz:eG src=false:=by rfl) :
  ev S ρ (.p (G0 b sc kk st) (.c [kk,b] src .n .n))=some (.list ((ps.map fun p=>ii xs st p.2 p.1).map aa)):=by
 rw[fv];refine ba hs (fun p _=>⟨((ρ.del ([kk,b]++[])).set kk (aa p.1)).set b (.int p.2),rfl,Cc hst am (ae h3 (ae h2 ?_)) (ae (fun e=>h1 e.symm) am)⟩) (by rw[hz];rfl);rw[aB.get_del,if_neg]
 .exact gs
 .simp[h2,h3]
noncomputable abbrev Mr (cl : Nat) : E := .i (.c (.l (.str "&")) (.c (.l (.str "<")) (.c (.l (.str ">")) (.c (.l (.str "\"")) (.c (.l (.str "\r")) (.c (.l (.str "\n")) (.c (.l (.str "\t")) (.c (.f .chr (.c (.b .Add (.l (.int 192)) (.b .Mod (.b .FloorDiv (.s (.v cl) (.l (.int 0))) (.l (.int 280))) (.l (.int 55000)))) .n)) .n))))))))
theorem DR : ("&" : Str) = tx [38] ∧ ("<" : Str) = tx [60] ∧ (">" : Str) = tx [62] ∧ ("\"" : Str) = tx [34] ∧ ("\r" : Str) = tx [13] ∧ ("\n" : Str) = tx [10] ∧ ("\t" : Str) = tx [9] := by decide +kernel
theorem fe {ρ:aB}{cl i c:Nat}{cs:aH}(g:ρ.get cl=some (.list (cs.map aa)))(h:cs[i]?=some c):ev S ρ (.s (.v cl) (.l (.int i)))=some (aa c):=fu (ab g) aq (jN (i:=i) (by rw[List.getElem?_map,h];rfl))
theorem HC {n:Nat}(h:n<=1114111):(decide (0<=(n:Int))&&decide ((n:Int)<=1114111))=true:=kY ⟨eD (Int.natCast_nonneg _),eD (Int.ofNat_le.mpr h)⟩
theorem HP {ρ:aB}{r:aH}(g:ρ.get cl=some (.list ((c0::r).map aa))):ev S ρ (Mr cl)=some (.list ((qW (192+c0 / 280 % 55000)).map fun c=>an [c])):=by
 obtain⟨h1,h2,h3,h4,h5,h6,h7⟩:=DR;have hl:∀{y:Str}{c:Nat},y=tx [c]->ev S ρ (.l (.str y))=some (an [c]):=fun h=>by rw[h];rfl
 refine dj (ad (hl h1) (ad (hl h2) (ad (hl h3) (ad (hl h4) (ad (hl h5) (ad (hl h6) (ad (hl h7) (ad ?_ aj)))))))) (j6 rfl);refine en (ds:=[aa (192+c0 / 280 % 55000)]) (ad (ag (y:=aa (c0 / 280 % 55000)) (aq (d:=aa 192)) (ag (x:=aa (c0 / 280)) (y:=aa 55000) (ag (x:=aa c0) (y:=aa 280) (fe (i:=0) g rfl) aq (eM (by decide) (by decide))) aq (cD (by decide))) (bS _ _)) aj) ?_;have:c0 / 280 % 55000<55000:=Nat.mod_lt _ (by decide);show(if decide (0<=((192+c0 / 280 % 55000:Nat):Int))&&decide (((192+c0 / 280 % 55000:Nat):Int)<=1114111)then some (PyData.str ⟨#[((192+c0 / 280 % 55000:Nat):Int).toNat]⟩)else none)=_;rw[if_pos (HC (az (gp (Nat.add_lt_add_left this 192)) (by decide))),kj]
noncomputable abbrev Mq (cl sg fi:Nat):E:=.b .Add (.s (.v sg) (.v fi)) (.s (.v sg) (.b .Mod (.b .Add (.b .Add (.v fi) (.l (.int 1))) (.b .Mod (.b .FloorDiv (.s (.v cl) (.l (.int 0))) (.l (.int 40))) (.l (.int 7)))) (.l (.int 8))))
theorem HO {ρ:aB}{r:aH}(g:ρ.get cl=some (.list ((c0::r).map aa)))(g86:ρ.get sg=some (.list ((qW x).map fun c=>an [c])))(g87:ρ.get fi=some (aa i))(hi:i<8) :
  ev S ρ (Mq cl sg fi)=some (an [(qW x).getD i 0,(qW x).getD ((i+1+c0 / 40 % 7) % 8) 0]):=by
 refine jX (a:=[(qW x).getD i 0]) (b:=[(qW x).getD ((i+1+c0 / 40 % 7) % 8) 0]) (fu (ab g86) (ab g87) (jN (zr hi))) (fu (ab g86) (y:=aa ((i+1+c0 / 40 % 7) % 8)) ?_ (jN (zr (Nat.mod_lt _ (by decide))))) (j6 rfl);refine ag (ag (ag (ab g87) (aq (d:=aa 1)) (bS _ _)) (ag (ag (fe (i:=0) g rfl) (aq (d:=aa 40)) (eM (by decide) (by decide))) (aq (d:=aa 7)) (cD (by decide))) (bS _ _)) (aq (d:=aa 8)) (cD (by decide))
theorem GG (hk:k<5)(h1:192<=x)(h2:x<55296)(hi:i<8)(hj:j<8)(hij:i≠j):i5 k ((qW x).getD i 0) ((qW x).getD j 0):=
 ⟨hk,sq h2 hi,sq h2 hj,v8 hk h1 hi hj hij,zq hk h1 hi,zq hk h1 hj⟩
end Internal
end
namespace Internal
section
variable {S:cL}{k cu cv:Nat}
abbrev Hg (k cu cv:Nat):aH:=[(wr k cu).length,(wr k cv).length]
theorem yr (s:Bool):(ww k cu cv [s]).length=if s then(wr k cv).length else(wr k cu).length:=by
 cases s
 .show(wr k cu++[]).length=_;rw[List.append_nil];rfl
 .show(wr k cv++[]).length=_;rw[List.append_nil];rfl
theorem i5.size (Q:i5 k cu cv):(1<=(wr k cu).length/\(wr k cu).length<=6)/\1<=(wr k cv).length/\(wr k cv).length<=6:=by have h0:=Q.len (x:=[false]) (by decide);have h1:=Q.len (x:=[true]) (by decide);have n0:=List.length_pos_iff.mpr (Q.ne (x:=[false]) (by decide));have n1:=List.length_pos_iff.mpr (Q.ne (x:=[true]) (by decide));rw[yr]at h0 h1 n0 n1;exact⟨⟨n0,h0⟩,n1,h1⟩
theorem Ei (h:cu≠cv)(x:aG):(tw cu cv x).count cu=x.count false/\(tw cu cv x).count cv=x.count true:=by
 induction x with
 |nil=>exact⟨rfl,rfl⟩
 |cons b x ih =>
  have e:tw cu cv (b::x)=(if b then[cv]else[cu])++tw cu cv x:=cF _ _ b x;rw[e,List.count_append,List.count_append,ih.1,ih.2];have h':¬ cv=cu:=fun q=>h q.symm;cases b <;> simp[List.count_cons,h,h'] <;> lia
noncomputable abbrev uj (p:Int × Int):D:=.tuple [.int p.1, .int p.2]
theorem Ly (h1:evT S ρ a=some false)(h2:evT S ρ b=some false):evT S ρ (.o .Or (.c a (.c b .n)))=some false:=bi h1 (bi h2 rfl)
theorem mJ (ms:aG):eT 8 (.list (ms.map PyData.bool))=true:=List.all_eq_true.mpr fun x hx=>by obtain⟨p,_,rfl⟩:=gO hx;rfl
end
end Internal
section
set_option linter.unusedSimpArgs false
namespace Internal
variable {S:cL}{k cu cv:Nat}
theorem u6 {ps:List aH}(h:ev S ρ e=some (.list (ps.map an)))(hn:ps.length<=1000)(hp:∀p∈ps,p.length<=1000/\∀c∈p,c<55296):ev S ρ (.m .join (.l (.str "")) (.c e .n))=some (an ps.flatten):=by
 refine bi rfl (bi (ad h aj) ?_);have e3:ps.map an=(ps.map tx).map PyData.str:=by rw[fv];rfl
 rw[e3];show(match kx ((ps.map tx).map PyData.str)with
  |some ts=>if JoinOk "" ts&&sok (.str (Txt.join "" ts))then some (PyData.str (Txt.join "" ts))else none
  |none=>none)=_
 rw[lX];have hj:Txt.join "" (ps.map tx)=tx ps.flatten:=Str.of_list (by
  rw[pJ,fv,List.toList_toArray]
  congr 1
  exact(List.map_congr_left fun x _=>by simp).trans (List.map_id ps))
 show(if(JoinOk "" (ps.map tx)&&sok (.str (Txt.join "" (ps.map tx))))=true then some (PyData.str (Txt.join "" (ps.map tx)))else none)=_;rw[hj,if_pos];rw[g9];refine⟨?_,kU ?_ fun c hc=>?_⟩
 .unfold JoinOk;rw[PySem.StrLaws.joinFits (B:=1000)]
  .rfl
  .intro y hy;obtain⟨p,hp',rfl⟩:=gO hy;have:=(hp p hp').1
   simpa [Str.length]using this
  .have:(("" : Str).length)=0:=rfl;rw[this,dq];have:=wE 1000 hn;exact rJ ‹_› rfl
 .have:∀(ps:List aH),(∀p∈ps,p.length<=1000)->ps.flatten.length<=ps.length*1000:=by
   intro ps
   induction ps with
   |nil=>intro _;exact nv _
   |cons p ps ih =>
    intro h;have h1:=h p dX;have h2:=ih fun q m=>h q (dP _ m);rw[List.flatten_cons,lla,nR];lia
  have h1:=this ps fun p m=>(hp p m).1;have:=wE 1000 hn
  lia
 .obtain⟨p,h1,h2⟩:=List.mem_flatten.mp hc;exact(hp p h1).2 c h2
theorem GF (x:aG):(x.map fun s=>tw cu cv [s]).flatten=tw cu cv x:=by
 induction x with
 |nil=>rfl
 |cons s x ih =>
  rw[fU,List.flatten_cons,ih];exact(GE x s).symm
theorem o6:∀ms:aG,((ms.map PyData.bool).countP fun y=>PyData.eqv y (.bool true))=ms.countP (· == true)
 |[]=>rfl
 |m::ms=>by rw[fU,List.countP_cons,List.countP_cons,o6 ms];cases m <;> rfl
theorem Aw (ms:aG):ki .count (.list (ms.map PyData.bool)) [.bool true]=some (aa (ms.countP (· == true))):=by show(if eT 8 (.bool true)&&eT 8 (.list (ms.map PyData.bool))then some (PyData.int (((ms.map PyData.bool).countP fun y=>PyData.eqv y (.bool true):Nat):Int))else none)=_;rw[mJ,o6];rfl
theorem yK (E:List aG):eT 8 (cK cu cv E)=true:=List.all_eq_true.mpr fun x hx=>by obtain⟨p,_,rfl⟩:=gO hx;rfl
theorem wL (h:cu≠cv)(t:aG):∀E:List aG,((E.map fun t=>an (tw cu cv t)).any fun y=>PyData.eqv y (an (tw cu cv t)))=decide (t∈E)
 |[]=>rfl
 |a::E=>by
  rw[fU,List.any_cons,wL h t E,HJ,Eh h,Bool.eq_iff_iff,Bool.or_eq_true,beq_iff_eq,kh,kh,List.mem_cons];constructor
  .rintro (rfl|q)
   .exact .inl rfl
   .exact .inr q
  .rintro (rfl|q)
   .exact .inl rfl
   .exact .inr q
theorem zR (h:cu≠cv)(t:aG)(E:List aG):cY .NotIn (an (tw cu cv t)) (cK cu cv E)=some (.bool (!decide (t∈E))):=by show(if eT 8 (an (tw cu cv t))&&eT 8 (cK cu cv E)then some (PyData.bool (!((E.map fun t=>an (tw cu cv t)).any fun y=>PyData.eqv y (an (tw cu cv t)))))else none)=_;rw[yK,wL h];rfl
end Internal
end
namespace Internal
section
variable {S:cL}
def NT (ρ:aB):Prop:=(ρ.all fun p=>a8 p.2)=true
theorem NT.cons (h:a8 d=true)(t:NT ρ):NT ((n,d)::ρ):=kY ⟨h,t⟩
theorem NT.inv (h:NT (p::ρ)):a8 p.2=true/\NT ρ:=bH h
theorem NT.set:∀{ρ:aB}{n:Nat}{d:D},NT ρ->a8 d=true->NT (ρ.set n d)
 |[],_,_,_,k=>NT.cons k rfl
 |(m,e)::r,n,d,h,k=>by
  show NT (if m=n then _ else _);by_cases c:m=n
  .rw[if_pos c];exact NT.cons k h.inv.2
  .rw[if_neg c];exact NT.cons h.inv.1 (NT.set h.inv.2 k)
theorem ku:∀{l:List α},(∀a∈l,a8 (g a)=true)->bf (l.map g)=true
 |[],_=>rfl
 |a::l,h=>kY ⟨h a (.head _),ku fun b m=>h b (.tail _ m)⟩
theorem Dg (h:bf l=true):l.all a8=true:=by
 induction l with
 |nil=>rfl
 |cons a l ih =>
  obtain⟨h1,h2⟩:=bH (show(a8 a&&bf l)=true from h);exact kY ⟨h1,ih h2⟩
theorem wA (f:α->β)(g:α->γ):∀l:List α,(l.map f).zip (l.map g)=l.map fun a=>(f a,g a)
 |[]=>rfl
 |a::l=>by rw[fU,fU,List.zip_cons_cons,wA f g l];rfl
theorem we {l:List α}(nt:NT ρ)(h1:ev S ρ e1=some (.list (l.map f)))(h2:ev S ρ e2=some (.list (l.map g)))(n1:bf (l.map f)=true)(n2:bf (l.map g)=true) :
  dZ S ρ (.zip (.c e1 (.c e2 .n)))=some (l.map fun a=>.tuple [f a,g a]):=by
 refine bi (ad h1 (ad h2 aj)) (bi (x:=l.map fun a=>.tuple [f a,g a]) ?_ (if_pos (show(ρ.all fun p=>a8 p.2)=true from nt)));show(if(l.map f++l.map g).all a8 then some (((l.map f).zip (l.map g)).map fun p=>PyData.tuple [p.1,p.2])else none)=_;rw[if_pos (by rw[List.all_append,Dg n1,Dg n2];rfl),wA,fv];rfl
theorem jZ:∀{l:List α},(∀a∈l,f (i a)=some (out a))->eQ f (l.map i)=some (l.flatMap out)
 |[],_=>rfl
 |a::l,h=>by exact bi (h a (.head _)) (bi (jZ fun b m=>h b (.tail _ m)) rfl)
theorem HQ {l:List α}{i:α->D}{q:α->Bool}{l2:α->List β}{i2:α->β->D}{p:α->β->Bool}{g:α->β->D}(hs:dZ S ρ src=some (l.map i))
  (h:∀a∈l,∃ρ',bE (ρ.del (tg++(tg2++[]))) tg (i a)=some ρ'/\jn S ρ' .And ifs=some (q a)/\(q a=true->dZ S ρ' src2=some ((l2 a).map (i2 a))/\∀b∈l2 a,∃ρ'',bE ρ' tg2 (i2 a b)=some ρ''/\jn S ρ'' .And ifs2=some (p a b)/\(p a b=true->ev S ρ'' elt=some (g a b))))
  (hl:(l.flatMap fun a=>if q a then((l2 a).filter (p a)).map (g a)else[]).length<=16777216) (hz:(!eG src || bf (l.flatMap fun a=>if q a then((l2 a).filter (p a)).map (g a)else[]))=true:=by rfl) :
  ev S ρ (.p elt (.c tg src ifs (.c tg2 src2 ifs2 .n)))=some (.list (l.flatMap fun a=>if q a then((l2 a).filter (p a)).map (g a)else[])):=by
 refine bi (x:=l.flatMap fun a=>if q a then((l2 a).filter (p a)).map (g a)else[]) (bi hs (jZ fun a m=>?_)) (if_pos (show(decide (_<=16777216)&&(!eG src || bf _))=true from kY ⟨eD hl,hz⟩));obtain⟨ρ',h1,h2,h3⟩:=h a m;refine bi h1 (bi h2 ?_);cases hq:q a with
 |false=>rfl
 |true =>
  obtain⟨h4,h5⟩:=h3 hq;refine bi h4 (j1 fun b mb=>?_);obtain⟨ρ'',k1,k2,k3⟩:=h5 b mb;refine bi k1 (bi k2 ?_);cases hp:p a b with
  |false=>rfl
  |true =>
   show(ev S ρ'' elt).map (fun d=>[d])=_;rw[k3 hp];rfl
theorem tc {src src2:Bl}{l:List α}{i:α->D}{l2:α->List β}{i2:α->β->D}{g:α->β->D}(hs:dZ S ρ src=some (l.map i))
  (h:∀a∈l,∃ρ',bE (ρ.del (tg++(tg2++[]))) tg (i a)=some ρ'/\dZ S ρ' src2=some ((l2 a).map (i2 a))/\∀b∈l2 a,∃ρ'',bE ρ' tg2 (i2 a b)=some ρ''/\ev S ρ'' elt=some (g a b))
  (hl:(l.flatMap fun a=>(l2 a).map (g a)).length<=16777216) (hz:eG src=false:=by rfl):ev S ρ (.p elt (.c tg src .n (.c tg2 src2 .n .n)))=some (.list (l.flatMap fun a=>(l2 a).map (g a))):=by
 have e:(l.flatMap fun a=>if true=true then((l2 a).filter fun _=>true).map (g a)else[])=l.flatMap fun a=>(l2 a).map (g a):=by refine congrArg (fun f=>l.flatMap f) (funext fun a=>?_);rw[if_pos rfl,List.filter_eq_self.mpr fun _ _=>rfl]
 have:=HQ (S:=S) (ρ:=ρ) (elt:=elt) (tg:=tg) (tg2:=tg2) (src:=src) (src2:=src2) (ifs:=.n) (ifs2:=.n) (q:=fun _=>true) (p:=fun _ _=>true) (l2:=l2) (i2:=i2) (g:=g) hs (fun a m=>by obtain⟨ρ',h1,h2,h3⟩:=h a m;exact⟨ρ',h1,rfl,fun _=>⟨h2,fun b mb=>let⟨ρ'',k1,k2⟩:=h3 b mb;⟨ρ'',k1,rfl,fun _=>k2⟩⟩⟩) (by rw[e];exact hl) (by rw[hz];rfl);rw[e]at this;exact this
end
section
noncomputable def sE (d n:Nat):aG:=(List.range (d-1)).map fun k=>n / 2^k % 2==1
noncomputable def cR (c:List aG)(w:aG):List aG:=(c.filter fun x=>w.isSuffixOf x).map fun x=>x.take (x.length-w.length)
noncomputable def bN (c:List aG)(w:aG):List aG:=(c.filter fun x=>w.isPrefixOf x).map fun x=>x.drop w.length
def cJ (c:List aG)(w:aG):List aG:=((cR c w).map fun x=>x++w)++(bN c w).map fun x=>w++x
def ez (c:List aG)(w:aG):List aG:=[w]++(cR c w).flatMap fun a=>(bN c w).map fun b=>a++w++b
noncomputable def fb:List aG->Bool
 |[]=>true
 |x::r=>!r.contains x&&fb r
def qH (c:List aG)(w:aG):List aG:=
 if fb (cJ c w)&&decide (c.length+(ez c w).length<=20+(cJ c w).length)then(c.filter fun x=>!(cJ c w).contains x)++ez c w else c
def sy (d:Nat)(c:List aG)(n:Nat):List aG:=qH c (sE d n)
noncomputable def fL (c:List aG):List aG:=c.flatMap fun x=>[false,true].map fun s=>x++[s]
noncomputable def dI:Nat->List aG
 |0=>[[]]
 |d+1=>fL (dI d)
def lh (d:Nat)(ns:aH):List aG:=ns.foldl (sy d) (dI d)
noncomputable def addC {α:Type}[BEq α](l:List α)(c:α):List α:=if l.contains c then l else l++[c]
theorem CX [BEq α][LawfulBEq α]{l:List α}{c x:α}:x∈addC l c↔x∈l\/x=c:=by
 unfold addC;by_cases h:l.contains c=true
 .rw[if_pos h];exact⟨.inl,fun q=>q.elim id fun e=>e▸List.contains_iff_mem.mp h⟩
 .rw[if_neg h,List.mem_append,List.mem_singleton]
theorem mem_fold {α:Type}[BEq α][LawfulBEq α]:∀{cs l:List α}{x:α},x∈cs.foldl addC l↔x∈l\/x∈cs
 |[],l,x=>⟨.inl,fun q=>q.elim id fun m=>nomatch m⟩
 |c::cs,l,x=>by rw[List.foldl_cons,mem_fold,CX,List.mem_cons,or_assoc]
noncomputable def xw (d:Nat):Nat->List (List aG)
 |0=>[dI d]
 |i+1=>((xw d i).flatMap fun c=>(List.range 8).map (sy d c)).foldl addC []
theorem D5 (h:c∈xw d i)(hn:n<8):sy d c n∈xw d (i+1):=
 mem_fold.mpr (.inr (List.mem_flatMap.mpr ⟨c,h,List.mem_map.mpr ⟨n,List.mem_range.mpr hn,rfl⟩⟩))
theorem vg:∀{ns:aH}{i:Nat}{c:List aG},c∈xw d i->(∀n∈ns,n<8)->ns.foldl (sy d) c∈xw d (i+ns.length)
 |[],_,_,h,_=>h
 |n::ns,i,c,h,k=>by have:=vg (ns:=ns) (D5 h (k n (.head _))) fun m q=>k m (.tail _ q);rw[List.foldl_cons,nR,Nat.add_comm ns.length 1,<- Nat.add_assoc];exact this
noncomputable def i9 (g w:aG)(s e:Nat):Option Nat:=(List.range' s (e+1-s)).find? fun k=>decide (k+w.length<=e)&&((g.drop k).take w.length==w)
noncomputable def nL (g:aG)(e:Nat):Nat->List aG->Bool
 |_,[]=>true
 |s,w::ws=>match i9 g w s e with
  |some k=>nL g e (k+w.length) ws
  |none=>false
def mQ (p:aG)(ms:List aG)(q g:aG):Bool:=p.isPrefixOf g&&q.isSuffixOf g&&decide (p.length+q.length<=g.length)&&nL g (g.length-q.length) p.length ms
structure ji (u v:aH):Prop extends Code u v where
 hd:∀c∈u.tail++v.tail,u.head?≠some c/\v.head?≠some c
section
variable {u v:aH}
abbrev jl (u v:aH)(g:aG)(j:Nat):Nat:=(wd u v (g.take j)).length
theorem vq (h:a≠[]):(a++b).head?=a.head?:=by
 cases a with
 |nil=>exact absurd rfl h
 |cons x r=>rfl
theorem ji.occ (y:ji u v)(hw:w≠[]):∀{g:aG}{i:Nat},wd u v w <+: (wd u v g).drop i->∃j,j<=g.length/\i=jl u v g j/\w <+: g.drop j
 |g,0,h=>⟨0,nv _,rfl,ue ⟨y.u0,y.v0⟩ ⟨y.p1,y.p2⟩ h⟩
 |[],i+1,h=>absurd (List.prefix_nil.mp h) (zF y.toCode hw)
 |b::g,i+1,h=>by
  have hb:(if b then v else u)≠[]:=by cases b <;> first|exact y.u0|exact y.v0
  rw[cF]at h;by_cases c:i+1<(if b then v else u).length
  .exfalso
   rw[List.drop_append_of_le_length (gp c)]at h;obtain⟨x,hx⟩:∃x,(if b then v else u).drop (i+1)=x::(if b then v else u).drop (i+2):=⟨_,List.drop_eq_getElem_cons c⟩;obtain⟨r,hr⟩:=h;have e1:(wd u v w).head?=some x:=by
    have:=congrArg List.head? hr
    rwa [vq (zF y.toCode hw),hx]at this
   have hm:x∈u.tail++v.tail:=by
    have m:x∈(if b then v else u).tail:=by
     rw[<- List.drop_one];have:x∈(if b then v else u).drop (i+1):=by rw[hx];exact .head _
     rw[Nat.add_comm,<- List.drop_drop]at this;exact List.mem_of_mem_drop this
    cases b
    .exact mv _ m
    .exact kK _ m
   cases w with
   |nil=>exact hw rfl
   |cons s w =>
    have hs:(if s then v else u)≠[]:=by cases s <;> first|exact y.u0|exact y.v0
    rw[cF,vq hs]at e1;cases s
    .exact(y.hd x hm).1 e1
    .exact(y.hd x hm).2 e1
  .obtain⟨j,h1,h2,h3⟩:=y.occ hw (g:=g) (i:=i+1-(if b then v else u).length) (by rw[List.drop_append,List.drop_eq_nil_of_le (Nat.le_of_not_lt c),List.nil_append]at h;exact h);refine⟨j+1,Nat.succ_le_succ h1, ?_,h3⟩;show _=(wd u v (b::g.take j)).length;rw[cF,lla];exact((Nat.add_sub_cancel' (Nat.le_of_not_lt c)).symm).trans (congrArg (fun n=>(if b then v else u).length+n) h2)
theorem Fg (i:Nat)(l:List α):(l.drop i).length<=l.length:=az (Nat.le_of_eq List.length_drop) (Nat.sub_le _ _)
theorem rt {l:List α}(h:i<=j):l.take j=l.take i++(l.take j).drop i:=by
 have:=(List.take_append_drop i (l.take j)).symm
 rwa [List.take_take,Nat.min_eq_left h]at this
theorem Code.at_le (c:Code u v){g:aG}(hi:i<=g.length)(hj:j<=g.length):jl u v g i<=jl u v g j↔i<=j:=by
 have key:∀{i j:Nat},i<=j->jl u v g i<=jl u v g j:=fun{i j} h=>by unfold jl;rw[rt h,cB,lla];exact je _ _
 refine⟨fun h=>?_,key⟩;rcases Nat.lt_or_ge j i with q|q
 .exfalso
  have e:=rt (l:=g) (gp q);have hn:(g.take i).drop j≠[]:=fun q'=>by have:=congrArg List.length q';rw[List.length_drop,List.length_take,List.length_nil]at this;exact Nat.sub_ne_zero_of_lt (by rw[Nat.min_eq_left hi];exact q) this
  have:=List.length_pos_iff.mpr (zF c hn);unfold jl at h;rw[e,cB,lla]at h
  lia
 .exact q
theorem wR (h:w <+: g.drop j):jl u v g (j+w.length)=jl u v g j+(wd u v w).length:=by unfold jl;rw[List.take_add,cB,lla,<- List.prefix_iff_eq_take.mp h]
theorem GI (g:aG)(j:Nat):(wd u v g).drop (jl u v g j)=wd u v (g.drop j):=by
 have:wd u v g=wd u v (g.take j)++wd u v (g.drop j):=by rw[<- cB,List.take_append_drop]
 rw[this,List.drop_left]
theorem take_pre [BEq α][LawfulBEq α]{a b:List α}:(a.take b.length==b)=true↔b <+: a:=by rw[beq_iff_eq];exact⟨fun h=>h▸List.take_prefix _ _,fun h=>(List.prefix_iff_eq_take.mp h).symm⟩
theorem xi (h1:s<=j)(h2:j<=e)(hp:p j=true)(hn:∀i,s<=i->i<j->p i=false):(List.range' s (e+1-s)).find? p=some j:=
 List.find?_range'_eq_some.mpr ⟨hp,List.mem_range'_1.mpr ⟨h1,by lia⟩,fun i a b=>by rw[hn i a b];rfl⟩
theorem HU (hn:∀i,s<=i->p i=false):(List.range' s (e+1-s)).find? p=none:=
 List.find?_range'_eq_none.mpr fun i a _=>by rw[hn i a];rfl
theorem yW (h:(List.range' s (e+1-s)).find? p=some j):s<=j/\p j=true/\∀i,s<=i->i<j->p i=false:=by obtain⟨p1,p2,p3⟩:=List.find?_range'_eq_some.mp h;exact⟨(List.mem_range'_1.mp p2).1,p1,fun i a b=>iw (p3 i a b)⟩
theorem Cm (h:(List.range' s (e+1-s)).find? p=none)(h1:s<=i)(h2:i<=e):p i=false:=
 iw (List.find?_range'_eq_none.mp h i h1 (by lia))
theorem iM {k n e:Nat}{b:Bool}(h:(decide (k+n<=e)&&b)=true):k+n<=e:=bX (bH h).1
theorem ji.find (y:ji u v){g w:aG}{s e:Nat}(hs:s<=e)(he:e<=g.length):eO (wd u v g) (wd u v w) (jl u v g s) (jl u v g e)=(i9 g w s e).map (jl u v g):=by
 have hsg:=az hs he;by_cases hw:w=[]
 .subst hw;have h1:i9 g [] s e=some s:=xi (gC _) hs (kY ⟨eD hs,beq_self_eq_true []⟩) fun i a b=>absurd a (Nat.not_le.mpr b);rw[h1];exact xi (gC _) ((y.at_le hsg he).mpr hs) (kY ⟨eD ((y.at_le hsg he).mpr hs),beq_self_eq_true []⟩) fun i a b=>absurd a (Nat.not_le.mpr b)
 .have up:∀{j:Nat},(decide (j+w.length<=e)&&((g.drop j).take w.length==w))=true ->
    (decide (jl u v g j+(wd u v w).length<=jl u v g e)&&(((wd u v g).drop (jl u v g j)).take (wd u v w).length==wd u v w))=true:=fun{j} h=>by
   have h2:=take_pre.mp (bH h).2;refine kY ⟨eD ?_,take_pre.mpr ?_⟩
   .rw[<- wR h2];exact(y.at_le (az (iM h) he) he).mpr (iM h)
   .rw[GI];exact ud h2
  have dn:∀{i:Nat},jl u v g s<=i->(decide (i+(wd u v w).length<=jl u v g e)&&(((wd u v g).drop i).take (wd u v w).length==wd u v w))=true ->
    ∃j,s<=j/\i=jl u v g j/\(decide (j+w.length<=e)&&((g.drop j).take w.length==w))=true:=fun{i} hi h=>by
   have h1:=iM h;obtain⟨j,a1,rfl,a3⟩:=y.occ hw (take_pre.mp (bH h).2);refine⟨j,(y.at_le hsg a1).mp hi,rfl,kY ⟨eD ?_,take_pre.mpr a3⟩⟩;have hl:=a3.length_le;rw[List.length_drop]at hl;rw[<- wR a3]at h1;exact(y.at_le (Nat.add_comm j _▸Nat.add_le_of_le_sub a1 hl) he).mp h1
  cases hr:i9 g w s e with
  |some j =>
   obtain⟨p1,p2,p3⟩:=yW hr;have hje:=az (je j _) (iM p2);have q1:=up p2;refine xi ((y.at_le hsg (az hje he)).mpr p1) (az (je _ _) (iM q1)) q1 fun i a b=>?_;cases q:(decide (i+(wd u v w).length<=jl u v g e)&&(((wd u v g).drop i).take (wd u v w).length==wd u v w))with
   |false=>rfl
   |true =>
    obtain⟨j',a1,rfl,a3⟩:=dn a q;have hle:=az (je j' _) (iM a3);rcases Nat.lt_or_ge j' j with z|z
    .exact absurd (a3.symm.trans (p3 j' a1 z)) (fun e=>Bool.noConfusion e)
    .exact absurd ((y.at_le (az hje he) (az hle he)).mpr z) (Nat.not_le.mpr b)
  |none =>
   refine HU fun i a=>?_;cases q:(decide (i+(wd u v w).length<=jl u v g e)&&(((wd u v g).drop i).take (wd u v w).length==wd u v w))with
   |false=>rfl
   |true =>
    obtain⟨j',a1,rfl,a3⟩:=dn a q;exact absurd (a3.symm.trans (Cm hr a1 (az (je j' _) (iM a3)))) (fun e=>Bool.noConfusion e)
theorem ji.walk (y:ji u v){g:aG}(he:e<=g.length):∀{ms:List aG}{s:Nat},s<=e->de (wd u v g) (jl u v g e) (jl u v g s) (ms.map (wd u v))=nL g e s ms
 |[],_,_=>rfl
 |w::ms,s,hs=>by
  show(match eO (wd u v g) (wd u v w) (jl u v g s) (jl u v g e)with|some k=>de (wd u v g) (jl u v g e) (k+(wd u v w).length) (ms.map (wd u v))|none=>false)=(match i9 g w s e with|some k=>nL g e (k+w.length) ms|none=>false);rw[y.find hs he];cases hr:i9 g w s e with
  |none=>rfl
  |some j =>
   obtain⟨_,p1,_⟩:=yW hr;obtain⟨h1,h2⟩:=bH p1;show de _ _ (jl u v g j+(wd u v w).length) _=nL g e (j+w.length) ms;rw[<- wR (take_pre.mp h2)];exact y.walk he (bX h1)
theorem ji.ell (y:ji u v)(p:aG)(ms:List aG)(q g:aG):B1 (wd u v p::(ms.map (wd u v)++[wd u v q])) (wd u v g)=mQ p ms q g:=by
 rw[xe,y.pre,y.suf];unfold mQ;by_cases h1:p.isPrefixOf g=true
 .by_cases h2:q.isSuffixOf g=true
  .have e1:p=g.take p.length:=List.prefix_iff_eq_take.mp (List.isPrefixOf_iff_prefix.mp h1);have hp:=(List.isPrefixOf_iff_prefix.mp h1).length_le;have hs:=List.isSuffixOf_iff_suffix.mp h2;have hq:=hs.length_le;have c1:(wd u v p).length=jl u v g p.length:=by unfold jl;rw[<- e1]
   have c2:(wd u v g).length-(wd u v q).length=jl u v g (g.length-q.length):=by
    have:wd u v g=wd u v (g.take (g.length-q.length))++wd u v q:=by
     obtain⟨r,hr⟩:=hs;have e:g.take (g.length-q.length)=r:=by rw[<- hr,lla,Nat.add_sub_cancel,List.take_left]
     rw[e,<- cB,hr]
    rw[this,lla,Nat.add_sub_cancel]
   have c3:(wd u v q).length<=(wd u v g).length:=by obtain⟨r,rfl⟩:=hs;rw[cB,lla];exact Nat.le_add_left _ _
   rw[h1,h2,c2];by_cases h3:p.length+q.length<=g.length
   .rw[eD h3,eD (by have:=(y.at_le (g:=g) (i:=p.length) (j:=g.length-q.length) hp (Nat.sub_le _ _)).mpr (Nat.le_sub_of_add_le h3);rw[<- c1,<- c2]at this;exact Nat.add_le_of_le_sub c3 this),c1,y.walk (Nat.sub_le _ _) (Nat.le_sub_of_add_le h3)]
   .rw[fH h3,fH fun h=>h3 ?_]
    .rfl
    .have:(wd u v p).length<=(wd u v g).length-(wd u v q).length:=Nat.le_sub_of_add_le h;rw[c1,c2]at this;have:=(y.at_le (g:=g) hp (Nat.sub_le _ _)).mp this
     lia
  .rw[Bool.not_eq_true]at h2;rw[h2];simp
 .rw[Bool.not_eq_true]at h1;rw[h1];simp
end
end
section
noncomputable def sO (l m:aH):aH:=List.zipWith (fun a b=>a+b) l m
def Az (l:aH):aH:=sO (l++[0]) (0::l)
noncomputable def Jq:Nat->aH->aH
 |0,l=>l
 |m+1,l=>Az (Jq m l)
noncomputable def xL (a b:Nat):aH:=List.replicate b 0++1::List.replicate a 0
def Be (R:Nat)(f:aG):aH:=Jq (R-f.length) (xL (f.count false) (f.count true))
noncomputable def t9 (n:aG->Nat)(R:Nat):List aG->aH
 |[]=>List.replicate (R+1) 0
 |f::r=>sO ((Be R f).map fun k=>n f*k) (t9 n R r)
noncomputable def lq (p q:Int):aH->Int
 |[]=>0
 |c::l=>c*p^l.length+q*lq p q l
section
variable {p q:Int}
theorem oP (h:l.length=m.length):(sO l m).length=m.length:=by unfold sO;rw[List.length_zipWith,h,Nat.min_self]
theorem C1 (l:aH):(Az l).length=l.length+1:=oP (by rw[lla];rfl)
theorem Lx (a b c d:Int):a+b+(c+d)=a+c+(b+d):=by rw[Int.add_assoc,Int.add_left_comm b,<- Int.add_assoc]
theorem sW:∀{l m:aH},l.length=m.length->lq p q (sO l m)=lq p q l+lq p q m
 |[],[],_=>rfl
 |[],_::_,h=>by cases h
 |_::_,[],h=>by cases h
 |a::l,b::m,h=>by have h:l.length=m.length:=Nat.succ.inj h;show((a+b:Nat):Int)*p^(sO l m).length+q*lq p q (sO l m)=(a*p^l.length+q*lq p q l)+(b*p^m.length+q*lq p q m);rw[oP h,sW h,h,Int.natCast_add,Int.add_mul,Int.mul_add,Lx]
theorem pq (l:aH):lq p q (0::l)=q*lq p q l:=by show((0:Nat):Int)*p^l.length+_=_;rw[Int.natCast_zero,Int.zero_mul,Int.zero_add]
theorem u5:∀l:aH,lq p q (l++[0])=p*lq p q l
 |[]=>by show((0:Nat):Int)*p^0+q*0=p*0;rw[Int.natCast_zero,Int.zero_mul,Int.mul_zero,Int.mul_zero];rfl
 |c::l=>by show(c:Int)*p^(l++[0]).length+q*lq p q (l++[0])=p*(c*p^l.length+q*lq p q l);rw[u5 l,lla,List.length_singleton,Int.pow_succ,Int.mul_add,Int.mul_comm (p^l.length) p,Int.mul_left_comm (c:Int) p,Int.mul_left_comm q p]
theorem Fo (l:aH):lq p q (Az l)=(p+q)*lq p q l:=by unfold Az;rw[sW (by rw[lla];rfl),u5,pq,Int.add_mul]
theorem Ca:∀(m:Nat) (l:aH),lq p q (Jq m l)=(p+q)^m*lq p q l/\(Jq m l).length=l.length+m
 |0,l=>⟨by rw[Int.pow_zero,Int.one_mul];rfl,rfl⟩
 |m+1,l=>by
  obtain⟨h1,h2⟩:=Ca m l;refine⟨?_, ?_⟩
  .show lq p q (Az (Jq m l))=_;rw[Fo,h1,Int.pow_succ,Int.mul_comm ((p+q)^m) (p+q),Int.mul_assoc]
  .show(Az (Jq m l)).length=_;rw[C1,h2];rfl
theorem po:∀a:Nat,lq p q (List.replicate a 0)=0
 |0=>rfl
 |a+1=>by rw[List.replicate_succ,pq,po a,Int.mul_zero]
theorem yM (a:Nat):∀b:Nat,lq p q (xL a b)=p^a*q^b/\(xL a b).length=a+b+1
 |0=>by
  refine⟨?_, ?_⟩
  .show((1:Nat):Int)*p^(List.replicate a 0).length+q*lq p q (List.replicate a 0)=_;rw[po,List.length_replicate,Int.mul_zero,Int.add_zero,Int.pow_zero,Int.mul_one,Int.natCast_one,Int.one_mul]
  .show(List.replicate a 0).length+1=_;rw[List.length_replicate]
 |b+1=>by
  obtain⟨h1,h2⟩:=yM a b;have e:xL a (b+1)=0::xL a b:=by unfold xL;rw[List.replicate_succ];rfl
  rw[e];refine⟨?_, ?_⟩
  .rw[pq,h1,Int.pow_succ,Int.mul_left_comm,Int.mul_comm q]
  .rw[nR,h2];rfl
theorem mH:∀f:aG,f.count false+f.count true=f.length
 |[]=>rfl
 |true::f=>by rw[List.count_cons,List.count_cons,nR,<- mH f];rfl
 |false::f=>by rw[List.count_cons,List.count_cons,nR,<- mH f];exact Nat.add_right_comm _ _ _
theorem Cb (h:f.length<=R):lq p q (Be R f)=p^f.count false*q^f.count true*(p+q)^(R-f.length)/\(Be R f).length=R+1:=by
 obtain⟨h1,h2⟩:=yM (p:=p) (q:=q) (f.count false) (f.count true);obtain⟨h3,h4⟩:=Ca (p:=p) (q:=q) (R-f.length) (xL (f.count false) (f.count true));refine⟨?_, ?_⟩
 .unfold Be;rw[h3,h1,Int.mul_comm]
 .unfold Be;rw[h4,h2,mH];omega
theorem mU (n:Nat):∀l:aH,lq p q (l.map fun k=>n*k)=n*lq p q l
 |[]=>by rw[show lq p q []=0 from rfl,Int.mul_zero];rfl
 |c::l=>by show((n*c:Nat):Int)*p^(l.map fun k=>n*k).length+q*lq p q (l.map fun k=>n*k)=n*(c*p^l.length+q*lq p q l);rw[mU n l,dq,Int.natCast_mul,Int.mul_add,Int.mul_assoc,Int.mul_left_comm q]
theorem yN:∀{l:List aG},(∀f∈l,f.length<=R) ->
  lq p q (t9 n R l)=(l.map fun f=>n f*(p^f.count false*q^f.count true*(p+q)^(R-f.length))).sum/\(t9 n R l).length=R+1
 |[],_=>⟨po _,List.length_replicate⟩
 |f::l,h=>by
  obtain⟨h1,h2⟩:=Cb (p:=p) (q:=q) (h f (.head _));obtain⟨h3,h4⟩:=yN (n:=n) (l:=l) fun x m=>h x (.tail _ m);have hl:((Be R f).map fun k=>n f*k).length=(t9 n R l).length:=by rw[dq,h2,h4]
  refine⟨?_, ?_⟩
  .show lq p q (sO _ _)=_;rw[sW hl,mU,h1,h3,fU,List.sum_cons]
  .show(sO _ _).length=_;rw[oP hl,h4]
theorem zn {R m:Nat}{l:List aG}(h:∀f∈l,f.length<=R)(e:t9 n R l=(Be R []).map fun k=>m*k):(l.map fun f=>n f*(p^f.count false*q^f.count true*(p+q)^(R-f.length))).sum=m*(p+q)^R:=by rw[<- (yN (p:=p) (q:=q) (n:=n) h).1,e,mU,(Cb (p:=p) (q:=q) (nv _)).1];show(m:Int)*(p^0*q^0*(p+q)^(R-0))=_;rw[Int.pow_zero,Int.pow_zero,Int.one_mul,Int.one_mul,Nat.sub_zero]
end
end
section
noncomputable def ak (c:List aG):Nat:=(c.map List.length).foldl max 0
noncomputable def ID (c:List aG):Bool:=!c.isEmpty&&decide (c.length<=20)&&c.all fun x=>!x.isEmpty&&decide (x.length<=7)
noncomputable def JE:Nat->Nat->aG->aG
 |0,_,a=>a
 |f+1,n,a=>if n<=1 then a else JE f (n / 2) ((n % 2==1)::a)
def Mw (n:Nat):aG:=JE 8 n []
noncomputable def HD:Nat->List aH
 |1=>[[2,3]]
 |2=>[[4,5,6,7]]
 |3=>[[8,9,10,11,12,13,14,15],[8,9,11,15,6,20,21,28,29],[8,12,14,15,5,18,19,26,27]]
 |4=>[[16,17,18,19,20,21,22,23,24,25,26,27,28,29,30,31],[16,17,18,19,21,22,23,26,27,29,30,31,12,40,41,56,57],[16,17,19,22,23,24,25,27,28,29,30,31,10,36,37,52,53],[16,17,18,19,20,21,23,24,25,26,27,31,14,44,45,60,61],[16,20,21,22,23,24,26,27,28,29,30,31,9,34,35,50,51],[16,17,18,19,20,22,23,24,25,28,30,31,13,42,43,58,59],[16,17,18,20,21,24,25,26,28,29,30,31,11,38,39,54,55],[16,17,19,22,23,27,29,30,31,12,56,57,10,37,72,73,53,104,105],[16,17,18,19,21,23,26,27,31,12,40,41,14,45,88,89,61,120,121],[16,21,22,23,26,27,29,30,31,12,40,56,9,34,35,82,83,114,115],[16,17,18,19,22,23,30,31,12,40,41,56,57,13,42,43,58,59],[16,17,18,21,26,29,30,31,12,40,41,56,57,11,38,39,54,55],[16,17,19,22,23,27,29,30,31,10,37,53,12,56,57,72,73,104,105],[16,17,19,23,24,25,27,31,10,36,37,52,53,14,44,45,60,61],[16,22,23,24,27,28,29,30,31,10,52,53,9,35,68,69,51,100,101],[16,17,24,25,28,29,30,31,10,36,37,52,53,11,38,39,54,55],[16,17,18,19,21,23,26,27,31,14,45,61,12,40,41,88,89,120,121],[16,17,19,23,24,25,27,31,14,44,45,60,61,10,36,37,52,53],[16,20,21,23,24,26,27,31,14,44,45,60,61,9,34,35,50,51],[16,17,18,19,20,23,24,25,31,14,44,60,13,42,43,90,91,122,123],[16,17,18,20,21,24,25,26,31,14,60,61,11,39,76,77,55,108,109],[16,21,22,23,26,27,29,30,31,9,34,35,12,40,82,83,56,114,115],[16,22,23,24,27,28,29,30,31,9,35,51,10,52,53,68,69,100,101],[16,20,21,23,24,26,27,31,9,34,35,50,51,14,44,45,60,61],[16,20,22,23,24,28,30,31,9,34,35,50,51,13,42,43,58,59],[16,20,21,24,26,28,29,30,31,9,34,50,11,54,55,70,71,102,103],[16,17,18,19,22,23,30,31,13,42,43,58,59,12,40,41,56,57],[16,17,18,19,20,23,24,25,31,13,42,43,14,44,90,91,60,122,123],[16,20,22,23,24,28,30,31,13,42,43,58,59,9,34,35,50,51],[16,17,18,20,24,25,28,30,31,13,42,58,11,38,39,86,87,118,119],[16,17,18,21,26,29,30,31,11,38,39,54,55,12,40,41,56,57],[16,17,24,25,28,29,30,31,11,38,39,54,55,10,36,37,52,53],[16,17,18,20,21,24,25,26,31,11,39,55,14,60,61,76,77,108,109],[16,20,21,24,26,28,29,30,31,11,54,55,9,34,70,71,50,102,103],[16,17,18,20,24,25,28,30,31,11,38,39,13,42,86,87,58,118,119],[16,17,29,30,31,12,56,57,10,37,72,73,53,104,105,11,38,39,54,55],[16,22,23,30,31,12,40,56,9,34,35,82,83,114,115,13,42,43,58,59],[16,22,23,30,31,12,40,56,13,42,43,58,59,9,34,35,82,83,114,115],[16,17,18,30,31,12,40,41,56,57,13,42,58,11,38,39,86,87,118,119],[16,17,29,30,31,12,56,57,11,38,39,54,55,10,37,72,73,53,104,105],[16,17,18,30,31,12,40,41,56,57,11,38,39,13,42,86,87,58,118,119],[16,17,29,30,31,10,37,53,12,56,57,72,73,104,105,11,38,39,54,55],[16,23,24,27,31,10,52,53,14,44,45,60,61,9,35,68,69,51,100,101],[16,17,24,25,31,10,36,37,52,53,14,60,61,11,39,76,77,55,108,109],[16,23,24,27,31,10,52,53,9,35,68,69,51,100,101,14,44,45,60,61],[16,17,29,30,31,10,37,53,11,38,39,54,55,12,56,57,72,73,104,105],[16,17,24,25,31,10,36,37,52,53,11,39,55,14,60,61,76,77,108,109],[16,23,24,27,31,14,44,45,60,61,10,52,53,9,35,68,69,51,100,101],[16,17,24,25,31,14,60,61,10,36,37,52,53,11,39,76,77,55,108,109],[16,23,24,27,31,14,44,45,60,61,9,35,51,10,52,53,68,69,100,101],[16,20,23,24,31,14,44,60,9,34,35,50,51,13,42,43,90,91,122,123],[16,20,23,24,31,14,44,60,13,42,43,90,91,122,123,9,34,35,50,51],[16,17,24,25,31,14,60,61,11,39,76,77,55,108,109,10,36,37,52,53],[16,22,23,30,31,9,34,35,12,40,82,83,56,114,115,13,42,43,58,59],[16,23,24,27,31,9,35,51,10,52,53,68,69,100,101,14,44,45,60,61],[16,23,24,27,31,9,35,51,14,44,45,60,61,10,52,53,68,69,100,101],[16,20,23,24,31,9,34,35,50,51,14,44,60,13,42,43,90,91,122,123],[16,22,23,30,31,9,34,35,13,42,43,58,59,12,40,82,83,56,114,115],[16,20,23,24,31,9,34,35,50,51,13,42,43,14,44,90,91,60,122,123],[16,22,23,30,31,13,42,43,58,59,12,40,56,9,34,35,82,83,114,115],[16,17,18,30,31,13,42,58,12,40,41,56,57,11,38,39,86,87,118,119],[16,20,23,24,31,13,42,43,14,44,90,91,60,122,123,9,34,35,50,51],[16,22,23,30,31,13,42,43,58,59,9,34,35,12,40,82,83,56,114,115],[16,20,23,24,31,13,42,43,9,34,35,50,51,14,44,90,91,60,122,123],[16,17,18,30,31,13,42,58,11,38,39,86,87,118,119,12,40,41,56,57],[16,17,29,30,31,11,38,39,54,55,12,56,57,10,37,72,73,53,104,105],[16,17,18,30,31,11,38,39,12,40,41,56,57,13,42,86,87,58,118,119],[16,17,29,30,31,11,38,39,54,55,10,37,53,12,56,57,72,73,104,105],[16,17,24,25,31,11,39,55,10,36,37,52,53,14,60,61,76,77,108,109],[16,17,24,25,31,11,39,55,14,60,61,76,77,108,109,10,36,37,52,53],[16,17,18,30,31,11,38,39,13,42,86,87,58,118,119,12,40,41,56,57]]
 |_=>[]
def o4 (d:Nat):List (List aG):=(HD d).map fun c=>c.map Mw
theorem H8:([1,2,3,4].all fun d=>(xw d 3).all fun c=>(o4 d).contains c)=true:=by decide +kernel
noncomputable abbrev Mi:St:=.s 57 (.m .join (.l (.str "")) (.c (.p (.s (.v 62) (.b .Mod (.b .FloorDiv (.v 53) (.b .Pow (.l (.int 2)) (.v 63))) (.l (.int 2)))) (.c [63] (.r (.c (.b .Sub (.v 64) (.l (.int 1))) .n)) .n .n)) .n))
noncomputable abbrev Mj:St:=.s 61 (.p (.a (.v 3) .n (.y (.b .Sub (.f .len (.c (.v 3) .n)) (.f .len (.c (.v 57) .n)))) .n) (.c [3] (.e (.v 52)) (.c (.m .endswith (.v 3) (.c (.v 57) .n)) .n) .n))
noncomputable abbrev Mk:St:=.s 60 (.p (.a (.v 3) (.y (.f .len (.c (.v 57) .n))) .n .n) (.c [3] (.e (.v 52)) (.c (.m .startswith (.v 3) (.c (.v 57) .n)) .n) .n))
noncomputable abbrev Ml:St:=.s 55 (.b .Add (.p (.b .Add (.v 58) (.v 57)) (.c [58] (.e (.v 61)) .n .n)) (.p (.b .Add (.v 57) (.v 58)) (.c [58] (.e (.v 60)) .n .n)))
noncomputable abbrev Mm:St:=.s 56 (.b .Add (.i (.c (.v 57) .n)) (.p (.b .Add (.b .Add (.v 58) (.v 57)) (.v 59)) (.c [58] (.e (.v 61)) .n (.c [59] (.e (.v 60)) .n .n))))
noncomputable abbrev Mn:St:=.i (.o .And (.c (.q .Eq (.setlen (.v 55)) (.f .len (.c (.v 55) .n))) (.c (.q .LtE (.b .Add (.b .Sub (.f .len (.c (.v 52) .n)) (.f .len (.c (.v 55) .n))) (.f .len (.c (.v 56) .n))) (.l (.int 20))) .n))) (.c (.s 52 (.b .Add (.p (.v 3) (.c [3] (.e (.v 52)) (.c (.q .NotIn (.v 3) (.v 55)) .n) .n)) (.v 56))) .n) .n
abbrev GX:oK:=.c Mi (.c Mj (.c Mk (.c Ml (.c Mm (.c Mn .n)))))
def iO:Fn:=⟨[62,64,54],[],(.c (.s 52 (.i (.c (.l (.str "")) .n))) (.c (.l [65] (.r (.c (.v 64) .n)) (.c (.s 52 (.p (.b .Add (.v 3) (.v 50)) (.c [3] (.e (.v 52)) .n (.c [50] (.e (.v 62)) .n .n)))) .n)) (.c (.l [53] (.e (.v 54)) GX) (.c (.r (.v 52)) .n))))⟩
variable {S:cL}{cu cv:Nat}
noncomputable def kr (m n:Nat):aG:=(List.range n).map fun j=>m / 2^j % 2==1
theorem Dt (m:Nat):lr (an [cu,cv]) (aa (m % 2))=some (an (tw cu cv [m % 2==1])):=by
 rcases Nat.mod_two_eq_zero_or_one m with e|e
 .rw[e];rfl
 .rw[e];rfl
theorem Hh (hu:cu<55296)(hv:cv<55296):∀c∈tw cu cv x,c<55296:=fun c hc=>(yn hc).elim (fun q=>aV q▸hu) fun q=>aV q▸hv
theorem yO (hu:cu<55296)(hv:cv<55296)(g62:ρ.get 62=some (an [cu,cv]))(hX:∀j:Nat,ev S ((ρ.del ([63]++[])).set 63 (aa j)) X=some (aa m))(hY:ev S ρ Y=some (aa n))(hn:n<=50) :
  ev S ρ (.m .join (.l (.str "")) (.c (.p (.s (.v 62) (.b .Mod (.b .FloorDiv X (.b .Pow (.l (.int 2)) (.v 63))) (.l (.int 2)))) (.c [63] (.r (.c Y .n)) .n .n)) .n))=some (an (tw cu cv (kr m n))):=by
 have key:=ba (S:=S) (ρ:=ρ) (elt:=.s (.v 62) (.b .Mod (.b .FloorDiv X (.b .Pow (.l (.int 2)) (.v 63))) (.l (.int 2)))) (tg:=[63]) (src:=.r (.c Y .n)) (l:=List.range n) (i:=aa) (g:=fun j=>an (tw cu cv [m / 2^j % 2==1]))
  (dp hY (az hn (by decide))) fun j mj=>⟨(ρ.del ([63]++[])).set 63 (aa j),rfl,by have hj:=List.mem_range.mp mj;have h2:(2:Nat)^j<2^60:=Nat.pow_lt_pow_right (by decide) (iu hj (az hn (by decide)));exact fu (ab (ae (by decide) (aU (by decide) g62))) (ag (ag (hX j) (ag (aq (d:=.int 2)) (ab am) (JY j (gp (iu hj (az hn (by decide)))))) (eM (Nat.two_pow_pos j) h2)) (aq (d:=aa 2)) (cD (by decide))) (Dt _)⟩
 have e:((List.range n).map fun j=>an (tw cu cv [m / 2^j % 2==1]))=((kr m n).map fun s=>tw cu cv [s]).map an:=by unfold kr;rw[fv,fv];rfl
 rw[e]at key;have hl:(kr m n).length=n:=by unfold kr;rw[dq,List.length_range]
 have:=u6 key (by rw[dq,hl];exact az hn (by decide)) fun p mp=>by obtain⟨s,_,rfl⟩:=gO mp;exact⟨by rw[kW];show 1<=1000;decide,Hh hu hv⟩
 rw[GF]at this;exact this
theorem FR (h:cu≠cv)(x w:aG):ki .endswith (an (tw cu cv x)) [an (tw cu cv w)]=some (.bool (w.isSuffixOf x)):=by show some (PyData.bool (Txt.endswith (tx _) (tx _)))=_;rw[ry];show some (PyData.bool ((tw cu cv w).isSuffixOf (tw cu cv x)))=_;rw[(qh h).suf]
theorem Ay (h:cu≠cv)(x w:aG):ki .startswith (an (tw cu cv x)) [an (tw cu cv w)]=some (.bool (w.isPrefixOf x)):=by show some (PyData.bool (Txt.startswith (tx _) (tx _)))=_;rw[nK];show some (PyData.bool ((tw cu cv w).isPrefixOf (tw cu cv x)))=_;rw[(qh h).pre]
theorem vf:∀{l acc:List aG},(l.foldl addC acc).length<=acc.length+l.length/\((l.foldl addC acc).length=acc.length+l.length↔fb l=true/\∀x∈l,x∉acc)
 |[],acc=>⟨gC _,fun _=>⟨rfl,fun _ m=>nomatch m⟩,fun _=>rfl⟩
 |x::l,acc=>by
  obtain⟨h1,h2⟩:=vf (l:=l) (acc:=addC acc x);rw[List.foldl_cons,nR];by_cases c:acc.contains x=true
  .have e:addC acc x=acc:=if_pos c;rw[e]at h1 h2 ⊢;exact⟨Nat.le_succ_of_le h1,fun q=>absurd (az (Nat.le_of_eq q.symm) h1) (Nat.not_succ_le_self _),fun q=>absurd (List.contains_iff_mem.mp c) (q.2 x (.head _))⟩
  .have e:addC acc x=acc++[x]:=if_neg c;have hl:(addC acc x).length=acc.length+1:=by rw[e,lla];rfl
   rw[hl]at h1 h2;have hx:x∉acc:=fun m=>c (List.contains_iff_mem.mpr m);refine⟨az h1 (Nat.le_of_eq (Nat.add_right_comm _ _ _)),fun q=>?_,fun q=>?_⟩
   .obtain⟨a1,a2⟩:=h2.mp (q.trans (Nat.add_right_comm _ _ 1));refine⟨kY ⟨?_,a1⟩,fun y m=>?_⟩
    .rw[Bool.not_eq_true'];cases d:l.contains x with
     |false=>rfl
     |true=>exact absurd (e▸kK _ (.head _)) (a2 x (List.contains_iff_mem.mp d))
    .rcases bM m with rfl|m
     .exact hx
     .exact fun m'=>a2 y m (e▸mv _ m')
   .obtain⟨a1,a2⟩:=bH (show(!l.contains x&&fb l)=true from q.1);have:=h2.mpr ⟨a2,fun y m m'=>?_⟩
    .exact this.trans (Nat.add_right_comm _ _ _)
    .rw[e]at m';rcases dx m' with m'|m'
     .exact q.2 y (.tail _ m) m'
     .rw[aV m']at m;rw[List.contains_iff_mem.mpr m]at a1;exact ff a1
theorem tU (h:cu≠cv):∀(l acc:List aG),(l.map fun x=>an (tw cu cv x)).foldl qC (acc.map fun x=>tx (tw cu cv x))=(l.foldl addC acc).map fun x=>tx (tw cu cv x)
 |[],acc=>rfl
 |x::l,acc=>by
  rw[fU,List.foldl_cons,List.foldl_cons,<- tU h l];refine congrArg (fun a=>List.foldl qC a _) ?_;show(if(acc.map fun x=>tx (tw cu cv x)).any (· == tx (tw cu cv x))then _ else _)=_;have e:((acc.map fun x=>tx (tw cu cv x)).any (· == tx (tw cu cv x)))=acc.contains x:=by
   rw[List.any_map,Bool.eq_iff_iff,List.any_eq_true,List.contains_iff_mem];refine⟨fun⟨y,m,q⟩=>?_,fun m=>⟨x,m, ?_⟩⟩
   .have q:(tx (tw cu cv y)==tx (tw cu cv x))=true:=q;rw[El,Eh h,beq_iff_eq]at q;exact q▸m
   .show(tx (tw cu cv x)==tx (tw cu cv x))=true;rw[beq_self_eq_true]
  rw[e];unfold addC;by_cases c:acc.contains x=true
  .rw[if_pos c,if_pos c]
  .rw[if_neg c,if_neg c,List.map_append];rfl
theorem CC (hu:cu<55296)(hv:cv<55296)(hx:x.length<=1000):hZ (an (tw cu cv x))=true:=kU (by rw[kW];exact az hx (by decide)) (Hh hu hv)
theorem z9 (h:cu≠cv)(hu:cu<55296)(hv:cv<55296)(he:ev S ρ e=some (cK cu cv l))(hl:l.length<=1000)(hx:∀x∈l,x.length<=1000):ev S ρ (.setlen e)=some (aa (l.foldl addC []).length):=by
 refine li he ?_;rw[if_pos]
 .refine congrArg (fun n:Nat=>some (PyData.int (n:Int))) ?_;have:=congrArg List.length (tU h l []);rw[dq]at this;exact this
 .refine kY ⟨List.all_eq_true.mpr fun d m=>?_,eD (by rw[dq];exact hl)⟩;obtain⟨x,mx,rfl⟩:=gO m;exact CC hu hv (hx x mx)
end
section
variable {S:cL}{cu cv:Nat}
def Bd (M:Nat)(c:List aG):Prop:=∀x∈c,x.length<=M
theorem k7 (h:Bd M c):(cR c w).length<=c.length/\Bd M (cR c w):=by unfold cR;refine⟨by rw[dq];exact List.length_filter_le _ _,fun y m=>?_⟩;obtain⟨x,mx,rfl⟩:=gO m;exact az (List.length_take_le _ _) (az (Nat.sub_le _ _) (h x (List.mem_filter.mp mx).1))
theorem jS (h:Bd M c):(bN c w).length<=c.length/\Bd M (bN c w):=by unfold bN;refine⟨by rw[dq];exact List.length_filter_le _ _,fun y m=>?_⟩;obtain⟨x,mx,rfl⟩:=gO m;exact az (by rw[List.length_drop];exact Nat.sub_le _ _) (h x (List.mem_filter.mp mx).1)
theorem eP {f:α->List β}{n:Nat}:∀{l:List α},(∀a∈l,(f a).length<=n)->(l.flatMap f).length<=l.length*n
 |[],_=>nv _
 |a::l,h=>by have h1:=h a (.head _);have h2:=eP (l:=l) fun b m=>h b (.tail _ m);rw[List.flatMap_cons,lla,nR,Nat.succ_mul,Nat.add_comm];exact pW h2 h1
theorem vi {c:List aG}{w:aG}(h:Bd M c)(hw:w.length<=10):(ez c w).length<=1+c.length*c.length/\Bd (2*M+10) (ez c w):=by
 obtain⟨a1,a2⟩:=k7 (w:=w) h;obtain⟨b1,b2⟩:=jS (w:=w) h;unfold ez;refine⟨?_,fun y m=>?_⟩
 .rw[lla];exact Nat.add_le_add_left (az (eP (l:=cR c w) (f:=fun a=>(bN c w).map fun b=>a++w++b) (n:=c.length) fun a _=>by rw[dq];exact b1) (wE c.length a1)) 1
 .rcases dx m with m|m
  .rw[aV m];exact az hw (Nat.le_add_left _ _)
  .obtain⟨a,ma,m⟩:=List.mem_flatMap.mp m;obtain⟨b,mb,rfl⟩:=gO m;rw[lla,lla];exact az (pW (pW (a2 a ma) hw) (b2 b mb)) (Nat.le_of_eq (by rw[Nat.two_mul,Nat.add_right_comm]))
theorem yY (h:Bd M c)(hw:w.length<=10):(cJ c w).length<=2*c.length/\Bd (M+10) (cJ c w):=by
 obtain⟨a1,a2⟩:=k7 (w:=w) h;obtain⟨b1,b2⟩:=jS (w:=w) h;unfold cJ;refine⟨by rw[lla,dq,dq,Nat.two_mul];exact pW a1 b1,fun y m=>?_⟩;rcases dx m with m|m
 .obtain⟨a,ma,rfl⟩:=gO m;rw[lla];exact pW (a2 a ma) hw
 .obtain⟨a,ma,rfl⟩:=gO m;rw[lla,Nat.add_comm];exact pW (b2 a ma) hw
theorem Am (a b c:Nat):(a:Int)-b+c<=20↔a+c<=20+b:=by omega
theorem Ef (h:c+f<=20+g)(hg:g<=2*c)(hr:r<=c):r+f+20<=2*(c+20):=by omega
theorem BV {a M:Nat}(h:a<=M):a<=2*M+10:=az h (az (Nat.le_mul_of_pos_left M (by decide)) (je _ _))
theorem GD (h:Bd M c)(hw:w.length<=10):(qH c w).length+20<=2*(c.length+20)/\Bd (2*M+10) (qH c w):=by
 obtain⟨f1,f2⟩:=vi (w:=w) h hw;obtain⟨g1,g2⟩:=yY (w:=w) h hw;unfold qH;by_cases q:(fb (cJ c w)&&decide (c.length+(ez c w).length<=20+(cJ c w).length))=true
 .rw[if_pos q];have:=bX (bH q).2;have hf:(c.filter fun x=>!(cJ c w).contains x).length<=c.length:=List.length_filter_le _ _;refine⟨by rw[lla];exact Ef this g1 hf,fun y m=>?_⟩;rcases dx m with m|m
  .exact BV (h y (List.mem_filter.mp m).1)
  .exact f2 y m
 .rw[if_neg q];exact⟨Nat.le_mul_of_pos_left _ (by decide),fun y m=>BV (h y m)⟩
theorem nh (h1:ev S ρ e1=some (an (tw cu cv x)))(h2:ev S ρ e2=some (an (tw cu cv y)))(hx:x.length<=5000)(hy:y.length<=5000):ev S ρ (.b .Add e1 e2)=some (an (tw cu cv (x++y))):=by have:=jX h1 h2 (by rw[kW,kW];exact az (pW hx hy) (by decide));rw[<- cB]at this;exact this
theorem ub (h1:ev S ρ e1=some (cK cu cv l))(h2:ev S ρ e2=some (cK cu cv m))(hl:l.length+m.length<=100000):ev S ρ (.b .Add e1 e2)=some (cK cu cv (l++m)):=by have:=sY h1 h2 (by rw[dq,dq];exact hl);rw[<- List.map_append]at this;exact this
theorem eb (h:ev S ρ e=some (an (tw cu cv x))):ev S ρ (.f .len (.c e .n))=some (aa x.length):=by
 have:=iJ h
 rwa [kW]at this
theorem oi (h:ev S ρ e=some (cK cu cv l)):ev S ρ (.f .len (.c e .n))=some (aa l.length):=by
 have:=HN h
 rwa [dq]at this
section
variable (h:cu≠cv)(hu:cu<55296)(hv:cv<55296){ρ:aB}{c:List aG}{w:aG}{M:Nat}
include h hu hv
theorem Lm (g62:ρ.get 62=some (an [cu,cv]))(g64:ρ.get 64=some (aa d))(g53:ρ.get 53=some (aa n))(h1:1<=d)(hd:d<=10):ex S ρ Mi=some (.n (ρ.set 57 (an (tw cu cv (sE d n))))):=
 aA (yO hu hv (X:=.v 53) (m:=n) (n:=d-1) g62 (fun j=>ab (ae (by decide) (aU (by decide) g53))) (ag (ab g64) (aq (d:=aa 1)) (aQ h1)) (az (Nat.sub_le _ _) (az hd (by decide))))
theorem Ln (g52:ρ.get 52=some (cK cu cv c))(g57:ρ.get 57=some (an (tw cu cv w))):ex S ρ Mj=some (.n (ρ.set 61 (cK cu cv (cR c w)))):=by
 refine aA ?_;have key:=iI (S:=S) (ρ:=ρ) (elt:=.a (.v 3) .n (.y (.b .Sub (.f .len (.c (.v 3) .n)) (.f .len (.c (.v 57) .n)))) .n) (c:=.m .endswith (.v 3) (.c (.v 57) .n)) (tg:=[3]) (src:=.e (.v 52)) (l:=c) (i:=fun x=>an (tw cu cv x)) (g:=fun x=>an (tw cu cv (x.take (x.length-w.length)))) (p:=fun x=>w.isSuffixOf x)
  (bi (ab g52) rfl) fun x _=>by
   have r57:=ab (S:=S) (ae (ρ:=ρ.del ([3]++[])) (n:=57) (k:=3) (e:=an (tw cu cv x)) (by decide) (aU (by decide) g57));have r3:=ab (S:=S) (am (ρ:=ρ.del ([3]++[])) (n:=3) (d:=an (tw cu cv x)));refine⟨_,rfl,bi (mV r3 (ad r57 aj) (FR h x w)) rfl,fun hs=>?_⟩;have hle:=(List.isSuffixOf_iff_suffix.mp hs).length_le;have:=fY r3 eN (dM (ag (eb r3) (eb r57) (aQ hle))) eN v9
   rwa [ua]at this
 rw[key];unfold cR;rw[cK,fv];rfl
theorem Lo (g52:ρ.get 52=some (cK cu cv c))(g57:ρ.get 57=some (an (tw cu cv w))):ex S ρ Mk=some (.n (ρ.set 60 (cK cu cv (bN c w)))):=by
 refine aA ?_;have key:=iI (S:=S) (ρ:=ρ) (elt:=.a (.v 3) (.y (.f .len (.c (.v 57) .n))) .n .n) (c:=.m .startswith (.v 3) (.c (.v 57) .n)) (tg:=[3]) (src:=.e (.v 52)) (l:=c) (i:=fun x=>an (tw cu cv x)) (g:=fun x=>an (tw cu cv (x.drop w.length))) (p:=fun x=>w.isPrefixOf x)
  (bi (ab g52) rfl) fun x _=>by
   have r57:=ab (S:=S) (ae (ρ:=ρ.del ([3]++[])) (n:=57) (k:=3) (e:=an (tw cu cv x)) (by decide) (aU (by decide) g57));have r3:=ab (S:=S) (am (ρ:=ρ.del ([3]++[])) (n:=3) (d:=an (tw cu cv x)));refine⟨_,rfl,bi (mV r3 (ad r57 aj) (Ay h x w)) rfl,fun hs=>?_⟩;have:=fY r3 (dM (eb r57)) eN eN qy
   rwa [oH]at this
 rw[key];unfold bN;rw[cK,fv];rfl
theorem Lp (g57:ρ.get 57=some (an (tw cu cv w)))(g61:ρ.get 61=some (cK cu cv (cR c w)))(g60:ρ.get 60=some (cK cu cv (bN c w)))(hb:Bd M c)(hM:M<=1000)(hl:c.length<=1000)(hw:w.length<=10):ex S ρ Ml=some (.n (ρ.set 55 (cK cu cv (cJ c w)))):=by obtain⟨a1,a2⟩:=k7 (w:=w) hb;obtain⟨b1,b2⟩:=jS (w:=w) hb;have r57:∀x:aG,ev S ((ρ.del ([58]++[])).set 58 (an (tw cu cv x))) (.v 57)=some (an (tw cu cv w)):=fun x=>ab (ae (by decide) (aU (by decide) g57));have r58:∀x:aG,ev S ((ρ.del ([58]++[])).set 58 (an (tw cu cv x))) (.v 58)=some (an (tw cu cv x)):=fun x=>ab am;have k1:=ba (S:=S) (ρ:=ρ) (elt:=.b .Add (.v 58) (.v 57)) (tg:=[58]) (src:=.e (.v 61)) (l:=cR c w) (i:=fun x=>an (tw cu cv x)) (g:=fun x=>an (tw cu cv (x++w))) (bi (ab g61) rfl) fun x m=>⟨_,rfl,nh (r58 x) (r57 x) (az (a2 x m) (az hM (by decide))) (az hw (by decide))⟩;have k2:=ba (S:=S) (ρ:=ρ) (elt:=.b .Add (.v 57) (.v 58)) (tg:=[58]) (src:=.e (.v 60)) (l:=bN c w) (i:=fun x=>an (tw cu cv x)) (g:=fun x=>an (tw cu cv (w++x))) (bi (ab g60) rfl) fun x m=>⟨_,rfl,nh (r57 x) (r58 x) (az hw (by decide)) (az (b2 x m) (az hM (by decide)))⟩;refine aA (ub (l:=(cR c w).map fun x=>x++w) (m:=(bN c w).map fun x=>w++x) (by rw[k1,cK,fv];rfl) (by rw[k2,cK,fv];rfl) (by rw[dq,dq];exact az (pW (az a1 hl) (az b1 hl)) (by decide)))
theorem Lq (g57:ρ.get 57=some (an (tw cu cv w)))(g61:ρ.get 61=some (cK cu cv (cR c w)))(g60:ρ.get 60=some (cK cu cv (bN c w)))(hb:Bd M c)(hM:M<=1000)(hl:c.length<=150)(hw:w.length<=10):ex S ρ Mm=some (.n (ρ.set 56 (cK cu cv (ez c w)))):=by
 obtain⟨a1,a2⟩:=k7 (w:=w) hb;obtain⟨b1,b2⟩:=jS (w:=w) hb;have hfl:=eP (l:=cR c w) (f:=fun a=>(bN c w).map fun b=>an (tw cu cv (a++w++b))) (n:=c.length) fun a _=>by rw[dq];exact b1
 have hsq:(cR c w).length*c.length<=150*150:=Nat.mul_le_mul (az a1 hl) hl;have k1:=tc (S:=S) (ρ:=ρ) (elt:=.b .Add (.b .Add (.v 58) (.v 57)) (.v 59)) (tg:=[58]) (tg2:=[59]) (src:=.e (.v 61)) (src2:=.e (.v 60)) (l:=cR c w) (i:=fun x=>an (tw cu cv x)) (l2:=fun _=>bN c w) (i2:=fun _ x=>an (tw cu cv x)) (g:=fun a b=>an (tw cu cv (a++w++b))) (bi (ab g61) rfl)
  (fun a m=>by
   refine⟨(ρ.del ([58]++([59]++[]))).set 58 (an (tw cu cv a)),rfl,bi (x:=cK cu cv (bN c w)) (ab (ae (by decide) ?_)) rfl,fun b mb=>⟨_,rfl, ?_⟩⟩
   .rw[aB.get_del,if_neg (by decide)];exact g60
   .refine nh (nh (ab (ae (by decide) am)) (ab (ae (by decide) (ae (by decide) ?_))) (az (a2 a m) (az hM (by decide))) (az hw (by decide))) (ab am) (by rw[lla];exact az (pW (az (a2 a m) hM) hw) (by decide)) (az (b2 b mb) (az hM (by decide)));rw[aB.get_del,if_neg (by decide)];exact g57) (az hfl (az hsq (by decide)))
 refine aA (ub (l:=[w]) (m:=(cR c w).flatMap fun a=>(bN c w).map fun b=>a++w++b) (dj (ad (ab g57) aj) (j6 rfl)) (by rw[k1,cK,List.map_flatMap];refine congrArg (fun f=>some (PyData.list ((cR c w).flatMap f))) (funext fun a=>?_);rw[fv];rfl) ?_);have:=eP (l:=cR c w) (f:=fun a=>(bN c w).map fun b=>a++w++b) (n:=c.length) fun a _=>by rw[dq];exact b1
 exact az (Nat.add_le_add_left (az this hsq) 1) (by decide)
theorem Lr (g52:ρ.get 52=some (cK cu cv c))(g55:ρ.get 55=some (cK cu cv (cJ c w)))(g56:ρ.get 56=some (cK cu cv (ez c w)))(hb:Bd M c)(hM:M<=900)(hl:c.length<=150)(hw:w.length<=10) :
  ∃ρ',ex S ρ Mn=some (.n ρ')/\ρ'.get 52=some (cK cu cv (qH c w))/\∀n d,n≠52->ρ.get n=some d->ρ'.get n=some d:=by
 obtain⟨g1,g2⟩:=yY (w:=w) hb hw;obtain⟨f1,f2⟩:=vi (w:=w) hb hw;have hsq:c.length*c.length<=150*150:=Nat.mul_le_mul hl hl;have e1:=z9 h hu hv (S:=S) (ab g55) (az g1 (az (Nat.mul_le_mul_left 2 hl) (by decide))) fun x m=>az (g2 x m) (az (Nat.add_le_add_right hM 10) (by decide));obtain⟨-,hlen⟩:=vf (l:=cJ c w) (acc:=[]);have t1:evT S ρ (.q .Eq (.setlen (.v 55)) (.f .len (.c (.v 55) .n)))=some (fb (cJ c w)):=by refine aL e1 (oi (ab g55)) ?_;show some (PyData.bool (decide ((((cJ c w).foldl addC []).length:Int)=((cJ c w).length:Int))))=_;refine congrArg (fun x=>some (PyData.bool x)) ?_;rw[Bool.eq_iff_iff,decide_eq_true_iff];rw[show([]:List aG).length=0 from rfl,Nat.zero_add]at hlen;exact⟨fun q=>(hlen.mp (Int.ofNat.inj q)).1,fun q=>congrArg Int.ofNat (hlen.mpr ⟨q,fun _ _ m=>nomatch m⟩)⟩
 have t2:evT S ρ (.q .LtE (.b .Add (.b .Sub (.f .len (.c (.v 52) .n)) (.f .len (.c (.v 55) .n))) (.f .len (.c (.v 56) .n))) (.l (.int 20)))=some (decide (c.length+(ez c w).length<=20+(cJ c w).length)):=by refine aL (x:=.int ((c.length:Int)-(cJ c w).length+(ez c w).length)) (ag (ag (oi (ab g52)) (oi (ab g55)) rfl) (oi (ab g56)) rfl) rfl ?_;show some (PyData.bool (decide ((c.length:Int)-(cJ c w).length+(ez c w).length<=20)))=_;exact congrArg (fun x=>some (PyData.bool x)) (decide_eq_decide.mpr (Am _ _ _))
 have tt:evT S ρ (.o .And (.c (.q .Eq (.setlen (.v 55)) (.f .len (.c (.v 55) .n))) (.c (.q .LtE (.b .Add (.b .Sub (.f .len (.c (.v 52) .n)) (.f .len (.c (.v 55) .n))) (.f .len (.c (.v 56) .n))) (.l (.int 20))) .n)))=some (fb (cJ c w)&&decide (c.length+(ez c w).length<=20+(cJ c w).length)):=by
  refine bi t1 ?_;cases fb (cJ c w)with
  |false=>rfl
  |true=>exact bi t2 (by cases decide (c.length+(ez c w).length<=20+(cJ c w).length) <;> rfl)
 unfold qH;cases q:(fb (cJ c w)&&decide (c.length+(ez c w).length<=20+(cJ c w).length))with
 |false =>
  rw[q]at tt;refine⟨ρ,hG tt rfl, ?_,fun _ _ _ g=>g⟩;rw[if_neg nP];exact g52
 |true =>
  rw[q]at tt;have key:=iI (S:=S) (ρ:=ρ) (elt:=.v 3) (c:=.q .NotIn (.v 3) (.v 55)) (tg:=[3]) (src:=.e (.v 52)) (l:=c) (i:=fun x=>an (tw cu cv x)) (g:=fun x=>an (tw cu cv x)) (p:=fun x=>!(cJ c w).contains x)
   (bi (ab g52) rfl) fun x _=>⟨_,rfl,aL (ab am) (ab (ae (by decide) (aU (by decide) g55))) (by rw[zR h];refine congrArg (fun b=>some (PyData.bool (!b))) ?_;rw[Bool.eq_iff_iff,decide_eq_true_iff,List.contains_iff_mem]),fun _=>ab am⟩
  have hf:(c.filter fun x=>!(cJ c w).contains x).length<=c.length:=List.length_filter_le _ _;refine⟨_,HR tt (af (aA (ub key (ab g56) (az (pW (az hf hl) (az f1 (Nat.add_le_add_left hsq 1))) (by decide)))) rfl), ?_,fun n d hn g=>ae hn g⟩;rw[if_pos rfl];exact am
end
theorem kR (g:ρ.get 62=some (an [cu,cv])):dZ S ρ (.e (.v 62))=some ([false,true].map fun s=>an (tw cu cv [s])):=bi (ab g) rfl
theorem Fq (g62:ρ.get 62=some (an [cu,cv]))(ga:ρ.get a=some (cK cu cv c))(hb:b≠50)(hb2:b≠62)(hM:Bd M c)(h1:M<=1000)(hl:c.length<=1000) :
  ev S ρ (.p (.b .Add (.v b) (.v 50)) (.c [b] (.e (.v a)) .n (.c [50] (.e (.v 62)) .n .n)))=some (cK cu cv (fL c)):=by
 have hfl:=eP (l:=c) (f:=fun x=>[false,true].map fun s=>an (tw cu cv (x++[s]))) (n:=2) fun a _=>gC _;have key:=tc (S:=S) (ρ:=ρ) (elt:=.b .Add (.v b) (.v 50)) (tg:=[b]) (tg2:=[50]) (src:=.e (.v a)) (src2:=.e (.v 62)) (l:=c) (i:=fun x=>an (tw cu cv x)) (l2:=fun _=>[false,true]) (i2:=fun _ s=>an (tw cu cv [s])) (g:=fun x s=>an (tw cu cv (x++[s]))) (bi (ab ga) rfl)
  (fun x m=>by
   refine⟨(ρ.del ([b]++([50]++[]))).set b (an (tw cu cv x)),rfl,kR (ae (Ne.symm hb2) ?_),fun s _=>⟨((ρ.del ([b]++([50]++[]))).set b (an (tw cu cv x))).set 50 (an (tw cu cv [s])),rfl,nh (ab (ae hb am)) (ab am) (az (hM x m) (az h1 (by decide))) (by show 1<=5000;decide)⟩⟩;rw[aB.get_del,if_neg]
   .exact g62
   .simp only[List.cons_append,List.nil_append,List.contains_cons,List.contains_nil,Bool.or_false,Bool.or_eq_true,beq_iff_eq]
    rintro (q|q)
    .exact hb2 q.symm
    .cases q) (az hfl (az (wE 2 hl) (by decide)))
 rw[key];unfold fL;rw[cK,List.map_flatMap];refine congrArg (fun f=>some (PyData.list (c.flatMap f))) (funext fun x=>?_);rw[fv];rfl
theorem FQ (h:Bd M c):(fL c).length<=c.length*2/\Bd (M+1) (fL c):=by unfold fL;refine⟨eP fun a _=>gC _,fun y m=>?_⟩;obtain⟨a,ma,m⟩:=List.mem_flatMap.mp m;obtain⟨s,_,rfl⟩:=gO m;rw[lla];exact Nat.succ_le_succ (h a ma)
theorem qA:∀d:Nat,(dI d).length<=2^d/\Bd d (dI d)
 |0=>⟨gC _,fun y m=>by rw[aV m];exact gC _⟩
 |d+1=>by obtain⟨a,b⟩:=qA d;obtain⟨c,e⟩:=FQ b;refine⟨az c ?_,e⟩;rw[Nat.pow_succ];exact wE 2 a
theorem qB {d:Nat}:∀{is:aH}{i:Nat}{ρ:aB},i+is.length<=6->ρ.get 62=some (an [cu,cv])->ρ.get 52=some (cK cu cv (dI i)) ->
  ∃ρ',tj (fun d ρ'=>(bE ρ' [65] d).bind fun ρ''=>eK S ρ'' (.c (.s 52 (.p (.b .Add (.v 3) (.v 50)) (.c [3] (.e (.v 52)) .n (.c [50] (.e (.v 62)) .n .n)))) .n)) (is.map aa) ρ=some (.n ρ')/\ρ'.get 52=some (cK cu cv (dI (i+is.length)))/\∀n d,n≠52->n≠65->ρ.get n=some d->ρ'.get n=some d
 |[],i,ρ,_,_,g52=>⟨ρ,rfl,g52,fun _ _ _ _ g=>g⟩
 |j::is,i,ρ,hi,g62,g52=>by
  have hi:i+(is.length+1)<=6:=hi;obtain⟨b1,b2⟩:=qA i;have i6:i<=6:=az (je _ _) hi;have hp:(2:Nat)^i<=2^6:=Nat.pow_le_pow_right (by decide) i6;have q62:(ρ.set 65 (aa j)).get 62=some (an [cu,cv]):=ae (by decide) g62;have s1:=Fq (S:=S) (b:=3) (a:=52) (M:=i) q62 (ae (by decide) g52) (by decide) (by decide) b2 (az i6 (by decide)) (az b1 (az hp (by decide)));obtain⟨ρ',a1,a2,a3⟩:=qB (d:=d) (is:=is) (i:=i+1) (ρ:=(ρ.set 65 (aa j)).set 52 (cK cu cv (fL (dI i)))) (az (Nat.le_of_eq (Nat.add_right_comm i 1 is.length)) hi) (ae (by decide) q62) am;refine⟨ρ', ?_, ?_,fun n d h1 h2 g=>a3 n d h1 h2 (ae h1 (ae h2 g))⟩
  .rw[fU];exact gn (af (aA s1) rfl) a1
  .rw[a2,nR,Nat.add_assoc,Nat.add_comm 1]
section
variable (h:cu≠cv)(hu:cu<55296)(hv:cv<55296)
include h hu hv
theorem rn (h1:1<=d)(hd:d<=10):∀{ns:aH}{c:List aG}{M:Nat}{ρ:aB},Bd M c->(c.length+20)*2^ns.length<=300->(M+10)*2^ns.length<=900->ρ.get 62=some (an [cu,cv])->ρ.get 64=some (aa d)->ρ.get 52=some (cK cu cv c) ->
  ∃ρ',tj (fun d ρ'=>(bE ρ' [53] d).bind fun ρ''=>eK S ρ'' GX) (ns.map aa) ρ=some (.n ρ')/\ρ'.get 52=some (cK cu cv (ns.foldl (sy d) c))
 |[],c,M,ρ,_,_,_,_,_,g52=>⟨ρ,rfl,g52⟩
 |n::ns,c,M,ρ,hb,hN,hM,g62,g64,g52=>by
  rw[nR,Nat.pow_succ]at hN hM;have hp:=Nat.two_pow_pos ns.length;have hw:(sE d n).length<=10:=by unfold sE;rw[dq,List.length_range];exact az (Nat.sub_le _ _) hd
  have hN':(c.length+20)*2*2^ns.length<=300:=by rw[Nat.mul_assoc,Nat.mul_comm 2];exact hN
  have hM':(M+10)*2*2^ns.length<=900:=by rw[Nat.mul_assoc,Nat.mul_comm 2];exact hM
  have n1:(c.length+20)*2<=300:=az (Nat.le_mul_of_pos_right _ hp) hN';have m1:(M+10)*2<=900:=az (Nat.le_mul_of_pos_right _ hp) hM';have c130:c.length<=130:=Nat.le_of_add_le_add_right (Nat.le_of_mul_le_mul_right (show(c.length+20)*2<=(130+20)*2 from n1) (by decide));have m440:M<=440:=Nat.le_of_add_le_add_right (Nat.le_of_mul_le_mul_right (show(M+10)*2<=(440+10)*2 from m1) (by decide));have c150:c.length<=150:=az c130 (by decide);have c1000:c.length<=1000:=az c130 (by decide);have m1000:M<=1000:=az m440 (by decide);obtain⟨t1,t2⟩:=GD (w:=sE d n) hb hw;have s0:=Lm (S:=S) h hu hv (ρ:=ρ.set 53 (aa n)) (d:=d) (n:=n) (ae (by decide) g62) (ae (by decide) g64) am h1 hd;generalize hw':sE d n=w at s0 t1 t2 hw;have s1:=Ln (S:=S) h hu hv (ρ:=(ρ.set 53 (aa n)).set 57 (an (tw cu cv w))) (c:=c) (w:=w) (ae (by decide) (ae (by decide) g52)) am;generalize hρ1:((ρ.set 53 (aa n)).set 57 (an (tw cu cv w))).set 61 (cK cu cv (cR c w))=ρ1 at s1;have k1:∀n d,n≠53->n≠57->n≠61->ρ.get n=some d->ρ1.get n=some d:=fun n d a b e g=>by rw[<- hρ1];exact ae e (ae b (ae a g))
  have q57:ρ1.get 57=some (an (tw cu cv w)):=by rw[<- hρ1];exact ae (by decide) am
  have q61:ρ1.get 61=some (cK cu cv (cR c w)):=by rw[<- hρ1];exact am
  have q52:=k1 52 _ (by decide) (by decide) (by decide) g52;have s2:=Lo (S:=S) h hu hv (ρ:=ρ1) q52 q57;have s3:=Lp (S:=S) h hu hv (ρ:=ρ1.set 60 (cK cu cv (bN c w))) (ae (by decide) q57) (ae (by decide) q61) am hb m1000 c1000 hw;have s4:=Lq (S:=S) h hu hv (ρ:=(ρ1.set 60 (cK cu cv (bN c w))).set 55 (cK cu cv (cJ c w))) (ae (by decide) (ae (by decide) q57)) (ae (by decide) (ae (by decide) q61)) (ae (by decide) am) hb m1000 c150 hw;obtain⟨ρ2,s5,r52,k2⟩:=Lr (S:=S) h hu hv (ρ:=((ρ1.set 60 (cK cu cv (bN c w))).set 55 (cK cu cv (cJ c w))).set 56 (cK cu cv (ez c w))) (ae (by decide) (ae (by decide) (ae (by decide) q52))) (ae (by decide) am) am hb (az m440 (by decide)) c150 hw;have k3:∀n d,n≠52->n≠53->n≠57->n≠61->n≠60->n≠55->n≠56->ρ.get n=some d->ρ2.get n=some d:=fun n d a1 a2 a3 a4 a5 a6 a7 g=>k2 n d a1 (ae a7 (ae a6 (ae a5 (k1 n d a2 a3 a4 g))));obtain⟨ρ',e1,e2⟩:=rn h1 hd (ns:=ns) (c:=qH c w) (M:=2*M+10) (ρ:=ρ2) t2
   (az (wE _ (by rw[Nat.mul_comm];exact t1)) hN') (az (wE _ (Nat.le_of_eq (by rw[Nat.add_mul,Nat.mul_comm M 2]))) hM')
   (k3 62 _ (by decide) (by decide) (by decide) (by decide) (by decide) (by decide) (by decide) g62) (k3 64 _ (by decide) (by decide) (by decide) (by decide) (by decide) (by decide) (by decide) g64) r52
  refine⟨ρ', ?_,by rw[e2,List.foldl_cons];unfold sy;rw[hw']⟩;rw[fU];exact gn (af s0 (af s1 (af s2 (af s3 (af s4 (af s5 rfl)))))) e1
theorem DG {ns:aH}(h1:1<=d)(hd:d<=4)(hn:ns.length<=3):aW S iO [an [cu,cv],aa d, .list (ns.map aa)]=some (cK cu cv (lh d ns)):=by refine dg rfl ?_;show eK S [(62,an [cu,cv]),(64,aa d),(54, .list (ns.map aa))] _=_;refine af (ρ':=[(62,an [cu,cv]),(64,aa d),(54, .list (ns.map aa)),(52,cK cu cv (dI 0))]) rfl ?_;obtain⟨ρ1,a1,a2,a3⟩:=qB (S:=S) (d:=d) (cu:=cu) (cv:=cv) (is:=List.range d) (i:=0) (ρ:=[(62,an [cu,cv]),(64,aa d),(54, .list (ns.map aa)),(52,cK cu cv (dI 0))]) (by rw[List.length_range,Nat.zero_add];exact az hd (by decide)) rfl rfl;rw[List.length_range,Nat.zero_add]at a2;refine af (ik (dp (ab rfl) (az hd (by decide))) a1) ?_;obtain⟨b1,b2⟩:=qA d;have hp:(2:Nat)^d<=2^4:=Nat.pow_le_pow_right (by decide) hd;have hq:(2:Nat)^ns.length<=2^3:=Nat.pow_le_pow_right (by decide) hn;obtain⟨ρ2,c1,c2⟩:=rn (S:=S) h hu hv h1 (az hd (by decide)) (ns:=ns) (c:=dI d) (M:=d) (ρ:=ρ1) b2 (az (Nat.mul_le_mul (Nat.add_le_add_right (az b1 hp) 20) hq) (by decide)) (az (Nat.mul_le_mul (Nat.add_le_add_right hd 10) hq) (by decide)) (a3 62 _ (by decide) (by decide) rfl) (a3 64 _ (by decide) (by decide) rfl) a2;refine af (ik (bi (x:=.list (ns.map aa)) (ab (a3 54 _ (by decide) (by decide) rfl)) rfl) c1) ?_;exact aE (cE (ab c2))
end
end
section
variable {S:cL}{k cu cv:Nat}
theorem HF (xs:List α)(a b:Nat):mh xs (some (a:Int)) (some (b:Int)) none=(xs.drop a).take (b-a):=by
 have:=sR xs (some a) (some b);simp only[Option.map_some,ij]at this;rw[this];rcases Nat.le_total a xs.length with h|h
 .rw[Nat.min_eq_left h];rcases Nat.le_total b xs.length with h'|h'
  .rw[Nat.min_eq_left h']
  .rw[Nat.min_eq_right h',List.take_of_length_le (by rw[List.length_drop];exact gC _),List.take_of_length_le (by rw[List.length_drop];exact Nat.sub_le_sub_right h' a)]
 .rw[Nat.min_eq_right h,List.drop_of_length_le (gC _),List.drop_of_length_le h,List.take_nil,List.take_nil]
theorem DX:fX (an (tw cu cv x)) (some (aa a)) (some (aa b)) none=some (an (tw cu cv ((x.drop a).take (b-a)))):=by show some (PyData.str ⟨(mh (tw cu cv x) (some (a:Int)) (some (b:Int)) none).toArray⟩)=_;rw[HF,oH,ua]
theorem i5.dots (F:Facts S)(Q:i5 k cu cv)(y:ji (wr k cu) (wr k cv))(hp:p.length<=150)(hq:q.length<=150)(hm:∀x∈ms,x.length<=150)(hl:ms.length<=100) :
  S.cal 32 [an (bR (ww k cu cv p::(ms.map (ww k cu cv)++[ww k cu cv q]))),an (ww k cu cv g)]=some (.bool (mQ p ms q g)):=by
 have hh:∀z∈ww k cu cv p::(ms.map (ww k cu cv)++[ww k cu cv q]),∃x:aG,x.length<=150/\z=ww k cu cv x:=fun z m=>by
  rcases bM m with rfl|m
  .exact⟨p,hp,rfl⟩
  .rcases dx m with m|m
   .obtain⟨x,mx,rfl⟩:=gO m;exact⟨x,hm x mx,rfl⟩
   .exact⟨q,hq,aV m⟩
 rw[F.c32 _ _ (by simp) (fun z m=>by obtain⟨x,_,rfl⟩:=hh z m;exact Q.dot x) (fun z m=>by obtain⟨x,hx,rfl⟩:=hh z m;exact Q.okw hx) (by simp;omega),y.ell]
theorem i5.plain (F:Facts S)(Q:i5 k cu cv):S.cal 32 [an (ww k cu cv x),an (ww k cu cv g)]=some (.bool (x==g)):=by rw[F.c320 _ _ (Q.dot x)];refine congrArg (fun b=>some (PyData.bool b)) ?_;rw[Bool.eq_iff_iff,beq_iff_eq,beq_iff_eq];exact Q.code.inj
theorem Di (l:List aG):a8 (cK cu cv l)=true:=ku fun _ _=>rfl
theorem Dh (l:aG):a8 (.list (l.map PyData.bool))=true:=ku fun _ _=>rfl
theorem i5.len6 (Q:i5 k cu cv)(h:x.length<=100):(ww k cu cv x).length<=600:=az (Q.len (by omega)) (by omega)
theorem rB:∀l:aG,PyData.eqvAll (l.map PyData.bool) (l.map PyData.bool)=true
 |[]=>rfl
 |b::l=>kY ⟨by cases b <;> rfl,rB l⟩
theorem qw (l:aG):cY .NotEq (.list (l.map PyData.bool)) (.list (l.map PyData.bool))=some (.bool false):=lg (mJ l) (rB l)
theorem rS:∀(r:aH)(n:Nat),m9 n r=r.foldl max n
 |[],_=>rfl
 |m::r,n=>rS r (max n m)
noncomputable def JJ (u v:aH):Bool:=u.tail.all fun c=>u.head? != some c&&v.head? != some c
theorem Ic:((List.range 5).all fun k=>fk.all fun a=>fk.all fun b=>JJ (wr k a) (wr k b))=true:=by decide +kernel
theorem zs (hi:i<8):(qW x).getD i 0=x\/(qW x).getD i 0∈fk:=by
 have:=Lw i hi;rcases this with rfl|rfl|rfl|rfl|rfl|rfl|rfl|rfl
 .exact .inr (show 38∈fk by decide)
 .exact .inr (show 60∈fk by decide)
 .exact .inr (show 62∈fk by decide)
 .exact .inr (show 34∈fk by decide)
 .exact .inr (show 13∈fk by decide)
 .exact .inr (show 10∈fk by decide)
 .exact .inr (show 9∈fk by decide)
 .exact .inl rfl
theorem DS (hk:k<5)(hx:192<=x)(hi:i<8)(hj:j<8):JJ (wr k ((qW x).getD i 0)) (wr k ((qW x).getD j 0))=true:=by
 have low:∀{a b:Nat},a∈fk->b∈fk->JJ (wr k a) (wr k b)=true:=fun ha hb=>bQ (bQ (bQ Ic k (List.mem_range.mpr hk)) _ ha) _ hb;rcases zs (x:=x) hi with e|m
 .rw[e,mf hk hx];rfl
 .rcases zs (x:=x) hj with e'|m'
  .rw[e',mf hk hx];refine List.all_eq_true.mpr fun c mc=>?_;have h1:=bQ (low m m) c mc;have h2:=(uf hk m).2 c (List.mem_of_mem_tail mc);refine kY ⟨(bH h1).1, ?_⟩;rw[bne_iff_ne];intro q;have:x=c:=aC q;omega
  .exact low m m'
theorem GA (c:Code u v)(h1:JJ u v=true)(h2:JJ v u=true):ji u v:={ c with
 hd:=fun z m=>by
  rcases dx m with m|m
  .have:=bH (bQ h1 z m);exact⟨bne_iff_ne.mp this.1,bne_iff_ne.mp this.2⟩
  .have:=bH (bQ h2 z m);exact⟨bne_iff_ne.mp this.2,bne_iff_ne.mp this.1⟩ }
theorem Fz (h:([1,2,3,4].all P)=true)(h1:1<=d)(h4:d<=4):P d=true:=
 bQ h d (by
  have:d=1\/d=2\/d=3\/d=4:=by omega
  rcases this with rfl|rfl|rfl|rfl <;> decide)
theorem rO:∀(n:Nat) (x:aG),x.length=n->x∈dI n
 |0,x,h=>by rw[List.length_eq_zero_iff.mp h];exact .head _
 |n+1,x,h=>by
  rcases List.eq_nil_or_concat x with rfl|⟨y,s,rfl⟩
  .cases h
  .rw[List.concat_eq_append]at h ⊢;rw[lla]at h;refine List.mem_flatMap.mpr ⟨y,rO n y (Nat.succ.inj h),List.mem_map.mpr ⟨s, ?_,rfl⟩⟩;cases s
   .exact .head _
   .exact .tail _ (.head _)
theorem MB:∀i:Nat,i<5->i=0\/i=1\/i=2\/i=3\/i=4:=by decide
theorem max_le:∀{l:aH}{a:Nat},a<=B->(∀n∈l,n<=B)->l.foldl max a<=B
 |[],_,h,_=>h
 |n::l,a,h,k=>max_le (l:=l) (a:=max a n) (Nat.max_le.mpr ⟨h,k n (.head _)⟩) fun m q=>k m (.tail _ q)
end
section
def bW:List Str:=gL++[("_law_code" : Str),("code" : Str),("pick" : Str),("picks" : Str),("gone" : Str),("fresh" : Str),("word" : Str),("one" : Str),("other" : Str),("behind" : Str),("ahead" : Str),("pair" : Str),("k" : Str),("degree" : Str),("turn" : Str),("_law_ring_told" : Str),("ring" : Str),("written" : Str),("begun" : Str),("place" : Str),("that" : Str),("this" : Str),("sides" : Str),("wants" : Str),("third" : Str),("line" : Str),("before" : Str),("row" : Str),("reach" : Str),("landing" : Str),("told" : Str),("follows" : Str),("_law_divisions_told" : Str),("width" : Str),("second" : Str),("left" : Str),("due" : Str),("quotient" : Str),("lack" : Str),("size" : Str),("lacks" : Str),("most" : Str),("low" : Str),("base" : Str),("level" : Str),("free" : Str),("ends" : Str),("fronts" : Str),("rest" : Str),("sizes" : Str),("number" : Str),("part" : Str),("_law_weights_told" : Str),("more" : Str),("whole" : Str),("mean" : Str),("parts" : Str),("law" : Str),("cells" : Str),("signs" : Str),("first" : Str),("script" : Str)]
noncomputable abbrev KX:St:=.s 82 (.c 46 (.c (.v 47) (.c (.a (.v 78) (.y (.v 70)) (.y (.b .Add (.v 70) (.v 79))) .n) .n)))
noncomputable abbrev KY:St:=.s 81 (.p (.c 32 (.c (.b .Add (.v 41) (.l (.str "..."))) (.c (.v 82) .n))) (.c [41] (.e (.v 68)) .n .n))
noncomputable abbrev KZ:St:=.i (.o .Or (.c (.q .NotEq (.p (.v 58) (.c [58] (.e (.v 81)) (.c (.o .And (.c (.q .IsNot (.v 58) (.l (.bool true))) (.c (.q .IsNot (.v 58) (.l (.bool false))) .n))) .n) .n)) (.i .n)) (.c (.q .NotEq (.m .count (.v 81) (.c (.l (.bool true)) .n)) (.l (.int 1))) .n))) (.c (.r (.l .none)) .n) .n
noncomputable abbrev K0:St:=.a 69 (.m .index (.v 81) (.c (.l (.bool true)) .n))
abbrev uh:oK:=.c KX (.c KY (.c KZ (.c K0 .n)))
noncomputable abbrev L8:St:=.s 72 (.oget 69 (.v 70))
noncomputable abbrev L9:St:=.s 80 (.b .Mod (.b .Add (.v 70) (.f .len (.c (.s (.v 52) (.v 72)) .n))) (.f .len (.c (.v 67) .n)))
noncomputable abbrev Ma:St:=.s 71 (.oget 69 (.v 80))
noncomputable abbrev Mb:St:=.s 75 (.oget 69 (.b .Mod (.b .Add (.v 80) (.f .len (.c (.s (.v 52) (.v 71)) .n))) (.f .len (.c (.v 67) .n))))
noncomputable abbrev K1:St:=.s 77 (.c 46 (.c (.v 47) (.c (.a (.v 78) (.y (.b .Sub (.b .Add (.b .Mult (.v 79) (.f .len (.c (.v 67) .n))) (.v 80)) (.v 79))) (.y (.b .Add (.b .Mult (.v 79) (.f .len (.c (.v 67) .n))) (.v 80))) .n) .n)))
noncomputable abbrev K2:St:=.i (.q .NotEq (.p (.c 32 (.c (.b .Add (.l (.str "...")) (.s (.v 68) (.v 63))) (.c (.v 77) .n))) (.c [63] (.own 69) .n .n)) (.p (.q .Eq (.v 63) (.v 72)) (.c [63] (.own 69) .n .n))) (.c (.r (.l .none)) .n) .n
noncomputable abbrev K3:St:=.s 73 (.p (.m .join (.l (.str "")) (.c (.p (.s (.v 68) (.v 63)) (.c [63] (.e (.v 76)) .n .n)) .n)) (.c [76] (.e (.i (.c (.i (.c (.v 72) (.c (.v 71) .n))) (.c (.i (.c (.v 72) .n)) (.c (.i (.c (.v 71) .n)) (.c (.i (.c (.v 72) (.c (.v 71) (.c (.v 71) (.c (.v 75) .n))))) (.c (.i (.c (.v 72) (.c (.v 71) (.c (.v 75) .n)))) (.c (.i (.c (.v 72) (.c (.v 75) .n))) .n)))))))) .n .n))
noncomputable abbrev K4:St:=.s 74 (.b .Add (.b .Mult (.i (.c (.b .Add (.b .Add (.s (.v 68) (.v 72)) (.l (.str "..."))) (.s (.v 68) (.v 71))) .n)) (.l (.int 3))) (.b .Mult (.i (.c (.m .join (.l (.str "...")) (.c (.p (.s (.v 68) (.v 63)) (.c [63] (.e (.i (.c (.v 72) (.c (.v 71) (.c (.v 71) (.c (.v 75) .n)))))) .n .n)) .n)) .n)) (.l (.int 3))))
noncomputable abbrev K5:St:=.i (.q .NotEq (.p (.c 32 (.c (.v 38) (.c (.v 36) .n))) (.c [38,36] (.zip (.c (.v 74) (.c (.v 73) .n))) .n .n)) (.b .Mult (.i (.c (.l (.bool true)) (.c (.l (.bool false)) (.c (.l (.bool false)) .n)))) (.l (.int 2)))) (.c (.r (.l .none)) .n) .n
noncomputable abbrev K6:St:=.i (.q .IsNot (.c 32 (.c (.s (.v 68) (.v 72)) (.c (.s (.v 68) (.v 71)) .n))) (.q .Eq (.v 72) (.v 71))) (.c (.r (.l .none)) .n) .n
abbrev ui:oK:=.c L8 (.c L9 (.c Ma (.c Mb (.c K1 (.c K2 (.c K3 (.c K4 (.c K5 (.c K6 .n)))))))))
noncomputable abbrev MJ:St:=.s 79 (.f .max (.c (.p (.f .len (.c (.v 3) .n)) (.c [3] (.e (.v 52)) .n .n)) .n))
noncomputable abbrev Ms:St:=.s 78 (.b .Mult (.v 67) (.b .Add (.b .Mult (.l (.int 2)) (.v 79)) (.l (.int 1))))
noncomputable abbrev MK:St:=.newO 69 .n
abbrev ML:St:=.l [70] (.r (.c (.f .len (.c (.v 67) .n)) .n)) uh
abbrev MM:St:=.l [70] (.r (.c (.f .len (.c (.v 67) .n)) .n)) ui
noncomputable abbrev MN:St:=.r (.c 31 (.c (.f .sum (.c (.p (.f .len (.c (.s (.v 68) (.v 63)) .n)) (.c [63] (.own 69) .n .n)) .n)) (.c (.f .len (.c (.c 46 (.c (.v 47) (.c (.v 67) .n))) .n)) .n)))
abbrev Hn:oK:=.c MJ (.c Ms (.c MK (.c ML (.c MM (.c MN .n)))))
def eR:Fn:=⟨[47,52,68,67],[69],Hn⟩
noncomputable abbrev KO:St:=.s 95 (.p (.t (.c (.v 41) (.c (.v 96) .n))) (.c [41,96] (.e (.v 95)) (.c (.q .Lt (.v 96) (.v 64)) .n) .n))
noncomputable abbrev KQ:St:=.s 91 (.b .Add (.v 91) (.p (.t (.c (.f .len (.c (.c 46 (.c (.v 47) (.c (.v 41) .n))) .n)) (.c (.b .Sub (.v 64) (.v 96)) .n))) (.c [41,96] (.e (.v 95)) .n .n)))
noncomputable abbrev KS:St:=.s 95 (.p (.t (.c (.b .Add (.v 41) (.v 50)) (.c (.v 96) .n))) (.c [41,96] (.e (.v 95)) .n (.c [50] (.e (.v 62)) .n .n)))
noncomputable abbrev KU:St:=.s 95 (.p (.t (.c (.v 41) (.c (.b .Add (.v 96) (.f .int (.c (.q .Eq (.p (.v 63) (.c [63] (.r (.c (.f .len (.c (.v 41) .n)) .n)) (.c (.q .In (.a (.v 41) (.y (.v 63)) .n .n) (.v 52)) .n) .n)) (.i .n)) .n))) .n))) (.c [41,96] (.e (.v 95)) .n .n))
abbrev ug:oK:=.c KO (.c KQ (.c KS (.c KU .n)))
noncomputable abbrev LQ:St:=.s 100 (.p (.f .len (.c (.c 46 (.c (.v 47) (.c (.v 50) .n))) .n)) (.c [50] (.e (.v 62)) .n .n))
noncomputable abbrev MH:St:=.s 92 (.f .max (.c (.v 100) .n))
noncomputable abbrev LS:St:=.s 79 (.f .max (.c (.p (.f .len (.c (.v 41) .n)) (.c [41] (.e (.v 68)) .n .n)) .n))
noncomputable abbrev MI:St:=.s 94 (.b .Pow (.l (.int 2)) (.v 84))
noncomputable abbrev LU:St:=.s 93 (.b .Sub (.b .Pow (.v 94) (.v 92)) (.f .sum (.c (.p (.b .Pow (.v 94) (.b .Sub (.v 92) (.v 90))) (.c [90] (.e (.v 100)) .n .n)) .n)))
noncomputable abbrev LW:St:=.s 98 (.p (.f .len (.c (.c 46 (.c (.v 47) (.c (.v 102) .n))) .n)) (.c [102] (.e (.ssc (.a (.v 3) .n (.y (.v 63)) .n) (.c [3] (.e (.v 52)) .n (.c [63] (.r (.c (.f .len (.c (.v 3) .n)) .n)) .n .n)))) .n .n))
noncomputable abbrev LY:St:=.s 97 (.p (.f .len (.c (.c 46 (.c (.v 47) (.c (.v 102) .n))) .n)) (.c [102] (.e (.ssc (.a (.v 3) (.y (.b .Add (.v 63) (.l (.int 1)))) .n .n) (.c [3] (.e (.v 52)) .n (.c [63] (.r (.c (.f .len (.c (.v 3) .n)) .n)) .n .n)))) .n .n))
noncomputable abbrev L0:St:=.u [88,99] (.c 24 (.c (.b .Sub (.b .Pow (.v 94) (.v 79)) (.f .sum (.c (.p (.b .Pow (.v 94) (.b .Sub (.v 79) (.f .len (.c (.v 41) .n)))) (.c [41] (.e (.v 68)) .n .n)) .n))) (.c (.v 93) .n)))
noncomputable abbrev L4:St:=.u [59,86] (.c 24 (.c (.b .Add (.b .Sub (.f .sum (.c (.p (.b .Pow (.v 94) (.f .len (.c (.v 41) .n))) (.c [41] (.e (.v 68)) .n .n)) .n)) (.l (.int 1))) (.v 84)) (.c (.b .Sub (.f .sum (.c (.p (.b .Pow (.v 94) (.v 90)) (.c [90] (.e (.v 100)) .n .n)) .n)) (.l (.int 1))) .n)))
noncomputable abbrev L6:St:=.s 81 (.p (.c 30 (.c (.v 101) (.c (.v 84) .n))) (.c [101] (.e (.i (.c (.v 93) (.c (.v 88) (.c (.v 59) .n))))) .n .n))
noncomputable abbrev Jg:St:=.i (.o .Or (.c (.q .NotEq (.s (.v 81) (.l (.int 0))) (.p (.b .Sub (.b .Sub (.v 94) (.l (.int 1))) (.f .int (.c (.q .Eq (.v 63) (.b .Sub (.v 92) (.f .min (.c (.v 100) .n)))) .n))) (.c [63] (.r (.c (.v 92) .n)) .n .n))) (.c (.q .NotEq (.t (.c (.v 99) (.c (.v 86) .n))) (.t (.c (.l (.int 0)) (.c (.v 84) .n)))) .n))) (.c (.r (.l (.bool false))) .n) .n
noncomputable abbrev Jh:St:=.i (.q .NotEq (.a (.v 81) (.y (.l (.int 1))) .n .n) (.i (.c (.p (.m .count (.v 98) (.c (.b .Sub (.b .Sub (.v 79) (.v 92)) (.v 63)) .n)) (.c [63] (.r (.c (.b .Add (.b .Sub (.v 79) (.v 92)) (.l (.int 1))) .n)) .n .n)) (.c (.p (.m .count (.v 97) (.c (.v 63) .n)) (.c [63] (.r (.c (.b .Add (.b .Sub (.v 79) (.v 92)) (.l (.int 1))) .n)) .n .n)) .n)))) (.c (.r (.l (.bool false))) .n) .n
noncomputable abbrev KI:St:=.s 91 (.i .n)
noncomputable abbrev KJ:St:=.s 95 (.i (.c (.t (.c (.l (.str "")) (.c (.l (.int 1)) .n))) .n))
abbrev KK:St:=.l [65] (.r (.c (.f .max (.c (.p (.f .len (.c (.v 3) .n)) (.c [3] (.e (.v 52)) .n .n)) .n)) .n)) ug
noncomputable abbrev Ji:St:=.u [85,86] (.c 24 (.c (.b .Sub (.b .Mult (.v 64) (.b .Pow (.v 94) (.b .Sub (.v 79) (.v 92)))) (.v 88)) (.c (.v 93) .n)))
noncomputable abbrev Jj:St:=.s 87 (.p (.f .sum (.c (.p (.v 89) (.c [90,89] (.e (.v 91)) (.c (.q .Eq (.v 90) (.b .Sub (.b .Sub (.v 79) (.b .Mult (.l (.int 2)) (.v 92))) (.v 63))) .n) .n)) .n)) (.c [63] (.r (.c (.b .Add (.b .Sub (.v 79) (.b .Mult (.l (.int 2)) (.v 92))) (.l (.int 1))) .n)) .n .n))
noncomputable abbrev Jk:St:=.r (.q .Eq (.t (.c (.v 86) (.c (.c 26 (.c (.s (.v 81) (.l (.int 1))) (.c (.v 84) .n))) (.c (.c 30 (.c (.v 85) (.c (.v 84) .n))) .n)))) (.t (.c (.l (.int 0)) (.c (.v 88) (.c (.v 87) .n)))))
abbrev Hm:oK:=.c LQ (.c MH (.c LS (.c MI (.c LU (.c LW (.c LY (.c L0 (.c L4 (.c L6 (.c Jg (.c Jh (.c KI (.c KJ (.c KK (.c Ji (.c Jj (.c Jk .n)))))))))))))))))
def df:Fn:=⟨[47,62,64,84,52,68],[],Hm⟩
noncomputable abbrev Mc:St:=.s 79 (.f .max (.c (.p (.f .len (.c (.v 3) .n)) (.c [3] (.e (.v 52)) .n .n)) .n))
noncomputable abbrev Me:St:=.s 105 (.b .Pow (.b .Add (.v 58) (.v 59)) (.v 79))
noncomputable abbrev Le:St:=.s 107 (.p (.b .Mult (.b .Mult (.b .Pow (.v 58) (.m .count (.v 3) (.c (.s (.v 62) (.l (.int 0))) .n))) (.b .Pow (.v 59) (.m .count (.v 3) (.c (.s (.v 62) (.l (.int 1))) .n)))) (.b .Pow (.b .Add (.v 58) (.v 59)) (.b .Sub (.v 79) (.f .len (.c (.v 3) .n))))) (.c [3] (.e (.v 52)) .n .n))
noncomputable abbrev Lf:St:=.s 106 (.f .sum (.c (.p (.b .Mult (.f .len (.c (.v 3) .n)) (.v 102)) (.c [3,102] (.zip (.c (.v 52) (.c (.v 107) .n))) .n .n)) .n))
noncomputable abbrev Mh:St:=.tryE (.c (.s 81 (.i (.c (.c 31 (.c (.f .sum (.c (.v 107) .n)) (.c (.v 105) .n))) (.c (.c 31 (.c (.v 106) (.c (.v 105) .n))) (.c (.c 31 (.c (.b .Add (.v 106) (.v 104)) (.c (.v 105) .n))) (.c (.c 31 (.c (.b .Sub (.n (.v 106)) (.v 104)) (.c (.v 105) .n))) .n)))))) .n)
noncomputable abbrev Mu:St:=.r (.o .And (.c (.q .NotEq (.v 105) (.l (.int 0))) (.c (.q .Eq (.v 81) (.i (.c (.t (.c (.l (.int 1)) (.c (.l (.int 0)) .n))) (.c (.t (.c (.v 64) (.c (.l (.int 0)) .n))) (.c (.t (.c (.b .Add (.v 64) (.b .FloorDiv (.v 104) (.v 105))) (.c (.b .Mod (.v 104) (.v 105)) .n))) (.c (.t (.c (.b .Add (.n (.v 64)) (.b .FloorDiv (.n (.v 104)) (.v 105))) (.c (.b .Mod (.n (.v 104)) (.v 105)) .n))) .n)))))) .n)))
abbrev K7:oK:=.c Mc (.c Me (.c Le (.c Lf (.c Mh (.c Mu .n)))))
def dF:Fn:=⟨[62,64,52,58,59,104],[],K7⟩
noncomputable abbrev LK:St:=.s 109 (.p (.b .Mod (.b .Add (.v 94) (.f .sum (.c (.a (.v 112) (.y (.v 63)) (.y (.l (.int 60))) (.y (.l (.int 5)))) .n))) (.b .Pow (.l (.int 10)) (.l (.int 9)))) (.c [63,94] (.enum (.i (.c (.l (.int 176)) (.c (.l (.int 2)) (.c (.l (.int 2)) (.c (.l (.int 18)) (.c (.l (.int 62)) .n))))))) .n .n))
noncomputable abbrev LL:St:=.s 47 (.b .Mod (.s (.v 109) (.l (.int 0))) (.l (.int 5)))
noncomputable abbrev LM : St := .s 110 (.i (.c (.l (.str "&")) (.c (.l (.str "<")) (.c (.l (.str ">")) (.c (.l (.str "\"")) (.c (.l (.str "\r")) (.c (.l (.str "\n")) (.c (.l (.str "\t")) (.c (.f .chr (.c (.b .Add (.l (.int 192)) (.b .Mod (.b .FloorDiv (.s (.v 109) (.l (.int 0))) (.l (.int 280))) (.l (.int 55000)))) .n)) .n)))))))))
noncomputable abbrev LN:St:=.s 111 (.b .Mod (.b .FloorDiv (.s (.v 109) (.l (.int 0))) (.l (.int 5))) (.l (.int 8)))
noncomputable abbrev LO:St:=.s 62 (.b .Add (.s (.v 110) (.v 111)) (.s (.v 110) (.b .Mod (.b .Add (.b .Add (.v 111) (.l (.int 1))) (.b .Mod (.b .FloorDiv (.s (.v 109) (.l (.int 0))) (.l (.int 40))) (.l (.int 7)))) (.l (.int 8)))))
noncomputable abbrev LP:St:=.s 64 (.b .Add (.l (.int 1)) (.b .Mod (.s (.v 109) (.l (.int 1))) (.l (.int 4))))
noncomputable abbrev KB:St:=.s 52 (.c 51 (.c (.v 62) (.c (.v 64) (.c (.p (.b .Mod (.b .FloorDiv (.s (.v 109) (.l (.int 2))) (.b .Pow (.l (.int 8)) (.v 63))) (.l (.int 8))) (.c [63] (.r (.c (.l (.int 3)) .n)) .n .n)) .n))))
noncomputable abbrev KD:St:=.s 68 (.p (.c 46 (.c (.v 47) (.c (.v 3) .n))) (.c [3] (.e (.v 52)) .n .n))
noncomputable abbrev KE:St:=.i (.q .NotEq (.v 68) (.p (.c 48 (.c (.v 47) (.c (.v 3) .n))) (.c [3] (.e (.v 52)) .n .n))) (.c (.r (.l (.bool false))) .n) .n
noncomputable abbrev KF:St:=.s 67 (.m .join (.l (.str "")) (.c (.p (.s (.v 62) (.b .Mod (.b .FloorDiv (.b .FloorDiv (.s (.v 109) (.l (.int 3))) (.l (.int 4))) (.b .Pow (.l (.int 2)) (.v 63))) (.l (.int 2)))) (.c [63] (.r (.c (.b .Add (.l (.int 1)) (.b .Mod (.s (.v 109) (.l (.int 3))) (.l (.int 4)))) .n)) .n .n)) .n))
noncomputable abbrev Hj:St:=.i (.q .NotEq (.c 66 (.c (.v 47) (.c (.v 52) (.c (.v 68) (.c (.v 67) .n))))) (.t (.c (.v 64) (.c (.l (.int 0)) .n)))) (.c (.r (.l (.bool false))) .n) .n
noncomputable abbrev Hk:St:=.i (.z (.c 83 (.c (.v 47) (.c (.v 62) (.c (.v 64) (.c (.b .Add (.l (.int 6)) (.b .Mod (.b .FloorDiv (.s (.v 109) (.l (.int 1))) (.l (.int 4))) (.l (.int 6)))) (.c (.v 52) (.c (.v 68) .n)))))))) (.c (.r (.l (.bool false))) .n) .n
noncomputable abbrev Hl:St:=.retZ 103 (.c (.v 62) (.c (.v 64) (.c (.v 52) (.c (.b .Sub (.b .Mod (.s (.v 109) (.l (.int 4))) (.l (.int 17))) (.l (.int 8))) (.c (.b .Sub (.b .Mod (.b .FloorDiv (.s (.v 109) (.l (.int 4))) (.l (.int 17))) (.l (.int 17))) (.l (.int 8))) (.c (.b .Add (.l (.int 1)) (.b .Mod (.b .FloorDiv (.s (.v 109) (.l (.int 4))) (.l (.int 289))) (.l (.int 50)))) .n))))))
abbrev Jf:oK:=.c LK (.c LL (.c LM (.c LN (.c LO (.c LP (.c KB (.c KD (.c KE (.c KF (.c Hj (.c Hk (.c Hl .n))))))))))))
def CL:Fn:=⟨[112],[],Jf⟩
def fR (c:List aG):List aG:=(c.flatMap fun x=>(List.range x.length).map fun k=>x.take k).foldl addC []
def eW (c:List aG):List aG:=(c.flatMap fun x=>(List.range x.length).map fun k=>x.drop (k+1)).foldl addC []
noncomputable def pD (l:List aG):List aG:=l.flatMap fun x=>[false,true].map fun s=>s::x
abbrev wB:=List (aG × Nat)
noncomputable def dE (d:Nat)(l:wB):wB:=l.filter fun p=>decide (p.2<d)
noncomputable def jt (d:Nat)(l:wB):wB:=l.map fun p=>(p.1,d-p.2)
noncomputable def lD (l:wB):wB:=l.flatMap fun p=>[false,true].map fun s=>(p.1++[s],p.2)
noncomputable def Db (c:List aG)(t:aG):Bool:=(List.range t.length).all fun k=>!c.contains (t.drop k)
def rQ (c:List aG)(l:wB):wB:=l.map fun p=>(p.1,p.2+if Db c p.1 then 1 else 0)
def Ko (d:Nat)(c:List aG)(l:wB):wB:=rQ c (lD (dE d l))
noncomputable def io (d:Nat)(c:List aG):Nat->wB
 |0=>[([],1)]
 |n+1=>Ko d c (io d c n)
noncomputable def il (d:Nat)(c:List aG):Nat->wB
 |0=>[]
 |n+1=>il d c n++jt d (dE d (io d c n))
noncomputable def lB (l:wB):List aG:=l.flatMap fun p=>List.replicate p.2 p.1
def Kn (d:Nat)(c:List aG):Bool:=
 (fR c++c).isPerm ([]::fL (fR c))&&(eW c++c).isPerm ([]::pD (eW c))&&(lB (il d c (ak c))++eW c).isPerm (List.replicate d []++fL (lB (il d c (ak c))))
def gI:List aG:=dI 1++dI 2++dI 3++dI 4
noncomputable def qu (R:Nat)(r:aG):aG:=(List.replicate (2*R+1) r).flatten
def dk (R:Nat)(r:aG)(p:Nat):aG:=((qu R r).drop p).take R
def mD (R:Nat)(r:aG)(p:Nat):aG:=((qu R r).drop (R*r.length+p-R)).take R
def yq (c:List aG)(R:Nat)(r:aG):List aG:=(List.range r.length).flatMap fun p=>c.filter fun x=>x.isPrefixOf (dk R r p)
def Hb (d:Nat)(c:List aG)(R:Nat)(r:aG):Bool:=((yq c R r).map fun x=>x.count false+64*x.count true).sum==d*(r.count false+64*r.count true)
def J1 (d:Nat)(c:List aG)(r:aG):Bool:=Hb d c (ak c) r
def Ha (d:Nat)(c:List aG):Bool:=decide (ak c<8)&&(List.range 8).all fun R=>!(R==ak c) || gI.all (Hb d c R)
def IE (d:Nat)(c:List aG):Bool:=
 ID c&&fb c&&(c.all fun x=>decide (x.length<=ak c))&&t9 List.length (ak c) c==(Be (ak c) []).map (fun k=>d*k)&&t9 (fun _=>1) (ak c) c==Be (ak c) [] &&
 c.all fun x=>c.all fun y=>x==y || (!x.isPrefixOf y&&!x.isSuffixOf y)
theorem Gm:([1,2,3,4].all fun d=>(o4 d).all (IE d))=true:=by decide +kernel
theorem IW:([1,2,3,4].all fun d=>(o4 d).all (Kn d))=true:=by decide +kernel
theorem Im:([1,2,3,4].all fun d=>(o4 d).all (Ha d))=true:=by decide +kernel
theorem Gc {d:Nat}{c:List aG}(h:Ha d c=true):gI.all (J1 d c)=true:=by obtain⟨a,b⟩:=bH h;have:=bQ b (ak c) (List.mem_range.mpr (bX a));rw[beq_self_eq_true]at this;exact this
theorem lR {l m:List α}(h:l.Perm m)(f:α->Nat):(l.map f).sum=(m.map f).sum:=(h.map f).sum_nat
theorem pV (f:aG->Nat):∀l:List aG,((fL l).map f).sum=(l.map fun p=>f (p++[false])+f (p++[true])).sum
 |[]=>rfl
 |p::l=>by show f (p++[false])+(f (p++[true])+((fL l).map f).sum)=_;rw[pV f l,fU,List.sum_cons,Nat.add_assoc]
theorem pF (f:aG->Nat):∀l:List aG,((pD l).map f).sum=(l.map fun p=>f (false::p)+f (true::p)).sum
 |[]=>rfl
 |p::l=>by show f (false::p)+(f (true::p)+((pD l).map f).sum)=_;rw[pF f l,fU,List.sum_cons,Nat.add_assoc]
theorem oF (f g:α->Nat)(k:Nat):∀l:List α,(∀x∈l,f x=g x*k)->(l.map f).sum=(l.map g).sum*k
 |[],_=>(Nat.zero_mul k).symm
 |x::l,h=>by rw[fU,List.sum_cons,fU,List.sum_cons,Nat.add_mul,h x (.head _),oF f g k l fun y m=>h y (.tail _ m)]
section
variable {B u v N:Nat}
noncomputable def qQ (B u v:Nat):Nat:=B^max u v-(B^(max u v-u)+B^(max u v-v))
def lT (B u v N:Nat)(l:List aG):Nat:=(l.map fun x=>B^(N-max u v-lw u v x)).sum
theorem tM (h:a+m<=N)(hn:n<=m):B^(N-(a+n))=B^(N-m-a)*B^(m-n):=by
 rw[<- Nat.pow_add]
 congr 1
 have h1:N-(a+n)=N-a-n:=Nat.sub_sub .. |>.symm;have h2:N-m-a=N-a-m:=Nat.sub_right_comm ..;rw[h1,h2,<- Nat.add_sub_assoc hn,Nat.sub_add_cancel (Nat.le_sub_of_add_le (Nat.add_comm a m▸h))]
theorem xQ {l c e:List aG}{ex:Bool->aG->aG}(hex:∀s x,lw u v (ex s x)=lw u v x+sl u v s)(hlow:B^(max u v-u)+B^(max u v-v)<=B^max u v)
  (hp:∀f:aG->Nat,(l.map f).sum+(c.map f).sum=(e.map f).sum+(l.map fun x=>f (ex false x)+f (ex true x)).sum) (hb:∀x∈l,lw u v x+max u v<=N) :
  (e.map fun x=>B^(N-lw u v x)).sum=lT B u v N l*qQ B u v+(c.map fun x=>B^(N-lw u v x)).sum:=by
 have a1:=oF (fun x=>B^(N-lw u v x)) (fun x=>B^(N-max u v-lw u v x)) (B^max u v) l fun x m=>tM (n:=0) (hb x m) (nv _);have a2:=oF (fun x=>B^(N-lw u v (ex false x))+B^(N-lw u v (ex true x))) (fun x=>B^(N-max u v-lw u v x)) (B^(max u v-u)+B^(max u v-v)) l fun x m=>by rw[hex,hex,Nat.mul_add];exact congr (congrArg _ (tM (hb x m) (Nat.le_max_left u v))) (tM (hb x m) (Nat.le_max_right u v))
 have h:=(congrArg (· + _) a1.symm).trans ((hp fun x=>B^(N-lw u v x)).trans (congrArg (_ + ·) a2));have hm:lT B u v N l*(B^max u v)=lT B u v N l*qQ B u v+lT B u v N l*(B^(max u v-u)+B^(max u v-v)):=by rw[<- Nat.mul_add];exact congrArg _ (Nat.sub_add_cancel hlow).symm
 have h:lT B u v N l*(B^max u v)+_=_+lT B u v N l*(B^(max u v-u)+B^(max u v-v)):=h;rw[hm,Nat.add_right_comm]at h;exact(Nat.add_right_cancel h).symm
theorem Kq {l c:List aG}{ex:Bool->aG->aG}(hex:∀s x,lw u v (ex s x)=lw u v x+sl u v s)(hB:0<B)
  (hp:∀f:aG->Nat,(l.map f).sum+(c.map f).sum=f []+(l.map fun x=>f (ex false x)+f (ex true x)).sum) :
  (c.map fun x=>B^lw u v x).sum=1+(l.map fun x=>B^lw u v x).sum*(B^u+B^v-1):=by
 have a2:=oF (fun x=>B^lw u v (ex false x)+B^lw u v (ex true x)) (fun x=>B^lw u v x) (B^u+B^v) l fun x m=>by rw[hex,hex,Nat.pow_add,Nat.pow_add,<- Nat.mul_add];rfl
 have h:=(hp fun x=>B^lw u v x).trans (congrArg (_ + ·) a2);have hA:1<=B^u+B^v:=az (Nat.pow_pos hB) (je _ _);generalize (l.map fun x=>B^lw u v x).sum=L at h ⊢;have hm:L*(B^u+B^v)=L*(B^u+B^v-1)+L:=by
  conv=>lhs;rw[<- Nat.sub_add_cancel hA]
  rw[Nat.mul_add,Nat.mul_one]
 have h:L+_=1+L*(B^u+B^v):=h;rw[hm,<- Nat.add_assoc,Nat.add_comm L]at h;exact Nat.add_right_cancel h
end
theorem mN (hn:0<n){L:aH}{K:Nat}(hL:L.length<2^n)(hK:∀e∈L,e<K+1)(ht:K∈L):cH n ((L.map fun e=>(2^n)^e).sum) (bV ((L.map fun e=>(2^n)^e).sum) n)=bI L (K+1):=by
 have e1:(L.map fun e=>(2^n)^e).sum=fD n (bI L (K+1)):=by rw[kX hK];congr 1;exact List.map_congr_left fun e _=>(Nat.pow_mul ..).symm
 have hlt:=yj (n:=n) (mI (K:=K+1) hL);have hlen:(bI L (K+1)).length=K+1:=(dq _).trans List.length_range;have hge:2^(n*K)<=fD n (bI L (K+1)):=by rw[<- e1,Nat.pow_mul];exact pN (List.mem_map.mpr ⟨K,ht,rfl⟩)
 have hd:bV (fD n (bI L (K+1))) n=K+1:=by
  rw[hlen]at hlt;have h1:ib ((fD n (bI L (K+1)):Nat):Int)<=n*(K+1):=ja hlt;have h2:n*K<ib ((fD n (bI L (K+1)):Nat):Int):=by
   rcases Nat.lt_or_ge (n*K) (ib ((fD n (bI L (K+1)):Nat):Int))with q|q
   .exact q
   .exact absurd (iu (vK (fD n (bI L (K+1)))) (Nat.pow_le_pow_right (by decide) q)) (Nat.not_lt.mpr hge)
  unfold bV;refine Nat.le_antisymm ?_ ?_
  .exact Nat.le_of_lt_succ ((Nat.div_lt_iff_lt_mul hn).mpr (iu (Nat.sub_lt (Nat.add_pos_right _ hn) Nat.one_pos) (az (Nat.add_le_add_right h1 n) (Nat.le_of_eq (by rw[Nat.mul_add n K 1,Nat.mul_one,Nat.succ_mul,Nat.succ_mul,Nat.mul_comm K])))))
  .exact(Nat.le_div_iff_mul_le hn).mpr (Nat.le_sub_of_add_le (az (Nat.le_of_eq (by rw[Nat.add_mul,Nat.one_mul,Nat.mul_comm K,Nat.add_right_comm])) (Nat.add_le_add_right h2 n)))
 rw[e1,hd];have:=uO (n:=n) (mI (L:=L) (K:=K+1) hL);rw[hlen]at this;exact this
end
section
def CW:aH->Nat
 |[]=>0
 |n::r=>m9 n r
theorem tA (h:m∈l):m<=CW l:=by
 cases l with
 |nil=>cases h
 |cons n r =>
  rcases bM h with rfl|h
  .exact(oz _ _).1
  .exact(oz _ _).2.1 m h
theorem pS (h:l≠[]):CW l∈l:=by
 cases l with
 |nil=>exact absurd rfl h
 |cons n r =>
  rcases(oz n r).2.2 with e|e
  .show m9 n r∈_;rw[e];exact dX
  .exact dP _ e
theorem Cg (h:l≠[]):pj .max [.list (l.map aa)]=some (aa (CW l)):=by
 cases l with
 |nil=>exact absurd rfl h
 |cons n r=>exact te n r
structure aK (d:Nat)(c:List aG):Prop where
 ne:c≠[]
 len:c.length<=20
 w0:∀x∈c,x≠[]
 w7:Bd 7 c
 nd:fb c=true
 bd:Bd (ak c) c
 mean:t9 List.length (ak c) c=(Be (ak c) []).map fun k=>d*k
 one:t9 (fun _=>1) (ak c) c=Be (ak c) []
 ap:∀x∈c,∀y∈c,x=y\/x.isPrefixOf y=false/\x.isSuffixOf y=false
 pre:(fR c++c).Perm ([]::fL (fR c))
 suf:(eW c++c).Perm ([]::pD (eW c))
 lck:(lB (il d c (ak c))++eW c).Perm (List.replicate d []++fL (lB (il d c (ak c))))
 ring:∀r∈gI,((yq c (ak c) r).map fun x=>x.count false+64*x.count true).sum=d*(r.count false+64*r.count true)
theorem Cr (h1:1<=d)(h4:d<=4)(hl:ns.length=3)(hn:∀n∈ns,n<8):aK d (lh d ns):=by
 have hm:lh d ns∈xw d 3:=by have:=vg (d:=d) (ns:=ns) (i:=0) (c:=dI d) (.head _) hn;rw[hl]at this;exact this
 have hc:lh d ns∈o4 d:=List.contains_iff_mem.mp (bQ (Fz H8 h1 h4) _ hm);have ga:=bQ (Fz Gm h1 h4) _ hc;have gb:=bQ (Fz IW h1 h4) _ hc;have gc:=Gc (bQ (Fz Im h1 h4) _ hc);generalize lh d ns=c at ga gb gc;obtain⟨ga,ap⟩:=bH ga;obtain⟨ga,one⟩:=bH ga;obtain⟨ga,mean⟩:=bH ga;obtain⟨ga,bd⟩:=bH ga;obtain⟨ga,nd⟩:=bH ga;obtain⟨ga,w⟩:=bH ga;obtain⟨ne,len⟩:=bH ga;obtain⟨gb,lck⟩:=bH gb;obtain⟨pre,suf⟩:=bH gb;have w':=fun x mx=>bH (bQ w x mx);exact⟨fun e=>(by rw[e]at ne;exact ff ne),bX len,fun x mx e=>(by have:=(w' x mx).1;rw[e]at this;exact ff this),fun x mx=>bX (w' x mx).2,nd,fun x mx=>bX (bQ bd x mx),eC mean,eC one,
  fun x mx y my=>(Bool.or_eq_true_iff.mp (bQ (bQ ap x mx) y my)).imp (fun h=>eC h) fun h=>⟨(Bool.not_eq_true' _).mp (bH h).1,(Bool.not_eq_true' _).mp (bH h).2⟩,
  List.isPerm_iff.mp pre,List.isPerm_iff.mp suf,List.isPerm_iff.mp lck,fun r mr=>eC (bQ gc r mr)⟩
section
variable {d:Nat}{c:List aG}
theorem pre_mem:p∈fR c↔∃x∈c,∃k,k<x.length/\p=x.take k:=by
 unfold fR;rw[mem_fold,List.mem_flatMap];refine⟨fun h=>?_,fun⟨x,mx,k,hk,e⟩=>.inr ⟨x,mx,List.mem_map.mpr ⟨k,List.mem_range.mpr hk,e.symm⟩⟩⟩;rcases h with h|⟨x,mx,h⟩
 .exact nomatch h
 .obtain⟨k,hk,e⟩:=gO h;exact⟨x,mx,k,List.mem_range.mp hk,e.symm⟩
theorem suf_mem:p∈eW c↔∃x∈c,∃k,k<x.length/\p=x.drop (k+1):=by
 unfold eW;rw[mem_fold,List.mem_flatMap];refine⟨fun h=>?_,fun⟨x,mx,k,hk,e⟩=>.inr ⟨x,mx,List.mem_map.mpr ⟨k,List.mem_range.mpr hk,e.symm⟩⟩⟩;rcases h with h|⟨x,mx,h⟩
 .exact nomatch h
 .obtain⟨k,hk,e⟩:=gO h;exact⟨x,mx,k,List.mem_range.mp hk,e.symm⟩
theorem pU (m:p∈l)(s:Bool):p++[s]∈fL l:=List.mem_flatMap.mpr ⟨p,m,List.mem_map.mpr ⟨s,by cases s;exact .head _;exact .tail _ (.head _),rfl⟩⟩
theorem Cs (m:p∈l)(s:Bool):s::p∈pD l:=List.mem_flatMap.mpr ⟨p,m,List.mem_map.mpr ⟨s,by cases s;exact .head _;exact .tail _ (.head _),rfl⟩⟩
variable {u v:Nat}
theorem xA (x y:aG):lw u v (x++y)=lw u v x+lw u v y:=by unfold lw;rw[List.map_append,List.sum_append]
theorem lF (s:Bool)(x:aG):lw u v (x++[s])=lw u v x+sl u v s:=(xA x [s]).trans (congrArg _ (Nat.add_zero _))
theorem j4 (s:Bool)(x:aG):lw u v (s::x)=lw u v x+sl u v s:=Nat.add_comm _ _
theorem wS:∃s,sl u v s=max u v:=by
 rcases Nat.le_total u v with h|h
 .exact⟨true,(Nat.max_eq_right h).symm⟩
 .exact⟨false,(Nat.max_eq_left h).symm⟩
def ic (u v:Nat)(c:List aG):Nat:=CW (c.map (lw u v))
theorem sk (m:x∈c):lw u v x<=ic u v c:=tA (List.mem_map.mpr ⟨x,m,rfl⟩)
theorem Il (m:p∈fR c):lw u v p<=ic u v c:=by
 obtain⟨x,mx,k,_,rfl⟩:=pre_mem.mp m;refine az ?_ (sk mx)
 conv=>rhs;rw[<- List.take_append_drop k x,xA]
 exact je _ _
theorem IP (m:p∈eW c):lw u v p<=ic u v c:=by
 obtain⟨x,mx,k,_,rfl⟩:=suf_mem.mp m;refine az ?_ (sk mx)
 conv=>rhs;rw[<- List.take_append_drop (k+1) x,xA]
 exact Nat.le_add_left _ _
theorem aK.pre_bd (G:aK d c):∀p∈fR c,lw u v p+max u v<=ic u v c:=fun p m=>by obtain⟨s,e⟩:=wS (u:=u) (v:=v);rw[<- e,<- lF];exact(dx (G.pre.mem_iff.mpr (.tail _ (pU m s)))).elim Il sk
theorem aK.suf_bd (G:aK d c):∀p∈eW c,lw u v p+max u v<=ic u v c:=fun p m=>by obtain⟨s,e⟩:=wS (u:=u) (v:=v);rw[<- e,<- j4];exact(dx (G.suf.mem_iff.mpr (.tail _ (Cs m s)))).elim IP sk
abbrev Bi (d:Nat)(c:List aG):List aG:=lB (il d c (ak c))
theorem aK.tl_bd (G:aK d c)(hm:0<max u v):∀p∈Bi d c,lw u v p+max u v<=ic u v c-max u v:=fun p m=>by
 obtain⟨s,e⟩:=wS (u:=u) (v:=v);have hne:(Bi d c).map (lw u v)≠[]:=fun q=>by rw[List.map_eq_nil_iff.mp q]at m;exact nomatch m
 obtain⟨t,mt,et⟩:=gO (pS hne);have hp:lw u v p<=lw u v t:=et▸tA (List.mem_map.mpr ⟨p,m,rfl⟩);refine az (Nat.add_le_add_right hp _) ?_;rw[<- e,<- lF,e];refine(dx (G.lck.mem_iff.mpr (kK _ (pU mt s)))).elim (fun q=>?_) fun q=>Nat.le_sub_of_add_le (G.suf_bd _ q);have:=tA (List.mem_map.mpr ⟨_,q,rfl⟩:lw u v (t++[s])∈(Bi d c).map (lw u v));rw[<- et,lF,e]at this;exact absurd this (Nat.not_le_of_gt (Nat.lt_add_of_pos_right hm))
variable {B:Nat}
theorem aK.quo_pre (G:aK d c)(hlow:B^(max u v-u)+B^(max u v-v)<=B^max u v):B^ic u v c=lT B u v (ic u v c) (fR c)*qQ B u v+(c.map fun x=>B^(ic u v c-lw u v x)).sum:=by have:=xQ (e:=[[]]) (ex:=fun s x=>x++[s]) lF hlow (fun f=>by have:=lR G.pre f;rw[List.map_append,List.sum_append,fU,List.sum_cons,pV]at this;exact this.trans (congrArg (· + _) (Nat.add_zero _).symm)) (G.pre_bd (u:=u) (v:=v)) (c:=c);exact(Nat.add_zero _).symm.trans this
theorem aK.quo_suf (G:aK d c)(hlow:B^(max u v-u)+B^(max u v-v)<=B^max u v):B^ic u v c=lT B u v (ic u v c) (eW c)*qQ B u v+(c.map fun x=>B^(ic u v c-lw u v x)).sum:=by have:=xQ (e:=[[]]) (ex:=fun s x=>s::x) j4 hlow (fun f=>by have:=lR G.suf f;rw[List.map_append,List.sum_append,fU,List.sum_cons,pF]at this;exact this.trans (congrArg (· + _) (Nat.add_zero _).symm)) (G.suf_bd (u:=u) (v:=v)) (c:=c);exact(Nat.add_zero _).symm.trans this
theorem aK.quo_same (G:aK d c)(hlow:B^(max u v-u)+B^(max u v-v)<B^max u v):lT B u v (ic u v c) (fR c)=lT B u v (ic u v c) (eW c):=
 Nat.eq_of_mul_eq_mul_right (Nat.sub_pos_of_lt hlow) (Nat.add_right_cancel ((G.quo_pre (gp hlow)).symm.trans (G.quo_suf (gp hlow))))
theorem aK.up_suf (G:aK d c)(hB:0<B):(c.map fun x=>B^lw u v x).sum=1+((eW c).map fun x=>B^lw u v x).sum*(B^u+B^v-1):=
 Kq (ex:=fun s x=>s::x) j4 hB fun f=>by have:=lR G.suf f;rw[List.map_append,List.sum_append,fU,List.sum_cons,pF]at this;exact this
theorem aK.quo_lck (G:aK d c)(hm:0<max u v)(hlow:B^(max u v-u)+B^(max u v-v)<B^max u v) :
  d*B^(ic u v c-max u v)=lT B u v (ic u v c-max u v) (Bi d c)*qQ B u v+lT B u v (ic u v c) (fR c):=by
 have:=xQ (e:=List.replicate d []) (ex:=fun s x=>x++[s]) lF (gp hlow) (fun f=>by have:=lR G.lck f;rw[List.map_append,List.sum_append,List.map_append,List.sum_append,pV]at this;exact this) (G.tl_bd hm) (c:=eW c);rw[G.quo_same hlow];refine Eq.trans ?_ this;rw[List.map_replicate,List.sum_replicate_nat];rfl
end
end
section
section
variable {d:Nat}{c:List aG}
theorem oR:∀{l:List aG},fb l=true->l.Nodup
 |[],_=>.nil
 |x::l,h=>by obtain⟨a,b⟩:=bH (show(!l.contains x&&fb l)=true from h);exact List.nodup_cons.mpr ⟨fun m=>by rw[List.contains_iff_mem.mpr m]at a;exact ff a,oR b⟩
theorem pw:∀{l:List α},l.Nodup->x∈l->(∀y∈l,p y=true↔y=x)->l.filter p=[x]
 |y::l,hn,m,h=>by
  obtain⟨h1,h2⟩:=List.nodup_cons.mp hn;by_cases c:p y=true
  .obtain rfl:=(h y (.head _)).mp c;rw[List.filter_cons,if_pos c];refine congrArg _ (List.filter_eq_nil_iff.mpr fun z mz q=>h1 ?_);exact((h z (.tail _ mz)).mp q)▸mz
  .rw[List.filter_cons,if_neg c];have m:x∈l:=(bM m).resolve_left fun e=>c ((h y (.head _)).mpr e.symm);exact pw h2 m fun z mz=>h z (.tail _ mz)
theorem aK.front (G:aK d c):∀g:aG,(∃x∈c,x <+: g)\/g∈fR c:=fun g=>by
 obtain⟨n,e⟩:∃n,g.length=n:=⟨_,rfl⟩
 induction n generalizing g with
 |zero =>
  obtain rfl:=List.length_eq_zero_iff.mp e;obtain⟨x,m⟩:=List.exists_mem_of_ne_nil c G.ne;exact .inr (pre_mem.mpr ⟨x,m,0,List.length_pos_iff.mpr (G.w0 x m),rfl⟩)
 |succ n ih =>
  rcases List.eq_nil_or_concat g with rfl|⟨y,s,rfl⟩
  .cases e
  .rw[List.concat_eq_append]at e ⊢;rw[lla]at e;rcases ih y (Nat.succ.inj e)with⟨x,m,h⟩|m
   .exact .inl ⟨x,m,h.trans (List.prefix_append _ _)⟩
   .exact(dx (G.pre.mem_iff.mpr (.tail _ (pU m s)))).elim .inr fun q=>.inl ⟨_,q,List.prefix_refl _⟩
theorem aK.word (G:aK d c)(hg:ak c<=g.length):∃x∈c,x <+: g:=(G.front g).resolve_right fun m=>by obtain⟨x,mx,k,hk,e⟩:=pre_mem.mp m;have:=congrArg List.length e;rw[List.length_take,Nat.min_eq_left (gp hk)]at this;exact absurd (az hg (Nat.le_of_eq this)) (Nat.not_le_of_gt (iu hk (G.bd x mx)))
theorem aK.only (G:aK d c)(mx:x∈c)(my:y∈c)(hx:x <+: g)(hy:y <+: g):y=x:=by
 rcases Nat.le_total x.length y.length with h|h
 .exact((G.ap x mx y my).resolve_right fun q=>by rw[List.isPrefixOf_iff_prefix.mpr (List.prefix_of_prefix_length_le hx hy h)]at q;exact ff q.1.symm).symm
 .exact(G.ap y my x mx).resolve_right fun q=>by rw[List.isPrefixOf_iff_prefix.mpr (List.prefix_of_prefix_length_le hy hx h)]at q;exact ff q.1.symm
theorem aK.onlyS (G:aK d c)(mx:x∈c)(my:y∈c)(hx:x <:+ g)(hy:y <:+ g):y=x:=by
 rcases Nat.le_total x.length y.length with h|h
 .exact((G.ap x mx y my).resolve_right fun q=>by rw[List.isSuffixOf_iff_suffix.mpr (List.suffix_of_suffix_length_le hx hy h)]at q;exact ff q.2.symm).symm
 .exact(G.ap y my x mx).resolve_right fun q=>by rw[List.isSuffixOf_iff_suffix.mpr (List.suffix_of_suffix_length_le hy hx h)]at q;exact ff q.2.symm
noncomputable def g7 (c:List aG)(g:aG):aG:=c.map fun x=>x.isPrefixOf g
def eL (c:List aG)(g:aG):Nat:=(g7 c g).idxOf true
noncomputable def ao (c:List aG)(i:Nat):aG:=c.getD i []
theorem aK.told (G:aK d c)(hg:ak c<=g.length):(g7 c g).count true=1/\eL c g<c.length/\ao c (eL c g)∈c/\ao c (eL c g) <+: g/\(c.filter fun x=>x.isPrefixOf g)=[ao c (eL c g)]:=by
 obtain⟨x,mx,hx⟩:=G.word hg;have f1:=pw (p:=fun x=>x.isPrefixOf g) (oR G.nd) mx fun y my=>⟨fun h=>G.only mx my hx (List.isPrefixOf_iff_prefix.mp h),fun e=>e▸List.isPrefixOf_iff_prefix.mpr hx⟩;have hlt:eL c g<(g7 c g).length:=List.idxOf_lt_length_iff.mpr (List.mem_map.mpr ⟨x,mx,List.isPrefixOf_iff_prefix.mpr hx⟩);have hlt':eL c g<c.length:=Nat.lt_of_lt_of_eq hlt (dq _);have hw:ao c (eL c g)=c[eL c g]:=by unfold ao;rw[List.getD_eq_getElem?_getD,List.getElem?_eq_getElem hlt'];rfl
 have hm:ao c (eL c g)∈c:=hw▸List.getElem_mem hlt';have hp:ao c (eL c g) <+: g:=by have:=List.getElem_idxOf hlt;have e:(c.map fun x=>x.isPrefixOf g)[eL c g]?=some true:=List.getElem?_eq_some_iff.mpr ⟨hlt,this⟩;rw[List.getElem?_map,List.getElem?_eq_getElem hlt']at e;rw[hw];exact List.isPrefixOf_iff_prefix.mp (aC e)
 refine⟨?_,hlt',hm,hp,by rw[f1,G.only mx hm hx hp]⟩;unfold g7;rw[List.count_eq_countP,List.countP_map,List.countP_eq_length_filter];have:c.filter ((fun b=>b==true) ∘ fun x=>x.isPrefixOf g)=c.filter fun x=>x.isPrefixOf g:=List.filter_congr fun x _=>by show(x.isPrefixOf g==true)=_;cases x.isPrefixOf g <;> rfl
 rw[this,f1];rfl
theorem aK.inj (G:aK d c)(hi:i<c.length)(hj:j<c.length)(h:ao c i=ao c j):i=j:=by unfold ao at h;rw[List.getD_eq_getElem?_getD,List.getD_eq_getElem?_getD,List.getElem?_eq_getElem hi,List.getElem?_eq_getElem hj]at h;exact(List.getElem_inj (oR G.nd)).mp (aC (congrArg some h))
theorem tP {r:aG}:∀{m i:Nat},i<m*r.length->((List.replicate m r).flatten)[i]?=r[i % r.length]?
 |0,i,h=>by rw[Nat.zero_mul]at h;exact absurd h (Nat.not_lt_zero i)
 |m+1,i,h=>by
  rw[List.replicate_succ,List.flatten_cons];by_cases c:i<r.length
  .rw[List.getElem?_append_left c,Nat.mod_eq_of_lt c]
  .have c:=Nat.le_of_not_lt c;rw[List.getElem?_append_right c,tP (Nat.sub_lt_left_of_lt_add c (by rw[Nat.add_mul,Nat.one_mul,Nat.add_comm]at h;exact h)),<- Nat.mod_eq_sub_mod c]
variable {R p:Nat}{r:aG}
theorem Ge:(qu R r).length=(2*R+1)*r.length:=by unfold qu;rw[List.length_flatten,List.map_replicate,List.sum_replicate_nat]
theorem HS (hR:1<=R)(hp:p<r.length){j:Nat}(hj:j<R):(dk R r p)[j]?=r[(p+j) % r.length]?:=by unfold dk;rw[List.getElem?_take_of_lt hj,List.getElem?_drop];refine tP (iu (Nat.add_lt_add hp hj) ?_);have h1:R<=2*R*r.length:=az (Nat.le_mul_of_pos_left R (by decide)) (Nat.le_mul_of_pos_right _ (Nat.zero_lt_of_lt hp));rw[Nat.add_mul,Nat.one_mul,Nat.add_comm];exact Nat.add_le_add_right h1 _
theorem Fx (hR:1<=R)(hp:p<r.length):(dk R r p).length=R:=by unfold dk;rw[List.length_take,List.length_drop,Ge];refine Nat.min_eq_left (Nat.le_sub_of_add_le ?_);have h1:R<=2*R*r.length:=az (Nat.le_mul_of_pos_left R (by decide)) (Nat.le_mul_of_pos_right _ (Nat.zero_lt_of_lt hp));rw[Nat.add_mul,Nat.one_mul];exact pW h1 (gp hp)
theorem Eg (hw:w<=R*n):(R*n+(p+w) % n-w+j) % n=(p+j) % n:=by
 have e:=Nat.mod_add_div (p+w) n;have h1:w<=R*n+(p+w) % n:=az hw (je _ _);have h2:R*n+(p+w) % n-w+n*((p+w) / n)=p+n*R:=by
  have:R*n+(p+w) % n-w+n*((p+w) / n)+w=p+n*R+w:=by rw[Nat.add_right_comm,Nat.sub_add_cancel h1,Nat.add_assoc,e,Nat.mul_comm R n,Nat.add_comm (n*R),Nat.add_right_comm]
  exact Nat.add_right_cancel this
 calc (R*n+(p+w) % n-w+j) % n=(R*n+(p+w) % n-w+j+n*((p+w) / n)) % n:=(Nat.add_mul_mod_self_left ..).symm
  _=(p+j+n*R) % n:=by rw[Nat.add_right_comm,h2,Nat.add_right_comm]
  _=(p+j) % n:=Nat.add_mul_mod_self_left ..
theorem ET {w:aG}(hR:1<=R)(hp:p<r.length)(hw:w.length<=R)(h:w <+: dk R r p):w <:+ mD R r ((p+w.length) % r.length):=by
 have hn:=Nat.zero_lt_of_lt hp;have hl:=Nat.mod_lt (p+w.length) hn;have hRn:R<=R*r.length:=Nat.le_mul_of_pos_right _ hn;refine⟨(mD R r ((p+w.length) % r.length)).take (R-w.length), ?_⟩;have hd:(mD R r ((p+w.length) % r.length)).drop (R-w.length)=w:=by
  refine List.ext_getElem? fun j=>?_;unfold mD;rw[List.getElem?_drop];by_cases c:j<w.length
  .have hj:R-w.length+j<R:=by
    have:=Nat.add_lt_add_left c (R-w.length)
    rwa [Nat.sub_add_cancel hw]at this
   have e1:R*r.length+(p+w.length) % r.length-R+(R-w.length+j)=R*r.length+(p+w.length) % r.length-w.length+j:=by rw[<- Nat.add_assoc,Nat.sub_add_sub_cancel (az hRn (je _ _)) hw]
   have e2:w[j]?=(dk R r p)[j]?:=by obtain⟨z,e⟩:=h;rw[<- e,List.getElem?_append_left c]
   rw[List.getElem?_take_of_lt hj,List.getElem?_drop,e1,e2,HS hR hp (iu c hw)];refine(tP ?_).trans (by rw[Eg (az hw hRn)]);refine iu (Nat.add_lt_add_left c _) ?_;rw[Nat.sub_add_cancel (az (az hw hRn) (je _ _)),Nat.add_mul,Nat.one_mul,Nat.mul_assoc];exact pW (Nat.le_mul_of_pos_left _ (by decide)) (gp hl)
  .rw[Ao (Nat.le_of_not_lt c),Ao];rw[List.length_take];refine az (Nat.min_le_left _ _) ?_;have:=Nat.add_le_add_left (Nat.le_of_not_lt c) (R-w.length)
   rwa [Nat.sub_add_cancel hw]at this
 conv=>lhs;rhs;rw[<- hd]
 exact List.take_append_drop _ _
end
end
section
section
variable {d:Nat}{c:List aG}{r:aG}{u v:Nat}
theorem xB:∀x:aG,lw u v x=x.count false*u+x.count true*v
 |[]=>by show 0=0*u+0*v;rw[Nat.zero_mul,Nat.zero_mul]
 |s::x=>by
  rw[j4,xB x];cases s
  .rw[List.count_cons_self,List.count_cons_of_ne (by decide),Nat.add_mul,Nat.one_mul,Nat.add_right_comm];rfl
  .rw[List.count_cons_self,List.count_cons_of_ne (by decide),Nat.add_mul,Nat.one_mul,<- Nat.add_assoc];rfl
def fN (c:List aG)(R:Nat)(r:aG):aH:=(List.range r.length).map fun p=>eL c (dk R r p)
theorem EU:(fN c R r).length=r.length:=(dq _).trans List.length_range
theorem HB (hp:p<r.length):(fN c R r)[p]?=some (eL c (dk R r p)):=by unfold fN;rw[List.getElem?_map,List.getElem?_range hp];rfl
theorem vW (h:r∈gI):1<=r.length/\r.length<=4:=
 bX (bQ (show(gI.all fun r=>decide (1<=r.length/\r.length<=4))=true by decide +kernel) r h)
theorem aK.reach1 (G:aK d c):1<=ak c/\ak c<=7:=by refine⟨?_,max_le (nv _) fun n m=>by obtain⟨x,mx,rfl⟩:=gO m;exact G.w7 x mx⟩;obtain⟨x,m⟩:=List.exists_mem_of_ne_nil c G.ne;exact az (List.length_pos_iff.mpr (G.w0 x m)) (G.bd x m)
theorem aK.beg_told (G:aK d c)(hp:p<r.length):(g7 c (dk (ak c) r p)).count true=1/\eL c (dk (ak c) r p)<c.length/\ao c (eL c (dk (ak c) r p))∈c/\ao c (eL c (dk (ak c) r p)) <+: dk (ak c) r p/\(c.filter fun x=>x.isPrefixOf (dk (ak c) r p))=[ao c (eL c (dk (ak c) r p))]:=
 G.told (Nat.le_of_eq (Fx G.reach1.1 hp).symm)
theorem aK.beg_mem (G:aK d c)(m:k∈fN c (ak c) r):k<c.length/\ao c k∈c:=by obtain⟨p,mp,rfl⟩:=gO m;have:=G.beg_told (List.mem_range.mp mp);exact⟨this.2.1,this.2.2.1⟩
theorem aK.beg_bef (G:aK d c)(hp:p<r.length)(m:k∈fN c (ak c) r) :
  (ao c k).isSuffixOf (mD (ak c) r ((p+(ao c (eL c (dk (ak c) r p))).length) % r.length))=decide (k=eL c (dk (ak c) r p)):=by
 obtain⟨_,hi,hw,hpre,_⟩:=G.beg_told hp;have hs:=ET G.reach1.1 hp (G.bd _ hw) hpre;by_cases e:k=eL c (dk (ak c) r p)
 .rw[eD e,e];exact List.isSuffixOf_iff_suffix.mpr hs
 .rw[fH e];refine(Bool.not_eq_true _).mp fun h=>e ?_;have hk:=G.beg_mem m;exact G.inj hk.1 hi (G.onlyS hw hk.2 hs (List.isSuffixOf_iff_suffix.mp h))
theorem aK.words_eq (G:aK d c):yq c (ak c) r=(fN c (ak c) r).map (ao c):=by
 have key:∀l:aH,(∀p∈l,p<r.length)->(l.flatMap fun p=>c.filter fun x=>x.isPrefixOf (dk (ak c) r p))=l.map fun p=>ao c (eL c (dk (ak c) r p)):=by
  intro l
  induction l with
  |nil=>intro _;rfl
  |cons p l ih =>
   intro h;rw[List.flatMap_cons,ih fun q m=>h q (.tail _ m),(G.beg_told (h p (.head _))).2.2.2.2];rfl
 refine(key _ fun p m=>List.mem_range.mp m).trans ?_;unfold fN;rw[fv];rfl
theorem zz (f g:Nat->Nat):∀l:aH,(l.map fun k=>f k+64*g k).sum=(l.map f).sum+64*(l.map g).sum
 |[]=>rfl
 |k::l=>by rw[fU,List.sum_cons,zz f g l,fU,List.sum_cons,fU,List.sum_cons,Nat.mul_add,Nat.add_add_add_comm]
theorem wk (f g:Nat->Nat)(u v:Nat):∀l:aH,(l.map fun k=>f k*u+g k*v).sum=(l.map f).sum*u+(l.map g).sum*v
 |[]=>by show 0=0*u+0*v;rw[Nat.zero_mul,Nat.zero_mul]
 |k::l=>by rw[fU,List.sum_cons,wk f g u v l,fU,List.sum_cons,fU,List.sum_cons,Nat.add_mul,Nat.add_mul,Nat.add_add_add_comm]
theorem D6:∀{l:aH},(∀k∈l,f k<=M)->(l.map f).sum<=l.length*M
 |[],_=>nv _
 |k::l,h=>by rw[fU,List.sum_cons,nR,Nat.succ_mul,Nat.add_comm];exact pW (D6 fun x m=>h x (.tail _ m)) (h k (.head _))
theorem Kp (h:a+64*b=x+64*y)(ha:a<64)(hx:x<64):a=x/\b=y:=by have h1:=congrArg (· % 64) h;have h2:=congrArg (· / 64) h;simp only[Nat.add_mul_mod_self_left,Nat.mod_eq_of_lt ha,Nat.mod_eq_of_lt hx]at h1;rw[h1]at h;exact⟨h1,Nat.eq_of_mul_eq_mul_left (by decide) (Nat.add_left_cancel h)⟩
theorem aK.ring_sum (G:aK d c)(hd:d<=4)(hr:r∈gI):((fN c (ak c) r).map fun k=>lw u v (ao c k)).sum=d*lw u v r:=by have h:=G.ring r hr;obtain⟨n1,n4⟩:=vW hr;rw[G.words_eq,fv]at h;have h:((fN c (ak c) r).map fun k=>(ao c k).count false+64*(ao c k).count true).sum=_:=h;rw[zz (fun k=>(ao c k).count false) (fun k=>(ao c k).count true),Nat.mul_add,Nat.mul_left_comm]at h;obtain⟨e1,e2⟩:=Kp h (fy (D6 (M:=7) fun k m=>az List.count_le_length (G.w7 _ (G.beg_mem m).2)) (by rw[EU];exact fy (wE 7 n4) (by decide))) (fy (Nat.mul_le_mul hd (az List.count_le_length n4)) (by decide));have e:(fN c (ak c) r).map (fun k=>lw u v (ao c k))=(fN c (ak c) r).map fun k=>(ao c k).count false*u+(ao c k).count true*v:=List.map_congr_left fun k _=>xB _;rw[e,wk (fun k=>(ao c k).count false) (fun k=>(ao c k).count true),e1,e2,xB r,Nat.mul_add,Nat.mul_assoc,Nat.mul_assoc]
end
end
section
theorem qK:∀{ws:List aG}{s:Nat},s<=e->nL g e s ws=true->s+(ws.map List.length).sum<=e
 |[],_,h,_=>h
 |w::ws,s,h,hw=>by
  have hw:(match i9 g w s e with|some k=>nL g e (k+w.length) ws|none=>false)=true:=hw;cases f:i9 g w s e with
  |none=>rw[f]at hw;exact ff hw
  |some k =>
   rw[f]at hw;have h1:=bX (bH (List.find?_some (p:=fun k=>decide (k+w.length<=e)&&((g.drop k).take w.length==w)) f)).1;have h2:=(List.mem_range'_1.mp (List.mem_of_find?_eq_some f)).1;have:=qK h1 hw;rw[fU,List.sum_cons,<- Nat.add_assoc];exact az (Nat.add_le_add_right (Nat.add_le_add_right h2 _) _) this
theorem py (h:s+w.length<=e)(hw:(g.drop s).take w.length=w):i9 g w s e=some s:=by unfold i9;rw[Nat.sub_add_comm (az (je s _) h),List.range'_succ,List.find?_cons,eD h,hw,beq_self_eq_true];rfl
variable {a b c:aG}
theorem DU (a b:aG):mQ a [] b (a++b)=true:=by unfold mQ;rw[List.isPrefixOf_iff_prefix.mpr (List.prefix_append a b),List.isSuffixOf_iff_suffix.mpr (List.suffix_append a b),eD (Nat.le_of_eq lla.symm)];rfl
theorem iU (h:g.length<p.length+(ms.map List.length).sum+q.length):mQ p ms q g=false:=by refine(Bool.not_eq_true _).mp fun e=>?_;obtain⟨e,e4⟩:=bH e;have e3:=bX (bH e).2;have:=Nat.add_le_of_le_sub (az (Nat.le_add_left _ _) e3) (qK (Nat.le_sub_of_add_le e3) e4);exact absurd h (Nat.not_lt_of_le this)
theorem A0 (a b c:aG):mQ a [b,b] c (a++b++b++c)=true:=by
 unfold mQ;have hl:(a++b++b++c).length=a.length+b.length+b.length+c.length:=by rw[lla,lla,lla]
 rw[List.isPrefixOf_iff_prefix.mpr (by rw[List.append_assoc,List.append_assoc];exact List.prefix_append a _),List.isSuffixOf_iff_suffix.mpr (List.suffix_append _ c),eD (by rw[hl,Nat.add_assoc a.length];exact Nat.add_le_add_right (je _ _) _),hl,Nat.add_sub_cancel];show(match i9 _ b a.length (a.length+b.length+b.length)with|some k=>nL _ _ (k+b.length) [b]|none=>false)=true;rw[py (je _ _) (by rw[List.append_assoc,List.append_assoc,List.drop_left',List.take_left'] <;> rfl)];show(match i9 _ b (a.length+b.length) (a.length+b.length+b.length)with|some k=>true|none=>false)=true;rw[py (gC _) (by rw[List.append_assoc,List.drop_left' lla,List.take_left' rfl])]
end
section
variable {S:cL}{k cu cv:Nat}
abbrev nU (k cu cv:Nat)(E:List aG):D:=.list (E.map fun t=>an (ww k cu cv t))
theorem pu (hne:c≠[])(g52:ρ.get 52=some (cK cu cv c)):ev S ρ (.f .max (.c (.p (.f .len (.c (.v 3) .n)) (.c [3] (.e (.v 52)) .n .n)) .n))=some (aa (ak c)):=by
 have key:=ba (S:=S) (ρ:=ρ) (elt:=.f .len (.c (.v 3) .n)) (tg:=[3]) (src:=.e (.v 52)) (l:=c) (i:=fun x=>an (tw cu cv x)) (g:=fun x=>aa x.length) (bi (ab g52) rfl) fun x _=>⟨(ρ.del ([3]++[])).set 3 (an (tw cu cv x)),rfl,eb (ab am)⟩;refine en (ad key aj) ?_;cases c with
 |nil=>exact absurd rfl hne
 |cons x c =>
  have:=te x.length (c.map List.length);rw[rS]at this;have e:((x::c).map fun x=>aa x.length)=(x.length::c.map List.length).map aa:=by rw[fU,fU,fv];rfl
  rw[e,this];show some (aa ((c.map List.length).foldl max x.length))=some (aa ((c.map List.length).foldl max (max 0 x.length)));rw[Nat.zero_max]
theorem Ej (r:aG):∀m:Nat,(List.replicate m (tw cu cv r)).flatten=tw cu cv (List.replicate m r).flatten
 |0=>rfl
 |m+1=>by rw[List.replicate_succ,List.flatten_cons,List.replicate_succ,List.flatten_cons,Ej r m];exact(cB _ _ _ _).symm
theorem rF:∀{bs:aG},true∈bs->y5 (.bool true) (bs.map PyData.bool)=some (bs.idxOf true)
 |b::bs,h=>by
  cases b with
  |true=>rfl
  |false =>
   have h:true∈bs:=(bM h).resolve_left (fun e=>ff e.symm);show(y5 (.bool true) (bs.map PyData.bool)).map (· + 1)=_;rw[rF h,List.idxOf_cons];rfl
structure RingSt (k cu cv:Nat)(c:List aG)(r:aG)(ρ:aB):Prop where
 g47:ρ.get 47=some (aa k)
 g52:ρ.get 52=some (cK cu cv c)
 g68:ρ.get 68=some (nU k cu cv c)
 g67:ρ.get 67=some (an (tw cu cv r))
 g79:ρ.get 79=some (aa (ak c))
 g78:ρ.get 78=some (an (tw cu cv (qu (ak c) r)))
 nt:NT ρ
theorem RingSt.set (s:RingSt k cu cv c r ρ)(h:(Nat.beq n 47 || Nat.beq n 52 || Nat.beq n 68 || Nat.beq n 67 || Nat.beq n 79 || Nat.beq n 78)=false)(hd:a8 d=true):RingSt k cu cv c r (ρ.set n d):=by obtain⟨h,h6⟩:=Bool.or_eq_false_iff.mp h;obtain⟨h,h5⟩:=Bool.or_eq_false_iff.mp h;obtain⟨h,h4⟩:=Bool.or_eq_false_iff.mp h;obtain⟨h,h3⟩:=Bool.or_eq_false_iff.mp h;obtain⟨h1,h2⟩:=Bool.or_eq_false_iff.mp h;have K:∀{m:Nat},Nat.beq n m=false->m≠n:=fun h e=>Nat.ne_of_beq_eq_false h e.symm;exact⟨ae (K h1) s.g47,ae (K h2) s.g52,ae (K h3) s.g68,ae (K h4) s.g67,ae (K h5) s.g79,ae (K h6) s.g78,s.nt.set hd⟩
section
variable (F:Facts S)(Q:i5 k cu cv)(y:ji (wr k cu) (wr k cv)){d:Nat}{c:List aG}(G:aK d c){r:aG}
include F Q y G
theorem DE (hr:r.length<=4)(g67:ρ.get 67=some (an (tw cu cv r)))(g79:ρ.get 79=some (aa (ak c))):ex S ρ Ms=some (.n (ρ.set 78 (an (tw cu cv (qu (ak c) r))))):=by have r7:=G.reach1.2;have:=Fr (S:=S) (ρ:=ρ) (ab g67) (ag (ag (aq (d:=aa 2)) (ab g79) (gj (a:=2) (by decide) (fy r7 (by decide)))) (aq (d:=aa 1)) (bS _ _)) (az (Nat.succ_le_succ (Nat.mul_le_mul_left 2 r7)) (by decide)) (by rw[kW];exact az hr (by decide));rw[Ej]at this;exact aA this
theorem DC (s:RingSt k cu cv c r ρ)(hp:p<r.length)(g70:ρ.get 70=some (aa p)):ex S ρ KX=some (.n (ρ.set 82 (an (ww k cu cv (dk (ak c) r p))))):=by have e:=fY (S:=S) (ρ:=ρ) (a:=.v 78) (x:=an (tw cu cv (qu (ak c) r))) (ab s.g78) (dM (ab g70)) (dM (ag (ab g70) (ab s.g79) (bS _ _))) eN DX;rw[Nat.add_sub_cancel_left]at e;exact aA (aT (ad (ab s.g47) (ad e aj)) (Q.written F (az (List.length_take_le _ _) (az G.reach1.2 (by decide)))))
theorem AV (s:RingSt k cu cv c r ρ)(g82:ρ.get 82=some (an (ww k cu cv g))):ex S ρ KY=some (.n (ρ.set 81 (.list ((g7 c g).map PyData.bool)))):=by
 have key:=ba (S:=S) (ρ:=ρ) (elt:=.c 32 (.c (.b .Add (.v 41) (.l (.str "..."))) (.c (.v 82) .n))) (tg:=[41]) (src:=.e (.v 68)) (l:=c) (i:=fun x=>an (ww k cu cv x)) (g:=fun x=>.bool (x.isPrefixOf g)) (bi (ab s.g68) rfl) fun x m=>by
  refine⟨(ρ.del ([41]++[])).set 41 (an (ww k cu cv x)),rfl, ?_⟩;have hx:=G.w7 x m;have e:bR [ww k cu cv x,ww k cu cv []]=ww k cu cv x++D3:=by show ww k cu cv x++[46,46,46]++[]=_;rw[List.append_nil]
  have:=jX (S:=S) (ρ:=(ρ.del ([41]++[])).set 41 (an (ww k cu cv x))) (ab (n:=41) am) H9 (az (Nat.add_le_add_right (Q.len6 (az hx (by decide))) 3) (by decide));rw[<- e]at this;have ask:=Q.dots F y (p:=x) (ms:=[]) (q:=[]) (g:=g) (az hx (by decide)) (nv _) (fun z m=>nomatch m) (nv _);have er:mQ x [] [] g=x.isPrefixOf g:=by
   unfold mQ;cases q:x.isPrefixOf g with
   |false=>rfl
   |true=>rw[List.isSuffixOf_iff_suffix.mpr (List.nil_suffix),eD (p:=x.length+([]:aG).length<=g.length) (List.isPrefixOf_iff_prefix.mp q).length_le];rfl
  rw[er]at ask;exact aT (ad this (ad (ab (ae (by decide) (aU (by decide) g82))) aj)) ask
 have e:(c.map fun x=>PyData.bool (x.isPrefixOf g))=(g7 c g).map PyData.bool:=by unfold g7;rw[fv];rfl
 rw[e]at key;exact aA key
theorem DD (s:RingSt k cu cv c r ρ)(hp:p<r.length)(g81:ρ.get 81=some (.list ((g7 c (dk (ak c) r p)).map PyData.bool))):ex S ρ KZ=some (.n ρ):=by have h1:=(G.beg_told hp).1;rw[List.count_eq_countP]at h1;refine hG (bi (Ij g81) (bi (x:=false) (aL (y:=aa 1) (bi (ab g81) (bi (ad (aq (d:=.bool true)) aj) (Aw _))) rfl ?_) rfl)) rfl;rw[h1];rfl
theorem DB (s:RingSt k cu cv c r ρ)(hp:p<r.length)(g81:ρ.get 81=some (.list ((g7 c (dk (ak c) r p)).map PyData.bool)))(g69:ρ.get 69=some (.list (bs.map aa)))(hl:bs.length<=100) :
  ex S ρ K0=some (.n (ρ.set 69 (.list ((bs++[eL c (dk (ak c) r p)]).map aa)))):=by
 have ht:true∈g7 c (dk (ak c) r p):=List.count_pos_iff.mp ((G.beg_told hp).1▸Nat.one_pos);rw[List.map_append];refine yQ g69 (bi (ab g81) (bi (ad (aq (d:=.bool true)) aj) ?_)) (by rw[dq];exact fy hl (by decide));show(if eT 8 (.bool true)&&eT 8 (.list ((g7 c (dk (ak c) r p)).map PyData.bool))then(y5 (.bool true) ((g7 c (dk (ak c) r p)).map PyData.bool)).map (fun j:Nat=>PyData.int (j:Int))else none)=_;rw[mJ,rF ht];rfl
theorem qr:∀{ps:aH}{bs:aH}{ρ:aB},(∀p∈ps,p<r.length)->bs.length+ps.length<=100->RingSt k cu cv c r ρ->ρ.get 69=some (.list (bs.map aa)) ->
  ∃ρ',tj (fun d ρ'=>(bE ρ' [70] d).bind fun ρ''=>eK S ρ'' uh) (ps.map aa) ρ=some (.n ρ')/\RingSt k cu cv c r ρ'/\ρ'.get 69=some (.list ((bs++ps.map fun p=>eL c (dk (ak c) r p)).map aa))
 |[],bs,ρ,_,_,s,g69=>⟨ρ,rfl,s,by rw[List.map_nil,List.append_nil];exact g69⟩
 |p::ps,bs,ρ,h,hl,s,g69=>by have hp:=h p (.head _);have s1:=s.set (n:=70) (d:=aa p) rfl rfl;have s2:=s1.set (n:=82) (d:=an (ww k cu cv (dk (ak c) r p))) rfl rfl;have s3:=s2.set (n:=81) (d:=.list ((g7 c (dk (ak c) r p)).map PyData.bool)) rfl (Dh _);have s4:=s3.set (n:=69) (d:=.list ((bs++[eL c (dk (ak c) r p)]).map aa)) rfl (ku fun _ _=>rfl);have hl':bs.length+ps.length+1<=100:=hl;obtain⟨ρ',e1,e2,e3⟩:=qr (ps:=ps) (bs:=bs++[eL c (dk (ak c) r p)]) (fun q m=>h q (.tail _ m)) (by rw[lla,Nat.add_right_comm];exact hl') s4 am;refine⟨ρ', ?_,e2,by rw[List.append_assoc]at e3;exact e3⟩;rw[fU];refine gn ?_ e1;show eK S (ρ.set 70 (aa p)) uh=_;exact af (DC F Q y G s1 hp am) (af (AV F Q y G s2 am) (af (DD F Q y G s3 hp am) (af (DB F Q y G s3 hp am (ae (by decide) (ae (by decide) (ae (by decide) g69))) (az (je _ _) hl)) rfl)))
end
theorem pt (g:ρ.get n=some (.list xs))(h:ev S ρ e=some (aa i))(hx:xs[i]?=some d):ev S ρ (.oget n e)=some d:=li g (bi h (jN hx))
theorem wy (h:i<c.length)(f:aG->D):(c.map f)[i]?=some (f (ao c i)):=by rw[List.getElem?_map,List.getElem?_eq_getElem h];unfold ao;rw[List.getD_eq_getElem?_getD,List.getElem?_eq_getElem h];rfl
def ld (c:List aG)(line:aH):aG:=(line.map (ao c)).flatten
abbrev Lg:=Nat × aH × Nat × aH
abbrev zN (k cu cv:Nat)(c:List aG)(a:Lg):aH:=bR (ww k cu cv (ao c a.1)::((a.2.1.map (ao c)).map (ww k cu cv)++[ww k cu cv (ao c a.2.2.1)]))
noncomputable abbrev k9 (t a z:Nat):List Lg:=[(t,[],a,[t,a]),(t,[],a,[t]),(t,[],a,[a]),(t,[a,a],z,[t,a,a,z]),(t,[a,a],z,[t,a,z]),(t,[a,a],z,[t,z])]
def kc (c:List aG)(a:Lg):Bool:=mQ (ao c a.1) (a.2.1.map (ao c)) (ao c a.2.2.1) (ld c a.2.2.2)
theorem EI (ht:ao c t≠[])(ha:ao c a≠[]):(k9 t a z).map (kc c)=[true,false,false,true,false,false]:=by
 have ht:=List.length_pos_iff.mpr ht;have ha:=List.length_pos_iff.mpr ha;have c1:∀i,ld c [i]=ao c i:=fun i=>List.append_nil _;have c2:∀i j,ld c [i,j]=ao c i++ao c j:=fun i j=>congrArg _ (List.append_nil _);have c3:∀i j l,ld c [i,j,l]=ao c i++ao c j++ao c l:=fun i j l=>(congrArg _ (c2 j l)).trans (List.append_assoc ..).symm;have c4:ld c [t,a,a,z]=ao c t++ao c a++ao c a++ao c z:=by show ao c t++ld c [a,a,z]=_;rw[c3,List.append_assoc,List.append_assoc,List.append_assoc]
 have e1:kc c (t,[],a,[t,a])=true:=by unfold kc;rw[c2];exact DU _ _
 have e2:kc c (t,[],a,[t])=false:=by unfold kc;rw[c1];exact iU (Nat.lt_add_of_pos_right ha)
 have e3:kc c (t,[],a,[a])=false:=by unfold kc;rw[c1];exact iU (Nat.lt_add_of_pos_left ht)
 have e4:kc c (t,[a,a],z,[t,a,a,z])=true:=by unfold kc;rw[c4];exact A0 _ _ _
 have e5:kc c (t,[a,a],z,[t,a,z])=false:=by unfold kc;rw[c3];refine iU ?_;rw[lla,lla];exact Nat.add_lt_add_right (Nat.add_lt_add_left (Nat.lt_add_of_pos_right ha) _) _
 have e6:kc c (t,[a,a],z,[t,z])=false:=by unfold kc;rw[c2];refine iU ?_;rw[lla];exact Nat.add_lt_add_right (Nat.lt_add_of_pos_right (Nat.add_pos_left ha _)) _
 show[_,_,_,_,_,_]=_;rw[e1,e2,e3,e4,e5,e6]
structure kC (k cu cv:Nat)(c:List aG)(r:aG)(t l a z:Nat)(ρ:aB):Prop extends RingSt k cu cv c r ρ where
 g72:ρ.get 72=some (aa t)
 g80:ρ.get 80=some (aa l)
 g71:ρ.get 71=some (aa a)
 g75:ρ.get 75=some (aa z)
 g69:ρ.get 69=some (.list ((fN c (ak c) r).map aa))
 lt:t<c.length
 la:a<c.length
 lz:z<c.length
section
variable (F:Facts S)(Q:i5 k cu cv)(y:ji (wr k cu) (wr k cv)){d:Nat}{c:List aG}(G:aK d c){r:aG}
include F Q y G
theorem gS (g68:ρ.get 68=some (nU k cu cv c))(g:ρ.get n=some (aa i))(h:i<c.length):ev S ρ (.s (.v 68) (.v n))=some (an (ww k cu cv (ao c i))):=fu (ab g68) (ab g) (jN (wy h _))
theorem yP (s:RingSt k cu cv c r ρ)(hn:0<r.length)(ga:ρ.get a=some (aa p))(gb:ρ.get b=some (aa i))(h:i<c.length) :
  ev S ρ (.b .Mod (.b .Add (.v a) (.f .len (.c (.s (.v 52) (.v b)) .n))) (.f .len (.c (.v 67) .n)))=some (aa ((p+(ao c i).length) % r.length)) :=
 ag (ag (ab ga) (eb (fu (ab s.g52) (ab gb) (jN (wy h _)))) (bS _ _)) (eb (ab s.g67)) (cD hn)
theorem vV (s:RingSt k cu cv c r ρ)(hr:r.length<=4)(hl:l<r.length)(g80:ρ.get 80=some (aa l)):ex S ρ K1=some (.n (ρ.set 77 (an (ww k cu cv (mD (ak c) r l))))):=by obtain⟨r1,r7⟩:=G.reach1;have hRn:ak c<=ak c*r.length:=Nat.le_mul_of_pos_right _ (Nat.zero_lt_of_lt hl);have hm:=ag (S:=S) (ρ:=ρ) (ag (ab s.g79) (eb (ab s.g67)) (gj (fy r7 (by decide)) (fy hr (by decide)))) (ab g80) (bS _ _);have e:=fY (S:=S) (ρ:=ρ) (a:=.v 78) (x:=an (tw cu cv (qu (ak c) r))) (ab s.g78) (dM (ag hm (ab s.g79) (aQ (az hRn (je _ _))))) (dM hm) eN DX;rw[Nat.sub_sub_self (az hRn (je _ _))]at e;exact aA (aT (ad (ab s.g47) (ad e aj)) (Q.written F (az (List.length_take_le _ _) (az r7 (by decide)))))
theorem AT (s:RingSt k cu cv c r ρ)(hp:p<r.length)(ht:t=eL c (dk (ak c) r p))(g72:ρ.get 72=some (aa t))(g69:ρ.get 69=some (.list ((fN c (ak c) r).map aa)))
  (g77:ρ.get 77=some (an (ww k cu cv (mD (ak c) r ((p+(ao c t).length) % r.length))))):ex S ρ K2=some (.n ρ):=by
 have k1:=ba (S:=S) (ρ:=ρ) (elt:=.c 32 (.c (.b .Add (.l (.str "...")) (.s (.v 68) (.v 63))) (.c (.v 77) .n))) (tg:=[63]) (src:=.own 69) (l:=fN c (ak c) r) (i:=aa) (g:=fun j=>.bool (decide (j=t))) (li g69 rfl) fun j m=>by
  refine⟨(ρ.del ([63]++[])).set 63 (aa j),rfl, ?_⟩;obtain⟨hj,hw⟩:=G.beg_mem m;have h7:=G.w7 _ hw;have e:bR [ww k cu cv [],ww k cu cv (ao c j)]=D3++ww k cu cv (ao c j):=rfl;have:=jX (S:=S) (ρ:=(ρ.del ([63]++[])).set 63 (aa j)) H9 (gS F Q y G (ae (by decide) (aU (by decide) s.g68)) am hj) (az (Nat.add_le_add_left (Q.len6 (az h7 (by decide))) 3) (by decide));rw[<- e]at this;have ask:=Q.dots F y (p:=[]) (ms:=[]) (q:=ao c j) (g:=mD (ak c) r ((p+(ao c t).length) % r.length)) (nv _) (az h7 (by decide)) (fun z m=>nomatch m) (nv _);have er:mQ [] [] (ao c j) (mD (ak c) r ((p+(ao c t).length) % r.length))=decide (j=t):=by
   have hb:=G.beg_bef hp m;rw[<- ht]at hb;rw[<- hb];unfold mQ;cases q:(ao c j).isSuffixOf (mD (ak c) r ((p+(ao c t).length) % r.length))with
   |false=>rw[Bool.and_false];rfl
   |true=>rw[List.isPrefixOf_iff_prefix.mpr List.nil_prefix,eD (p:=([]:aG).length+(ao c j).length<=_) ((Nat.zero_add _).symm▸(List.isSuffixOf_iff_suffix.mp q).length_le)];rfl
  rw[er]at ask;exact aT (ad this (ad (ab (ae (by decide) (aU (by decide) g77))) aj)) ask
 have k2:=ba (S:=S) (ρ:=ρ) (elt:=.q .Eq (.v 63) (.v 72)) (tg:=[63]) (src:=.own 69) (l:=fN c (ak c) r) (i:=aa) (g:=fun j=>.bool (decide (j=t))) (li g69 rfl) fun j m =>
  ⟨(ρ.del ([63]++[])).set 63 (aa j),rfl,bi (ab am) (bi (ab (ae (by decide) (aU (by decide) g72))) (ln _ _))⟩
 have e:((fN c (ak c) r).map fun j=>PyData.bool (decide (j=t)))=((fN c (ak c) r).map fun j=>decide (j=t)).map PyData.bool:=by rw[fv];rfl
 rw[e]at k1 k2;exact hG (aL k1 k2 (qw _)) rfl
theorem xT (s:kC k cu cv c r t l a z ρ):ex S ρ K3=some (.n (ρ.set 73 (.list ((k9 t a z).map fun q=>an (ww k cu cv (ld c q.2.2.2)))))):=by
 have hl:∀line∈(k9 t a z).map (fun q=>q.2.2.2),line.length<=4/\∀j∈line,j<c.length:=by have h:=s.lt;have h':=s.la;have h'':=s.lz;intro line m;simp only[k9,fU,List.map_nil,List.mem_cons,List.not_mem_nil,or_false]at m;rcases m with rfl|rfl|rfl|rfl|rfl|rfl <;> refine⟨j6 rfl,fun j mj=>?_⟩ <;> simp only[List.mem_cons,List.not_mem_nil,or_false]at mj <;> rcases mj with rfl|rfl|rfl|rfl <;> assumption
 have l2:∀{ρ:aB}{es:Es}{ds:List D},kI S ρ es=some ds->ds.length<=4->ev S ρ (.i es)=some (.list ds):=fun h hl=>dj h (az hl (by decide));have vt:=ab (S:=S) s.g72;have va:=ab (S:=S) s.g71;have vz:=ab (S:=S) s.g75;have key:=ba (S:=S) (ρ:=ρ) (elt:=.m .join (.l (.str "")) (.c (.p (.s (.v 68) (.v 63)) (.c [63] (.e (.v 76)) .n .n)) .n)) (tg:=[76]) (src:=.e (.i (.c (.i (.c (.v 72) (.c (.v 71) .n))) (.c (.i (.c (.v 72) .n)) (.c (.i (.c (.v 71) .n)) (.c (.i (.c (.v 72) (.c (.v 71) (.c (.v 71) (.c (.v 75) .n))))) (.c (.i (.c (.v 72) (.c (.v 71) (.c (.v 75) .n)))) (.c (.i (.c (.v 72) (.c (.v 75) .n))) .n))))))))
  (l:=(k9 t a z).map fun q=>q.2.2.2) (i:=fun line=>.list (line.map aa)) (g:=fun line=>an (ww k cu cv (ld c line)))
  (bi (dj (ad (l2 (ad vt (ad va aj)) (j6 rfl)) (ad (l2 (ad vt aj) (j6 rfl)) (ad (l2 (ad va aj) (j6 rfl)) (ad (l2 (ad vt (ad va (ad va (ad vz aj)))) (j6 rfl)) (ad (l2 (ad vt (ad va (ad vz aj))) (j6 rfl)) (ad (l2 (ad vt (ad vz aj)) (j6 rfl)) aj)))))) (j6 rfl)) rfl) fun line m=>by
  refine⟨(ρ.del ([76]++[])).set 76 (.list (line.map aa)),rfl, ?_⟩;obtain⟨h4,hj⟩:=hl line m;have k2:=ba (S:=S) (ρ:=(ρ.del ([76]++[])).set 76 (.list (line.map aa))) (elt:=.s (.v 68) (.v 63)) (tg:=[63]) (src:=.e (.v 76)) (l:=line) (i:=aa) (g:=fun j=>an (ww k cu cv (ao c j))) (bi (ab am) rfl) fun j mj =>
   ⟨(((ρ.del ([76]++[])).set 76 (.list (line.map aa))).del ([63]++[])).set 63 (aa j),rfl,gS F Q y G (ae (by decide) (aU (by decide) (ae (by decide) (aU (by decide) s.g68)))) am (hj j mj)⟩
  have e:(line.map fun j=>an (ww k cu cv (ao c j)))=(line.map fun j=>ww k cu cv (ao c j)).map an:=by rw[fv];rfl
  rw[e]at k2;have hw:∀j∈line,(ao c j).length<=7:=fun j mj=>by
   have:=List.getElem_mem (hj j mj);have e:ao c j=c[j]'(hj j mj):=by unfold ao;rw[List.getD_eq_getElem?_getD,List.getElem?_eq_getElem (hj j mj)];rfl
   rw[e];exact G.w7 _ this
  have:=u6 k2 (by rw[dq];exact az h4 (by decide)) fun p mp=>by obtain⟨j,mj,rfl⟩:=gO mp;exact⟨az (Q.len6 (az (hw j mj) (by decide))) (by decide),(Q.okw (az (hw j mj) (by decide))).2⟩
  rw[this];unfold ld;refine congrArg (fun x=>some (an x)) ?_;clear this e k2 hw hj h4 m
  induction line with
  |nil=>rfl
  |cons j line ih=>rw[fU,List.flatten_cons,fU,List.flatten_cons,ih];exact(cB _ _ _ _).symm
 rw[fv]at key;exact aA key
end
section
variable (F:Facts S)(Q:i5 k cu cv)(y:ji (wr k cu) (wr k cv)){d:Nat}{c:List aG}(G:aK d c){r:aG}
include F Q y G
theorem jP (h:i<c.length):ao c i∈c:=by
 have e:ao c i=c[i]:=by unfold ao;rw[List.getD_eq_getElem?_getD,List.getElem?_eq_getElem h];rfl
 rw[e];exact List.getElem_mem h
theorem xU (s:kC k cu cv c r t l a z ρ):ex S ρ K4=some (.n (ρ.set 74 (.list ((k9 t a z).map fun q=>an (zN k cu cv c q))))):=by
 have w6:∀{i:Nat},i<c.length->(ww k cu cv (ao c i)).length<=600:=fun h=>Q.len6 (az (G.w7 _ (jP F Q y G h)) (by decide));have one:=jX (S:=S) (ρ:=ρ) (jX (gS F Q y G s.g68 s.g72 s.lt) H9 (az (Nat.add_le_add_right (w6 s.lt) 3) (by decide))) (gS F Q y G s.g68 s.g71 s.la)
  (az (pW (az (Nat.le_of_eq lla) (Nat.add_le_add_right (w6 s.lt) 3)) (w6 s.la)) (by decide))
 have e1:ww k cu cv (ao c t)++D3++ww k cu cv (ao c a)=bR [ww k cu cv (ao c t),ww k cu cv (ao c a)]:=rfl;rw[e1]at one;have hl:∀j∈[t,a,a,z],j<c.length:=fun j m=>by have h:=s.lt;have h':=s.la;have h'':=s.lz;simp only[List.mem_cons,List.not_mem_nil,or_false]at m;rcases m with rfl|rfl|rfl|rfl <;> assumption
 have k2:=ba (S:=S) (ρ:=ρ) (elt:=.s (.v 68) (.v 63)) (tg:=[63]) (src:=.e (.i (.c (.v 72) (.c (.v 71) (.c (.v 71) (.c (.v 75) .n)))))) (l:=[t,a,a,z]) (i:=aa) (g:=fun j=>an (ww k cu cv (ao c j)))
  (bi (dj (ad (ab s.g72) (ad (ab s.g71) (ad (ab s.g71) (ad (ab s.g75) aj)))) (j6 rfl)) rfl) fun j mj=>⟨(ρ.del ([63]++[])).set 63 (aa j),rfl,gS F Q y G (ae (by decide) (aU (by decide) s.g68)) am (hl j mj)⟩
 have e2:([t,a,a,z].map fun j=>an (ww k cu cv (ao c j)))=([t,a,a,z].map fun j=>ww k cu cv (ao c j)).map an:=by rw[fv];rfl
 rw[e2]at k2;have two:=Cf k2 (j6 rfl) fun p mp=>by obtain⟨j,mj,rfl⟩:=gO mp;exact⟨az (w6 (hl j mj)) (by decide),(Q.okw (az (G.w7 _ (jP F Q y G (hl j mj))) (by decide))).2⟩
 exact aA (sY (ta (n:=3) (dj (ad one aj) (j6 rfl)) (aq (d:=aa 3)) (j6 rfl) (j6 rfl)) (ta (n:=3) (dj (ad two aj) (j6 rfl)) (aq (d:=aa 3)) (j6 rfl) (j6 rfl)) (j6 rfl))
theorem DF (s:kC k cu cv c r t l a z ρ)(g73:ρ.get 73=some (.list ((k9 t a z).map fun q=>an (ww k cu cv (ld c q.2.2.2)))))(g74:ρ.get 74=some (.list ((k9 t a z).map fun q=>an (zN k cu cv c q)))):ex S ρ K5=some (.n ρ):=by
 have w7:∀{i:Nat},i<c.length->(ao c i).length<=150:=fun h=>az (G.w7 _ (jP F Q y G h)) (by decide);have src:=we (S:=S) (ρ:=ρ) (e1:=.v 74) (e2:=.v 73) (l:=k9 t a z) (f:=fun q=>an (zN k cu cv c q)) (g:=fun q=>an (ww k cu cv (ld c q.2.2.2))) s.nt (ab g74) (ab g73) rfl rfl;have key:=ba (S:=S) (ρ:=ρ) (elt:=.c 32 (.c (.v 38) (.c (.v 36) .n))) (tg:=[38,36]) (src:=.zip (.c (.v 74) (.c (.v 73) .n))) (l:=k9 t a z) (i:=fun q=>.tuple [an (zN k cu cv c q),an (ww k cu cv (ld c q.2.2.2))]) (g:=fun q=>.bool (kc c q)) src (fun q m=>by
  refine⟨((ρ.del ([38,36]++[])).set 38 (an (zN k cu cv c q))).set 36 (an (ww k cu cv (ld c q.2.2.2))),rfl, ?_⟩;have h:q.1<c.length/\q.2.2.1<c.length/\q.2.1.length<=2/\∀j∈q.2.1,j<c.length:=by have h:=s.lt;have h':=s.la;have h'':=s.lz;simp only[List.mem_cons,List.not_mem_nil,or_false]at m;rcases m with rfl|rfl|rfl|rfl|rfl|rfl <;> refine⟨h,by assumption,j6 rfl,fun j mj=>?_⟩ <;> simp only[List.mem_cons,List.not_mem_nil,or_false,or_self]at mj <;> subst mj <;> exact h'
  obtain⟨h1,h2,h3,h4⟩:=h;exact aT (ad (ab (ae (by decide) am)) (ad (ab am) aj)) (Q.dots F y (p:=ao c q.1) (ms:=q.2.1.map (ao c)) (q:=ao c q.2.2.1) (w7 h1) (w7 h2) (fun x mx=>by obtain⟨j,mj,rfl⟩:=gO mx;exact w7 (h4 j mj)) (by rw[dq];exact az h3 (by decide)))) (by rw[Bool.or_eq_true];exact .inr (ku fun _ _=>rfl))
 have e:((k9 t a z).map fun q=>PyData.bool (kc c q))=((k9 t a z).map (kc c)).map PyData.bool:=rfl;rw[e,EI (G.w0 _ (jP F Q y G s.lt)) (G.w0 _ (jP F Q y G s.la))]at key;exact hG (aL key (ta (n:=2) (dj (ad aq (ad aq (ad aq aj))) (j6 rfl)) (aq (d:=aa 2)) (j6 rfl) (j6 rfl)) (qw [true,false,false,true,false,false])) rfl
theorem AU (s:kC k cu cv c r t l a z ρ):ex S ρ K6=some (.n ρ):=by
 have e:(ao c t==ao c a)=decide (t=a):=by
  by_cases q:t=a
  .rw[q,beq_self_eq_true,eD rfl]
  .rw[fH q];exact beq_eq_false_iff_ne.mpr fun h=>q (G.inj s.lt s.la h)
 have k1:=aT (S:=S) (ad (gS F Q y G s.g68 s.g72 s.lt) (ad (gS F Q y G s.g68 s.g71 s.la) aj)) (Q.plain F);rw[e]at k1;refine hG (aL k1 (bi (ab s.g72) (bi (ab s.g71) (ln _ _))) ?_) rfl;show some (PyData.bool (!(decide (t=a)==decide (t=a))))=_;rw[beq_self_eq_true];rfl
theorem qt (hr:r.length<=4):∀{ps:aH}{ρ:aB},(∀p∈ps,p<r.length)->RingSt k cu cv c r ρ->ρ.get 69=some (.list ((fN c (ak c) r).map aa)) ->
  ∃ρ',tj (fun d ρ'=>(bE ρ' [70] d).bind fun ρ''=>eK S ρ'' ui) (ps.map aa) ρ=some (.n ρ')/\RingSt k cu cv c r ρ'/\ρ'.get 69=some (.list ((fN c (ak c) r).map aa))
 |[],ρ,_,s,g69=>⟨ρ,rfl,s,g69⟩
 |p::ps,ρ,h,s,g69=>by
  have hp:=h p (.head _);have hn:=Nat.zero_lt_of_lt hp;have jl:∀{q:Nat},q<r.length->((fN c (ak c) r).map aa)[q]?=some (aa (eL c (dk (ak c) r q))):=fun hq=>by rw[List.getElem?_map,HB hq];rfl
  have s0:=s.set (n:=70) (d:=aa p) rfl rfl;have ht:=(G.beg_told hp).2.1;generalize et:eL c (dk (ak c) r p)=t at ht;have a1:=jl hp;rw[et]at a1;have s1:=s0.set (n:=72) (d:=aa t) rfl rfl;have hl:=Nat.mod_lt (p+(ao c t).length) hn;have ek:=yP F Q y G (ρ:=(ρ.set 70 (aa p)).set 72 (aa t)) (a:=70) (b:=72) s1 hn (ae (by decide) am) am ht;generalize el:(p+(ao c t).length) % r.length=l at hl ek;have s2:=s1.set (n:=80) (d:=aa l) rfl rfl;have ha:=(G.beg_told hl).2.1;have a2:=jl hl;generalize ea:eL c (dk (ak c) r l)=a at ha a2;have s3:=s2.set (n:=71) (d:=aa a) rfl rfl;have hl2:=Nat.mod_lt (l+(ao c a).length) hn;have ek2:=yP F Q y G (ρ:=(((ρ.set 70 (aa p)).set 72 (aa t)).set 80 (aa l)).set 71 (aa a)) (a:=80) (b:=71) s3 hn (ae (by decide) am) am ha;generalize (l+(ao c a).length) % r.length=l2 at hl2 ek2;have hz:=(G.beg_told hl2).2.1;have a3:=jl hl2;generalize eL c (dk (ak c) r l2)=z at hz a3;have s4:=s3.set (n:=75) (d:=aa z) rfl rfl;have s5:=s4.set (n:=77) (d:=an (ww k cu cv (mD (ak c) r l))) rfl rfl;have K9:∀{ρ:aB}{n:Nat}{d:D},69≠n->ρ.get 69=some (.list ((fN c (ak c) r).map aa))->(ρ.set n d).get 69=some (.list ((fN c (ak c) r).map aa)):=fun h g=>ae h g;have g1:=K9 (n:=70) (d:=aa p) (by decide) g69;have g2:=K9 (n:=72) (d:=aa t) (by decide) g1;have g3:=K9 (n:=80) (d:=aa l) (by decide) g2;have g4:=K9 (n:=71) (d:=aa a) (by decide) g3;have g5:=K9 (n:=75) (d:=aa z) (by decide) g4;have g6:=K9 (n:=77) (d:=an (ww k cu cv (mD (ak c) r l))) (by decide) g5;have T5:kC k cu cv c r t l a z ((((((ρ.set 70 (aa p)).set 72 (aa t)).set 80 (aa l)).set 71 (aa a)).set 75 (aa z)).set 77 (an (ww k cu cv (mD (ak c) r l)))) :=
   { s5 with
    g72:=ae (by decide) (ae (by decide) (ae (by decide) (ae (by decide) am)))
    g80:=ae (by decide) (ae (by decide) (ae (by decide) am))
    g71:=ae (by decide) (ae (by decide) am)
    g75:=ae (by decide) am
    g69:=g6,lt:=ht,la:=ha,lz:=hz }
  have up:∀{ρ:aB}{n:Nat}{d:D},kC k cu cv c r t l a z ρ->n=73\/n=74->a8 d=true->kC k cu cv c r t l a z (ρ.set n d):=fun T hn hd=>by
   rcases hn with rfl|rfl
   .exact{ T.toRingSt.set rfl hd with g72:=ae (by decide) T.g72,g80:=ae (by decide) T.g80,g71:=ae (by decide) T.g71,g75:=ae (by decide) T.g75,g69:=ae (by decide) T.g69,lt:=ht,la:=ha,lz:=hz }
   .exact{ T.toRingSt.set rfl hd with g72:=ae (by decide) T.g72,g80:=ae (by decide) T.g80,g71:=ae (by decide) T.g71,g75:=ae (by decide) T.g75,g69:=ae (by decide) T.g69,lt:=ht,la:=ha,lz:=hz }
  have T6:=up T5 (.inl rfl) (d:=.list ((k9 t a z).map fun q=>an (ww k cu cv (ld c q.2.2.2)))) rfl;have T7:=up T6 (.inr rfl) (d:=.list ((k9 t a z).map fun q=>an (zN k cu cv c q))) rfl;obtain⟨ρ',e1,e2,e3⟩:=qt hr (ps:=ps) (fun q m=>h q (.tail _ m)) T7.toRingSt T7.g69;refine⟨ρ', ?_,e2,e3⟩;rw[fU];refine gn ?_ e1;show eK S (ρ.set 70 (aa p)) ui=_;exact af (aA (pt g1 (ab am) a1)) (af (aA ek) (af (aA (pt g3 (ab am) a2)) (af (aA (pt g4 ek2 a3)) (af (vV F Q y G s4 hr hl (ae (by decide) (ae (by decide) am)))
   (af (AT F Q y G s5 hp et.symm T5.g72 g6 (el▸am)) (af (xT F Q y G T5) (af (xU F Q y G T6) (af (DF F Q y G T7 (ae (by decide) am) am) (af (AU F Q y G T7) rfl)))))))))
end
theorem nN (x:aG):(ww k cu cv x).length=lw (wr k cu).length (wr k cv).length x:=Kr _ _ x
theorem mZ (h:0<L):mi ((d*L:Nat):Int) (L:Int)=.tuple [aa d,aa 0]:=by rw[ou,Nat.mul_div_cancel d h,Nat.mul_mod_left]
theorem qz {n m:Nat}(h:n<2^m):Sm m (n:Int):=by unfold Sm;rw[Int.natAbs_natCast];exact h
theorem DM (F:Facts S)(Q:i5 k cu cv)(y:ji (wr k cu) (wr k cv)){c:List aG}(G:aK d c)(hd:d<=4){r:aG}(hr:r∈gI) :
  aW S eR [aa k,cK cu cv c,nU k cu cv c,an (tw cu cv r)]=some (.tuple [aa d,aa 0]):=by
 obtain⟨r1,r4⟩:=vW hr;refine dg rfl ?_;show eK S [(47,aa k),(52,cK cu cv c),(68,nU k cu cv c),(67,an (tw cu cv r))] Hn=_;have nt:NT [(47,aa k),(52,cK cu cv c),(68,nU k cu cv c),(67,an (tw cu cv r)),(79,aa (ak c)),(78,an (tw cu cv (qu (ak c) r))),(69, .list (([]:aH).map aa))] :=
  NT.cons rfl (NT.cons (Di c) (NT.cons (ku fun _ _=>rfl) (NT.cons rfl (NT.cons rfl (NT.cons rfl (NT.cons rfl rfl))))))
 have s0:RingSt k cu cv c r [(47,aa k),(52,cK cu cv c),(68,nU k cu cv c),(67,an (tw cu cv r)),(79,aa (ak c)),(78,an (tw cu cv (qu (ak c) r))),(69, .list (([]:aH).map aa))]:=⟨rfl,rfl,rfl,rfl,rfl,rfl,nt⟩;have src:∀{ρ:aB},RingSt k cu cv c r ρ->dZ S ρ (.r (.c (.f .len (.c (.v 67) .n)) .n))=some ((List.range r.length).map aa):=fun s=>dp (eb (ab s.g67)) (az r4 (by decide));obtain⟨ρ1,e1,s1,g1⟩:=qr F Q y G (r:=r) (ps:=List.range r.length) (bs:=[]) (fun p m=>List.mem_range.mp m) (by rw[List.length_range];exact az (Nat.le_of_eq (Nat.zero_add _)) (az r4 (by decide))) s0 rfl;obtain⟨ρ2,e2,s2,g2⟩:=qt F Q y G r4 (ps:=List.range r.length) (fun p m=>List.mem_range.mp m) s1 g1;refine af (aA (pu G.ne rfl)) (af (DE F Q y G r4 (ρ:=[(47,aa k),(52,cK cu cv c),(68,nU k cu cv c),(67,an (tw cu cv r)),(79,aa (ak c))]) rfl rfl) ?_);refine af (ρ':=[(47,aa k),(52,cK cu cv c),(68,nU k cu cv c),(67,an (tw cu cv r)),(79,aa (ak c)),(78,an (tw cu cv (qu (ak c) r))),(69, .list (([]:aH).map aa))]) rfl ?_;refine af (ik (src s0) e1) (af (ik (src s1) e2) (aE (cE ?_)));have key:=ba (S:=S) (ρ:=ρ2) (elt:=.f .len (.c (.s (.v 68) (.v 63)) .n)) (tg:=[63]) (src:=.own 69) (l:=fN c (ak c) r) (i:=aa) (g:=fun j=>aa (lw (wr k cu).length (wr k cv).length (ao c j))) (li g2 rfl) fun j m =>
  ⟨(ρ2.del ([63]++[])).set 63 (aa j),rfl,by rw[<- nN];exact iJ (gS F Q y G (ae (by decide) (aU (by decide) s2.g68)) am (G.beg_mem m).1)⟩
 have e:((fN c (ak c) r).map fun j=>aa (lw (wr k cu).length (wr k cv).length (ao c j)))=((fN c (ak c) r).map fun j=>lw (wr k cu).length (wr k cv).length (ao c j)).map aa:=by rw[fv];rfl
 rw[e]at key;have hs:=en (ad key aj) (lx _);rw[G.ring_sum hd hr]at hs;have hl:=iJ (aT (S:=S) (ad (ab s2.g47) (ad (ab s2.g67) aj)) (Q.written F (az r4 (by decide))));rw[nN]at hl;have hpos:0<lw (wr k cu).length (wr k cv).length r:=by rw[<- nN (k:=k)];exact List.length_pos_iff.mpr (Q.ne (List.length_pos_iff.mp r1))
 have hle:lw (wr k cu).length (wr k cv).length r<=24:=by rw[<- nN (k:=k)];exact az (Q.len (az r4 (by decide))) (Nat.mul_le_mul_left 6 r4)
 refine aT (ad hs (ad hl aj)) ?_;rw[F.c31,<- mZ hpos];exact vx (Int.ne_of_gt (Int.ofNat_lt.mpr hpos)) (qz (fy (Nat.mul_le_mul hd hle) (Nat.lt_trans (by decide:4*24<2^7) (Nat.pow_lt_pow_right (by decide) (by decide))))) (qz (fy hle (Nat.lt_trans (by decide:24<2^7) (Nat.pow_lt_pow_right (by decide) (by decide)))))
theorem zk (hB:2<B)(hu:1<=u)(hv:1<=v)(hM:1<=M):B^(M-u)+B^(M-v)<B^M:=by have h0:0<B:=Nat.zero_lt_of_lt hB;have a:=Nat.pow_le_pow_right h0 (Nat.sub_le_sub_left hu M);have b:=Nat.pow_le_pow_right h0 (Nat.sub_le_sub_left hv M);refine fy (pW a b) ?_;rw[<- Nat.two_mul];refine iu (Nat.mul_lt_mul_of_pos_right hB (Nat.pow_pos h0)) ?_;rw[Nat.mul_comm,<- Nat.pow_succ];exact Nat.pow_le_pow_right h0 (Nat.le_of_eq (Nat.sub_add_cancel hM))
theorem xO (hw:w<=11)(he:e<=42):cX .Pow (aa (2^w)) (aa e)=some (aa ((2^w)^e)):=
 zl (az (Nat.mul_le_mul (az (HZ _) (Nat.succ_le_succ hw)) he) (by decide))
theorem pf (hb:0<b)(ha:a<2^600)(hb2:b<2^600):eE [aa a,aa b]=some (mi (a:Int) (b:Int)):=by have h1:ib (a:Int)<=600:=ja ha;have h2:ib (b:Int)<=600:=ja hb2;show(if 0<=(a:Int)/\0<(b:Int)/\bd (a:Int) (b:Int)then some (mi (a:Int) (b:Int))else none)=_;exact if_pos ⟨Int.natCast_nonneg a,Int.natCast_pos.mpr hb,az h1 (by decide),az h2 (by decide)⟩
theorem Cy (h:r<L):mi ((q*L+r:Nat):Int) (L:Int)=.tuple [aa q,aa r]:=by rw[ou,Nat.mul_comm,Nat.mul_add_div (Nat.zero_lt_of_lt h),Nat.div_eq_of_lt h,Nat.add_zero,Nat.mul_add_mod,Nat.mod_eq_of_lt h]
structure kA (S:cL):Prop extends Facts S where
 c24:S.cal 24=eE
abbrev uK (k cu:Nat):Nat:=(wr k cu).length
abbrev mK (k cu cv:Nat):Nat:=max (uK k cu) (uK k cv)
abbrev jb (k cu cv:Nat)(x:aG):Nat:=lw (uK k cu) (uK k cv) x
abbrev fV (k cu cv:Nat)(c:List aG):Nat:=ic (uK k cu) (uK k cv) c
theorem CV (hu:u<=6)(hv:v<=6):∀{x:aG},x.length<=n->lw u v x<=6*n
 |[],_=>nv _
 |s::x,h=>by
  cases n with
  |zero=>exact absurd h (Nat.not_succ_le_zero _)
  |succ n =>
   rw[j4,Nat.mul_succ];refine pW (CV hu hv (Nat.le_of_succ_le_succ h)) ?_;cases s with
   |false=>exact hu
   |true=>exact hv
theorem i5.mx (Q:i5 k cu cv):1<=mK k cu cv/\mK k cu cv<=6:=⟨az Q.size.1.1 (Nat.le_max_left _ _),Nat.max_le.mpr ⟨Q.size.1.2,Q.size.2.2⟩⟩
theorem aK.re42 (G:aK d c)(Q:i5 k cu cv):fV k cu cv c<=42:=by have hne:c.map (jb k cu cv)≠[]:=fun q=>G.ne (List.map_eq_nil_iff.mp q);obtain⟨x,m,e⟩:=gO (pS hne);show CW _<=42;rw[<- e];exact CV Q.size.1.2 Q.size.2.2 (G.w7 x m)
structure eX (k cu cv d w:Nat)(c:List aG)(ρ:aB):Prop where
 g47:ρ.get 47=some (aa k)
 g62:ρ.get 62=some (an [cu,cv])
 g64:ρ.get 64=some (aa d)
 g84:ρ.get 84=some (aa w)
 g52:ρ.get 52=some (cK cu cv c)
 g68:ρ.get 68=some (nU k cu cv c)
 g100:ρ.get 100=some (.list ((Hg k cu cv).map aa))
 g92:ρ.get 92=some (aa (mK k cu cv))
 g79:ρ.get 79=some (aa (fV k cu cv c))
 g94:ρ.get 94=some (aa (2^w))
 g93:ρ.get 93=some (aa (qQ (2^w) (uK k cu) (uK k cv)))
theorem eX.set (s:eX k cu cv d w c ρ)(h:([47,62,64,84,52,68,100,92,79,94,93].all fun m=>!Nat.beq m n)=true):eX k cu cv d w c (ρ.set n e):=by have K:∀{m:Nat},m∈[47,62,64,84,52,68,100,92,79,94,93]->m≠n:=fun m=>Nat.ne_of_beq_eq_false ((Bool.not_eq_true' _).mp (bQ h _ m));exact⟨ae (K (by decide)) s.g47,ae (K (by decide)) s.g62,ae (K (by decide)) s.g64,ae (K (by decide)) s.g84,ae (K (by decide)) s.g52,ae (K (by decide)) s.g68,ae (K (by decide)) s.g100,ae (K (by decide)) s.g92,ae (K (by decide)) s.g79,ae (K (by decide)) s.g94,ae (K (by decide)) s.g93⟩
section
variable (F:kA S)(Q:i5 k cu cv){d w:Nat}{c:List aG}(G:aK d c)
include F Q G
theorem LR (g47:ρ.get 47=some (aa k))(g62:ρ.get 62=some (an [cu,cv])):ex S ρ LQ=some (.n (ρ.set 100 (.list ((Hg k cu cv).map aa)))):=by refine aA ?_;have key:=ba (S:=S) (ρ:=ρ) (elt:=.f .len (.c (.c 46 (.c (.v 47) (.c (.v 50) .n))) .n)) (tg:=[50]) (src:=.e (.v 62)) (l:=[false,true]) (i:=fun s=>an (tw cu cv [s])) (g:=fun s=>aa (ww k cu cv [s]).length) (kR g62) fun s _=>⟨(ρ.del ([50]++[])).set 50 (an (tw cu cv [s])),rfl,iJ (aT (ad (ab (MC rfl (Mx rfl g47))) (ad (ab am) aj)) (Q.written F.toFacts (j6 rfl)))⟩;rw[key];show some (PyData.list [aa (ww k cu cv [false]).length,aa (ww k cu cv [true]).length])=_;rw[yr,yr];rfl
theorem td {ρ:aB}{f:Nat->Nat}(g68:ρ.get 68=some (nU k cu cv c))(h:∀x∈c,∀ρ':aB,(∀n d,n≠41->ρ.get n=some d->ρ'.get n=some d)->ev S ρ' (.f .len (.c (.v 41) .n))=some (aa (jb k cu cv x))->ev S ρ' elt=some (aa (f (jb k cu cv x)))) :
  ev S ρ (.p elt (.c [41] (.e (.v 68)) .n .n))=some (.list ((c.map fun x=>f (jb k cu cv x)).map aa)):=by
 rw[fv];exact ba (i:=fun x=>an (ww k cu cv x)) (bi (ab g68) rfl) fun x m=>⟨(ρ.del ([41]++[])).set 41 (an (ww k cu cv x)),rfl,h x m _ (fun n d hn g=>ae hn (aU hn g)) (by have:=iJ (S:=S) (ρ:=(ρ.del ([41]++[])).set 41 (an (ww k cu cv x))) (ab am);rw[nN]at this;exact this)⟩
theorem LT (g68:ρ.get 68=some (nU k cu cv c)):ex S ρ LS=some (.n (ρ.set 79 (aa (fV k cu cv c)))):=
 aA (en (ad (td F Q G (f:=fun n=>n) g68 fun _ _ _ _ h=>h) aj) (Cg fun q=>G.ne (List.map_eq_nil_iff.mp q)))
theorem u8 {ρ:aB}{f:Nat->Nat}(g100:ρ.get 100=some (.list ((Hg k cu cv).map aa)))(h:∀n,n=uK k cu\/n=uK k cv->∀ρ':aB,(∀n d,n≠90->ρ.get n=some d->ρ'.get n=some d)->ρ'.get 90=some (aa n)->ev S ρ' elt=some (aa (f n))) :
  ev S ρ (.f .sum (.c (.p elt (.c [90] (.e (.v 100)) .n .n)) .n))=some (aa (f (uK k cu)+f (uK k cv))):=by
 have key:=ba (S:=S) (ρ:=ρ) (elt:=elt) (tg:=[90]) (src:=.e (.v 100)) (l:=Hg k cu cv) (i:=aa) (g:=fun n=>aa (f n)) (bi (ab g100) rfl) fun n m=>⟨(ρ.del ([90]++[])).set 90 (aa n),rfl,h n ((bM m).imp_right aV) _ (fun n d hn g=>ae hn (aU hn g)) am⟩;have e:((Hg k cu cv).map fun n=>aa (f n))=[f (uK k cu),f (uK k cv)].map aa:=rfl;rw[e]at key;exact en (ad key aj) (lx _)
theorem LV (hw:w<=11)(hw6:6<=w)(g100:ρ.get 100=some (.list ((Hg k cu cv).map aa)))(g92:ρ.get 92=some (aa (mK k cu cv)))(g94:ρ.get 94=some (aa (2^w))):ex S ρ LU=some (.n (ρ.set 93 (aa (qQ (2^w) (uK k cu) (uK k cv))))):=by
 have m6:=Q.mx.2;have m42:=az m6 (show 6<=42 by decide);have hB:2<2^w:=iu (by decide:2<2^6) (Nat.pow_le_pow_right (by decide) hw6);have hs:=u8 F Q G (ρ:=ρ) (elt:=.b .Pow (.v 94) (.b .Sub (.v 92) (.v 90))) (f:=fun n=>(2^w)^(mK k cu cv-n)) g100 fun n hn ρ' K g=>by
  have hle:n<=mK k cu cv:=by
   rcases hn with rfl|rfl
   .exact Nat.le_max_left _ _
   .exact Nat.le_max_right _ _
  exact ag (ab (K 94 _ (by decide) g94)) (ag (ab (K 92 _ (by decide) g92)) (ab g) (aQ hle)) (xO hw (az (Nat.sub_le _ _) m42))
 exact aA (ag (ag (ab g94) (ab g92) (xO hw m42)) hs (aQ (gp (zk hB Q.size.1.1 Q.size.2.1 Q.mx.1))))
end
theorem pT:∀l:List aG,(fL l).length=l.length+l.length
 |[]=>rfl
 |p::l=>by show(fL l).length+1+1=l.length+1+(l.length+1);rw[pT l,Nat.add_add_add_comm]
theorem vr:∀l:List aG,(pD l).length=l.length+l.length
 |[]=>rfl
 |p::l=>by show(pD l).length+1+1=l.length+1+(l.length+1);rw[vr l,Nat.add_add_add_comm]
theorem aK.few (G:aK d c):(fR c).length<20/\(eW c).length<20:=by have a:=G.pre.length_eq;have b:=G.suf.length_eq;rw[lla,nR,pT,Nat.add_assoc]at a;rw[lla,nR,vr,Nat.add_assoc]at b;exact⟨az (Nat.le_of_eq (Nat.add_left_cancel a).symm) G.len,az (Nat.le_of_eq (Nat.add_left_cancel b).symm) G.len⟩
def F7 (k:Nat)(s:Str):Nat:=(bJ (bu (cW k)) s.cps.toList).length
theorem Dx (x:aG):F7 k (tx (tw cu cv x))=jb k cu cv x:=by show(bJ (bu (cW k)) (tw cu cv x)).length=_;rw[pi,nN]
theorem Fs (hne:cu≠cv){ρ:aB}{e:E}{f:aG->Nat->aG}(g52:ρ.get 52=some (cK cu cv c))(he:∀x j,∀ρ':aB,ρ'.get 3=some (an (tw cu cv x))->ρ'.get 63=some (aa j)->ev S ρ' e=some (an (tw cu cv (f x j))))
  (h7:Bd 7 c)(hl:(c.flatMap fun x=>(List.range x.length).map (f x)).length<=1000) (hn:((c.flatMap fun x=>(List.range x.length).map (f x)).foldl addC []).length<64) :
  ev S ρ (.ssc e (.c [3] (.e (.v 52)) .n (.c [63] (.r (.c (.f .len (.c (.v 3) .n)) .n)) .n .n)))=some (.list ((iz (((c.flatMap fun x=>(List.range x.length).map (f x)).foldl addC []).map fun x=>tx (tw cu cv x))).map .str)):=by
 have ew:(c.flatMap fun x=>(List.range x.length).map fun j=>an (tw cu cv (f x j)))=(c.flatMap fun x=>(List.range x.length).map (f x)).map fun x=>an (tw cu cv x):=by rw[List.map_flatMap];refine congrArg (fun g=>c.flatMap g) (funext fun x=>?_);rw[fv];rfl
 refine bi (x:=c.flatMap fun x=>(List.range x.length).map fun j=>an (tw cu cv (f x j))) (bi (x:=c.map fun x=>an (tw cu cv x)) (bi (ab g52) rfl) (jZ fun x m=>?_)) ?_
 .refine bi (x:=(ρ.del ([3]++([63]++[]))).set 3 (an (tw cu cv x))) rfl (bi (x:=true) rfl ?_);refine bi (x:=(List.range x.length).map aa) (dp (eb (ab am)) (az (h7 x m) (by decide))) ?_;have hf:∀l:aH,l.map (fun j=>an (tw cu cv (f x j)))=l.flatMap fun j=>[an (tw cu cv (f x j))]:=fun l=>by
   induction l with
   |nil=>rfl
   |cons a l ih=>rw[fU,ih];rfl
  rw[hf];refine jZ fun j _=>?_;refine bi (x:=((ρ.del ([3]++([63]++[]))).set 3 (an (tw cu cv x))).set 63 (aa j)) rfl (bi (x:=true) rfl ?_);show(wg (ev S _ e) fun a=>some (PyData.str a)).map (fun d=>[d])=_;rw[he x j _ (ae (by decide) am) am];rfl
 .have hs:kT (c.flatMap fun x=>(List.range x.length).map fun j=>an (tw cu cv (f x j)))=((c.flatMap fun x=>(List.range x.length).map (f x)).foldl addC []).map fun x=>tx (tw cu cv x):=by rw[ew];exact tU hne _ []
  rw[hs,ew,if_pos];refine kY ⟨eD (by rw[dq];exact hl),kY ⟨rfl,eD (by rw[dq];exact hn)⟩⟩
section
variable (F:kA S)(Q:i5 k cu cv){d w:Nat}{c:List aG}(G:aK d c)
include F Q G
theorem u7 {ρ:aB}{f:aG->Nat->aG}(g47:ρ.get 47=some (aa k))(g52:ρ.get 52=some (cK cu cv c))(he:∀x j,∀ρ':aB,ρ'.get 3=some (an (tw cu cv x))->ρ'.get 63=some (aa j)->ev S ρ' e=some (an (tw cu cv (f x j))))
  (hn:((c.flatMap fun x=>(List.range x.length).map (f x)).foldl addC []).length<20) (h7:∀x∈(c.flatMap fun x=>(List.range x.length).map (f x)).foldl addC [],x.length<=150) :
  ∃L:aH,L.Perm (((c.flatMap fun x=>(List.range x.length).map (f x)).foldl addC []).map (jb k cu cv))/\ev S ρ (.p (.f .len (.c (.c 46 (.c (.v 47) (.c (.v 102) .n))) .n)) (.c [102] (.e (.ssc e (.c [3] (.e (.v 52)) .n (.c [63] (.r (.c (.f .len (.c (.v 3) .n)) .n)) .n .n)))) .n .n))=some (.list (L.map aa)):=by
 have hl:(c.flatMap fun x=>(List.range x.length).map (f x)).length<=1000:=az (eP (n:=7) fun x m=>by rw[dq,List.length_range];exact G.w7 x m) (az (wE 7 G.len) (by decide));have hs:=Fs (S:=S) Q.code_ne g52 he G.w7 hl (Nat.lt_trans hn (by decide));generalize (c.flatMap fun x=>(List.range x.length).map (f x)).foldl addC []=P at hn h7 hs;have hp:(iz (P.map fun x=>tx (tw cu cv x))).Perm (P.map fun x=>tx (tw cu cv x)):=List.mergeSort_perm _ _;refine⟨(iz (P.map fun x=>tx (tw cu cv x))).map (F7 k), ?_, ?_⟩
 .have:=hp.map (F7 k);rw[fv]at this;have e:(P.map fun x=>jb k cu cv x)=P.map ((F7 k) ∘ fun x=>tx (tw cu cv x)):=List.map_congr_left fun x _=>(Dx x).symm;exact this.trans (List.Perm.of_eq e.symm)
 .rw[fv];refine ba (i:=PyData.str) (bi hs rfl) fun s ms=>?_;obtain⟨x,mx,rfl⟩:=gO (hp.mem_iff.mp ms);refine⟨(ρ.del ([102]++[])).set 102 (an (tw cu cv x)),rfl, ?_⟩;have:=iJ (aT (S:=S) (ρ:=(ρ.del ([102]++[])).set 102 (an (tw cu cv x))) (ad (ab (ae (by decide) (aU (by decide) g47))) (ad (ab am) aj)) (Q.written F.toFacts (h7 x mx)));rw[nN]at this;exact this.trans (congrArg (fun n:Nat=>some (aa n)) (Dx x).symm)
theorem AQ (m:x∈fR c):x.length<=150:=by obtain⟨y,my,j,hj,rfl⟩:=pre_mem.mp m;exact az (az (List.length_take_le _ _) (gp hj)) (az (G.w7 y my) (by decide))
theorem A8 (m:x∈eW c):x.length<=150:=by obtain⟨y,my,j,hj,rfl⟩:=suf_mem.mp m;exact az (Fg _ _) (az (G.w7 y my) (by decide))
theorem LX {ρ:aB}(g47:ρ.get 47=some (aa k))(g52:ρ.get 52=some (cK cu cv c)):∃L:aH,L.Perm ((fR c).map (jb k cu cv))/\ex S ρ LW=some (.n (ρ.set 98 (.list (L.map aa)))):=by obtain⟨L,p,e⟩:=u7 F Q G (ρ:=ρ) (e:=.a (.v 3) .n (.y (.v 63)) .n) (f:=fun x j=>x.take j) g47 g52 (fun x j ρ' g3 g63=>by have:=fY (S:=S) (ab g3) eN (dM (ab g63)) eN v9;rw[ua]at this;exact this) G.few.1 fun x m=>AQ F Q G m;exact⟨L,p,aA e⟩
theorem LZ {ρ:aB}(g47:ρ.get 47=some (aa k))(g52:ρ.get 52=some (cK cu cv c)):∃L:aH,L.Perm ((eW c).map (jb k cu cv))/\ex S ρ LY=some (.n (ρ.set 97 (.list (L.map aa)))):=by obtain⟨L,p,e⟩:=u7 F Q G (ρ:=ρ) (e:=.a (.v 3) (.y (.b .Add (.v 63) (.l (.int 1)))) .n .n) (f:=fun x j=>x.drop (j+1)) g47 g52 (fun x j ρ' g3 g63=>by have:=fY (S:=S) (ab g3) (dM (ag (ab g63) (aq (d:=aa 1)) (bS _ _))) eN eN qy;rw[oH]at this;exact this) G.few.2 fun x m=>A8 F Q G m;exact⟨L,p,aA e⟩
end
end
end Internal
section
set_option exponentiation.threshold 1000
namespace Internal
variable {S:cL}{k cu cv:Nat}
theorem qm (hw:w<=11)(he:e<=42):(2^w)^e<=2^462:=by rw[<- Nat.pow_mul];exact Nat.pow_le_pow_right (by decide) (Nat.mul_le_mul hw he)
theorem qD:∀{l:List α},(∀x∈l,f x<=b)->(l.map f).sum<=l.length*b
 |[],_=>nv _
 |x::l,h=>by rw[fU,List.sum_cons,nR,Nat.succ_mul,Nat.add_comm];exact pW (qD fun y m=>h y (.tail _ m)) (h x (.head _))
abbrev dS (k cu cv w:Nat)(c:List aG):Nat:=lT (2^w) (uK k cu) (uK k cv) (fV k cu cv c) (fR c)
abbrev ge (k cu cv w:Nat)(c:List aG):Nat:=((eW c).map fun x=>(2^w)^jb k cu cv x).sum
abbrev nS (k cu cv w:Nat):Nat:=qQ (2^w) (uK k cu) (uK k cv)
def xc (w x:Nat):aH:=cH w x (bV x w)
abbrev o9 (w x:Nat):D:=.list ((xc w x).map aa)
theorem uN (F:Facts S)(hw:6<=w)(h11:w<=11)(hx:x<2^600):S.cal 30 [aa x,aa w]=some (o9 w x):=by have:ib (x:Int)<=600:=ja hx;rw[F.c30];exact HY (iu (by decide) hw) (az h11 (by decide)) (az this (by decide))
section
variable (F:kA S)(Q:i5 k cu cv){d w:Nat}(hw6:6<=w)(hw:w<=11){c:List aG}(G:aK d c)
include F Q hw6 hw G
theorem JC:2<2^w:=iu (by decide:2<2^6) (Nat.pow_le_pow_right (by decide) hw6)
theorem xy:(2^w)^(mK k cu cv-uK k cu)+(2^w)^(mK k cu cv-uK k cv)<(2^w)^mK k cu cv:=zk (JC F Q hw6 hw G) Q.size.1.1 Q.size.2.1 Q.mx.1
theorem ty:0<nS k cu cv w/\nS k cu cv w<2^600:=
 ⟨Nat.sub_pos_of_lt (xy F Q hw6 hw G),fy (az (Nat.sub_le _ _) (qm hw (az Q.mx.2 (by decide)))) (Nat.pow_lt_pow_right (by decide) (by decide))⟩
theorem L1 (s:eX k cu cv d w c ρ):ex S ρ L0=some (.n ((ρ.set 88 (aa (dS k cu cv w c))).set 99 (aa 0)))/\dS k cu cv w c<2^600:=by
 have r42:=G.re42 Q;have h:=G.quo_pre (B:=2^w) (gp (xy F Q hw6 hw G));have hp:=qm (w:=w) hw r42;obtain⟨l0,l6⟩:=ty F Q hw6 hw G;have hs:=en (S:=S) (ad (td F Q G (ρ:=ρ) (elt:=.b .Pow (.v 94) (.b .Sub (.v 79) (.f .len (.c (.v 41) .n)))) (f:=fun n=>(2^w)^(fV k cu cv c-n)) s.g68 fun x m ρ' K e =>
  ag (ab (K 94 _ (by decide) s.g94)) (ag (ab (K 79 _ (by decide) s.g79)) e (aQ (sk m))) (xO hw (az (Nat.sub_le _ _) r42))) aj) (lx _)
 have he:(2^w)^fV k cu cv c-(c.map fun x=>(2^w)^(fV k cu cv c-jb k cu cv x)).sum=dS k cu cv w c*nS k cu cv w:=Nat.sub_eq_of_eq_add h;have hle:dS k cu cv w c*nS k cu cv w<=2^462:=az (az (je _ _) (Nat.le_of_eq h.symm)) hp;have num:=ag (S:=S) (ag (ab s.g94) (ab s.g79) (xO hw r42)) hs (aQ (az (Nat.le_add_left _ _) (Nat.le_of_eq h.symm)));rw[he]at num;refine⟨iK (xs:=[aa (dS k cu cv w c),aa 0]) (aT (ad num (ad (ab s.g93) aj)) ?_) rfl,fy (az (Nat.le_mul_of_pos_right _ l0) hle) (Nat.pow_lt_pow_right (by decide) (by decide))⟩;rw[F.c24,<- mZ l0];exact pf l0 (fy hle (Nat.pow_lt_pow_right (by decide) (by decide))) l6
theorem L5 (s:eX k cu cv d w c ρ):ex S ρ L4=some (.n ((ρ.set 59 (aa (ge k cu cv w c))).set 86 (aa w)))/\ge k cu cv w c<2^600:=by
 have u1:=Q.size;have hB0:0<2^w:=Nat.two_pow_pos w;have h:=G.up_suf (u:=uK k cu) (v:=uK k cv) hB0;have hT:w<(2^w)^uK k cu+(2^w)^uK k cv-1:=by have a:2^w<=(2^w)^uK k cu:=Nat.le_self_pow (Nat.ne_of_gt u1.1.1) _;have b:1<=(2^w)^uK k cv:=Nat.pow_pos hB0;exact iu (iu Nat.lt_two_pow_self a) (Nat.le_sub_of_add_le (Nat.add_le_add_left b _))
 have l42:∀x∈c,jb k cu cv x<=42:=fun x m=>az (sk m) (G.re42 Q);have hsum:(c.map fun x=>(2^w)^jb k cu cv x).sum<=20*2^462:=az (qD fun x m=>qm hw (l42 x m)) (wE _ G.len);have hs:=en (S:=S) (ad (td F Q G (ρ:=ρ) (elt:=.b .Pow (.v 94) (.f .len (.c (.v 41) .n))) (f:=fun n=>(2^w)^n) s.g68 fun x m ρ' K e=>ag (ab (K 94 _ (by decide) s.g94)) e (xO hw (l42 x m))) aj) (lx _);have ht:=u8 F Q G (ρ:=ρ) (elt:=.b .Pow (.v 94) (.v 90)) (f:=fun n=>(2^w)^n) s.g100 fun n hn ρ' K g=>ag (ab (K 94 _ (by decide) s.g94)) (ab g) (xO hw (by
  rcases hn with rfl|rfl
  .exact az u1.1.2 (by decide)
  .exact az u1.2.2 (by decide)))
 have hle:ge k cu cv w c*((2^w)^uK k cu+(2^w)^uK k cv-1)<=20*2^462:=az (az (Nat.le_add_left _ _) (Nat.le_of_eq h.symm)) hsum;have n1:=ag (S:=S) (ag hs (aq (d:=aa 1)) (aQ (az (je _ _) (Nat.le_of_eq h.symm)))) (ab s.g84) (bS _ _);have n2:=ag (S:=S) ht (aq (d:=aa 1)) (aQ (az (Nat.pow_pos hB0) (je _ _)));rw[h,Nat.add_sub_cancel_left]at n1;have h462:20*2^462<2^500:=by decide +kernel
 have w0:w<2^500:=fy hw (by decide +kernel);have h500:2^500+2^500<2^600:=by decide +kernel
 have hT2:(2^w)^uK k cu+(2^w)^uK k cv-1<2^600:=by have a:=qm (w:=w) hw (az u1.1.2 (show 6<=42 by decide));have b:=qm (w:=w) hw (az u1.2.2 (show 6<=42 by decide));exact fy (az (Nat.sub_le _ _) (pW a b)) (by decide +kernel)
 refine⟨iK (xs:=[aa (ge k cu cv w c),aa w]) (aT (ad n1 (ad n2 aj)) ?_) rfl,fy (az (Nat.le_mul_of_pos_right _ (Nat.zero_lt_of_lt hT)) hle) (Nat.lt_trans h462 (Nat.pow_lt_pow_right (by decide) (by decide)))⟩;rw[F.c24,<- Cy hT];exact pf (Nat.zero_lt_of_lt hT) (Nat.lt_trans (Nat.add_lt_add (fy hle h462) w0) h500) hT2
theorem L7 (s:eX k cu cv d w c ρ)(g88:ρ.get 88=some (aa (dS k cu cv w c)))(g59:ρ.get 59=some (aa (ge k cu cv w c)))(hq:dS k cu cv w c<2^600)(ho:ge k cu cv w c<2^600) :
  ex S ρ L6=some (.n (ρ.set 81 (.list [o9 w (nS k cu cv w),o9 w (dS k cu cv w c),o9 w (ge k cu cv w c)]))):=by
 have key:=ba (S:=S) (ρ:=ρ) (elt:=.c 30 (.c (.v 101) (.c (.v 84) .n))) (tg:=[101]) (src:=.e (.i (.c (.v 93) (.c (.v 88) (.c (.v 59) .n))))) (l:=[nS k cu cv w,dS k cu cv w c,ge k cu cv w c]) (i:=aa) (g:=o9 w)
  (bi (dj (ad (ab s.g93) (ad (ab g88) (ad (ab g59) aj))) (j6 rfl)) rfl) fun x m=>⟨(ρ.del ([101]++[])).set 101 (aa x),rfl,aT (ad (ab am) (ad (ab (ae (by decide) (aU (by decide) s.g84))) aj)) (uN F.toFacts hw6 hw (by
   rcases bM m with rfl|m
   .exact(ty F Q hw6 hw G).2
   .rcases bM m with rfl|m
    .exact hq
    .rw[aV m];exact ho))⟩
 exact aA key
end
end Internal
end
section
set_option exponentiation.threshold 1000
namespace Internal
variable {S:cL}{k cu cv:Nat}
noncomputable def vJ (w u v:Nat):aH:=(List.range (max u v)).map fun j=>2^w-1-(if j=max u v-min u v then 1 else 0)
theorem CT:((List.range 7).all fun u=>(List.range 7).all fun v=>u==0 || v==0 || (List.range 12).all fun w=>decide (w<6) || decide (xc w (qQ (2^w) u v)=vJ w u v))=true:=by decide +kernel
theorem FM (h1:1<=u)(h2:u<=6)(h3:1<=v)(h4:v<=6)(h5:6<=w)(h6:w<=11):xc w (qQ (2^w) u v)=vJ w u v:=by
 have:=bQ (bQ CT u (List.mem_range.mpr (Nat.lt_succ_of_le h2))) v (List.mem_range.mpr (Nat.lt_succ_of_le h4));rcases Bool.or_eq_true_iff.mp this with q|q
 .rcases Bool.or_eq_true_iff.mp q with q|q
  .rw[eC q]at h1;exact absurd h1 (by decide)
  .rw[eC q]at h3;exact absurd h3 (by decide)
 .rcases Bool.or_eq_true_iff.mp (bQ q w (List.mem_range.mpr (Nat.lt_succ_of_le h6)))with q|q
  .exact absurd (bX q) (Nat.not_lt.mpr h5)
  .exact bX q
theorem mL (a:aH):eT 7 (.list (a.map aa))=true:=ll 5 a
theorem mR (a:aH):PyData.eqv (.list (a.map aa)) (.list (a.map aa))=true:=by show PyData.eqvAll (a.map aa) (a.map aa)=true;rw[ph,eD rfl]
theorem E6 (a b:aH):cY .NotEq (.list [.list (a.map aa), .list (b.map aa)]) (.list [.list (a.map aa), .list (b.map aa)])=some (.bool false):=by
 refine lg ?_ ?_
 .show(eT 7 (.list (a.map aa))&&(eT 7 (.list (b.map aa))&&true))=true;rw[mL,mL];rfl
 .show(PyData.eqv (.list (a.map aa)) (.list (a.map aa))&&(PyData.eqv (.list (b.map aa)) (.list (b.map aa))&&true))=true;rw[mR,mR];rfl
theorem uC (a b:Nat):cY .NotEq (.tuple [aa a,aa b]) (.tuple [aa a,aa b])=some (.bool false):=by refine lg rfl ?_;show(((a:Int)==(a:Int))&&(((b:Int)==(b:Int))&&true))=true;rw[beq_self_eq_true,beq_self_eq_true];rfl
theorem yG (ns:aH)(x:Nat):ki .count (.list (ns.map aa)) [aa x]=some (aa (ns.count x)):=by
 have hd:eT 8 (.list (ns.map aa))=true:=ll 6 ns;have hc:(ns.map aa).countP (fun y=>PyData.eqv y (aa x))=ns.count x:=by rw[List.countP_map];refine List.countP_congr fun y _=>?_;show((y:Int)==(x:Int))=true↔(y==x)=true;rw[beq_iff_eq,beq_iff_eq];exact Int.ofNat_inj
 show(if eT 8 (aa x)&&eT 8 (.list (ns.map aa))then some (PyData.int (((ns.map aa).countP fun y=>PyData.eqv y (aa x):Nat):Int))else none)=_;rw[hd,hc];rfl
theorem uD {f:α->Nat}{K j:Nat}(hj:j<=K){l:List α}(h:∀x∈l,f x<=K):(l.map f).count (K-j)=(l.map fun x=>K-f x).count j:=by rw[List.count_eq_countP,List.count_eq_countP,List.countP_map,List.countP_map];refine List.countP_congr fun x m=>?_;show(f x==K-j)=true↔(K-f x==j)=true;rw[beq_iff_eq,beq_iff_eq];exact⟨fun e=>by rw[e,Nat.sub_sub_self hj],fun e=>by rw[<- e,Nat.sub_sub_self (h x m)]⟩
theorem aK.nil_pre (G:aK d c):[]∈fR c:=by obtain⟨x,r,e⟩:=List.exists_cons_of_ne_nil G.ne;have m:x∈c:=e▸.head _;exact pre_mem.mpr ⟨x,m,0,List.length_pos_iff.mpr (G.w0 x m),rfl⟩
theorem aK.suf_top (G:aK d c):ic u v c-max u v∈(eW c).map (lw u v):=by
 have hne:c.map (lw u v)≠[]:=fun q=>G.ne (List.map_eq_nil_iff.mp q);obtain⟨x,m,e⟩:=gO (pS hne);obtain⟨s,y,rfl⟩:=List.exists_cons_of_ne_nil (G.w0 x m);have my:y∈eW c:=suf_mem.mpr ⟨s::y,m,0,Nat.succ_pos _,rfl⟩;have hb:=G.suf_bd (u:=u) (v:=v) y my;have e:lw u v (s::y)=ic u v c:=e;rw[j4]at e;have hs:sl u v s<=max u v:=by
  cases s with
  |false=>exact Nat.le_max_left _ _
  |true=>exact Nat.le_max_right _ _
 have he:sl u v s=max u v:=Nat.le_antisymm hs (Nat.le_of_add_le_add_left (e▸hb));exact List.mem_map.mpr ⟨y,my,by rw[<- e,he,Nat.add_sub_cancel]⟩
section
variable (F:kA S)(Q:i5 k cu cv){d w:Nat}(hw6:6<=w)(hw:w<=11){c:List aG}(G:aK d c)
include F Q hw6 hw G
theorem tz:mK k cu cv<=fV k cu cv c:=az (Nat.le_add_left _ _) (G.pre_bd (u:=uK k cu) (v:=uK k cv) [] G.nil_pre)
theorem Ga (m:x∈fR c):jb k cu cv x<=fV k cu cv c-mK k cu cv:=Nat.le_sub_of_add_le (G.pre_bd x m)
theorem suf_top (m:x∈eW c):jb k cu cv x<=fV k cu cv c-mK k cu cv:=Nat.le_sub_of_add_le (G.suf_bd x m)
theorem Fw (h:n<20):n<2^w:=iu h (az (by decide:20<=2^6) (Nat.pow_le_pow_right (by decide) hw6))
theorem zm:xc w (dS k cu cv w c)=bI ((fR c).map fun x=>fV k cu cv c-mK k cu cv-jb k cu cv x) (fV k cu cv c-mK k cu cv+1):=by
 have e:dS k cu cv w c=(((fR c).map fun x=>fV k cu cv c-mK k cu cv-jb k cu cv x).map fun e=>(2^w)^e).sum:=by rw[fv];rfl
 unfold xc;rw[e];refine mN (iu (by decide) hw6) (by rw[dq];exact Fw F Q hw6 hw G G.few.1) (fun e m=>?_) (List.mem_map.mpr ⟨[],G.nil_pre,rfl⟩);obtain⟨x,_,rfl⟩:=gO m;exact Nat.lt_succ_of_le (Nat.sub_le _ _)
theorem F0:xc w (ge k cu cv w c)=bI ((eW c).map (jb k cu cv)) (fV k cu cv c-mK k cu cv+1):=by
 have e:ge k cu cv w c=(((eW c).map (jb k cu cv)).map fun e=>(2^w)^e).sum:=by rw[fv];rfl
 unfold xc;rw[e];refine mN (iu (by decide) hw6) (by rw[dq];exact Fw F Q hw6 hw G G.few.2) (fun e m=>?_) G.suf_top;obtain⟨x,mx,rfl⟩:=gO m;exact Nat.lt_succ_of_le (suf_top F Q hw6 hw G mx)
theorem KG (s:eX k cu cv d w c ρ)(g81:ρ.get 81=some (.list [o9 w (nS k cu cv w),a,b]))(g99:ρ.get 99=some (aa 0))(g86:ρ.get 86=some (aa w)):ex S ρ Jg=some (.n ρ):=by
 have hmin:min (uK k cu) (uK k cv)<=mK k cu cv:=az (Nat.min_le_left _ _) (Nat.le_max_left _ _);have e1:ev S ρ (.s (.v 81) (.l (.int 0)))=some (o9 w (nS k cu cv w)):=fu (ab g81) (aq (d:=aa 0)) (jN rfl);have hl:xc w (nS k cu cv w)=vJ w (uK k cu) (uK k cv):=FM Q.size.1.1 Q.size.1.2 Q.size.2.1 Q.size.2.2 hw6 hw;unfold o9 at e1;rw[hl]at e1;have e2:=ba (S:=S) (ρ:=ρ) (elt:=.b .Sub (.b .Sub (.v 94) (.l (.int 1))) (.f .int (.c (.q .Eq (.v 63) (.b .Sub (.v 92) (.f .min (.c (.v 100) .n)))) .n))) (tg:=[63]) (src:=.r (.c (.v 92) .n)) (l:=List.range (mK k cu cv)) (i:=aa) (g:=fun j=>aa (2^w-1-(if j=mK k cu cv-min (uK k cu) (uK k cv)then 1 else 0)))
  (dp (ab s.g92) (az Q.mx.2 (by decide))) fun j _=>⟨(ρ.del ([63]++[])).set 63 (aa j),rfl,by
   have q:∀{n:Nat}{d:D},n≠63->ρ.get n=some d->((ρ.del ([63]++[])).set 63 (aa j)).get n=some d:=fun h g=>ae h (aU h g);have mn:ev S ((ρ.del ([63]++[])).set 63 (aa j)) (.f .min (.c (.v 100) .n))=some (aa (min (uK k cu) (uK k cv))):=en (ad (ab (q (by decide) s.g100)) aj) (Ft _ _);have h1:1<=2^w-1:=Nat.le_sub_of_add_le (gp (JC F Q hw6 hw G));refine ag (y:=aa (if j=mK k cu cv-min (uK k cu) (uK k cv)then 1 else 0)) (ag (ab (q (by decide) s.g94)) (aq (d:=aa 1)) (aQ (Nat.two_pow_pos w))) (en (ad (jW (ab am) (ag (ab (q (by decide) s.g92)) mn (aQ hmin)) (lf _ _)) aj) ?_) (aQ ?_)
   .by_cases c:j=mK k cu cv-min (uK k cu) (uK k cv)
    .rw[if_pos c,eD (Int.ofNat_inj.mpr c)];rfl
    .rw[if_neg c,fH fun e=>c (Int.ofNat_inj.mp e)];rfl
   .by_cases c:j=mK k cu cv-min (uK k cu) (uK k cv)
    .rw[if_pos c];exact h1
    .rw[if_neg c];exact nv _⟩
 have el:((List.range (mK k cu cv)).map fun j=>aa (2^w-1-(if j=mK k cu cv-min (uK k cu) (uK k cv)then 1 else 0)))=(vJ w (uK k cu) (uK k cv)).map aa:=by unfold vJ;rw[fv];rfl
 rw[el]at e2;exact hG (Ly (aL e1 e2 (by rw[BL,eD rfl];rfl)) (aL (dD (ab g99) (ab g86)) (dD (aq (d:=aa 0)) (ab s.g84)) (uC _ _))) rfl
theorem KH {ρ:aB}{a:D}{L M:aH}(s:eX k cu cv d w c ρ)(g81:ρ.get 81=some (.list [a,o9 w (dS k cu cv w c),o9 w (ge k cu cv w c)]))(pL:L.Perm ((fR c).map (jb k cu cv)))(pM:M.Perm ((eW c).map (jb k cu cv)))(g98:ρ.get 98=some (.list (L.map aa)))(g97:ρ.get 97=some (.list (M.map aa))):ex S ρ Jh=some (.n ρ):=by
 have hm:=tz F Q hw6 hw G;have e1:ev S ρ (.a (.v 81) (.y (.l (.int 1))) .n .n)=some (.list [o9 w (dS k cu cv w c),o9 w (ge k cu cv w c)]):=fY (ab g81) (dM (aq (d:=aa 1))) eN eN A1;unfold o9 at e1;rw[zm F Q hw6 hw G,F0 F Q hw6 hw G]at e1;have hp:∀x∈fR c,jb k cu cv x<=fV k cu cv c-mK k cu cv:=fun x m=>Ga F Q hw6 hw G m;have h42:fV k cu cv c-mK k cu cv+1<=16777216:=az (Nat.succ_le_succ (az (Nat.sub_le _ _) (G.re42 Q))) (by decide);have hK:∀{ρ:aB},ρ.get 79=some (aa (fV k cu cv c))->ρ.get 92=some (aa (mK k cu cv))->ev S ρ (.b .Sub (.v 79) (.v 92))=some (aa (fV k cu cv c-mK k cu cv)):=fun a b=>ag (ab a) (ab b) (aQ hm);have hsrc:dZ S ρ (.r (.c (.b .Add (.b .Sub (.v 79) (.v 92)) (.l (.int 1))) .n))=some ((List.range (fV k cu cv c-mK k cu cv+1)).map aa):=dp (ag (hK s.g79 s.g92) (aq (d:=aa 1)) (bS _ _)) h42;have e2:=ba (S:=S) (ρ:=ρ) (elt:=.m .count (.v 98) (.c (.b .Sub (.b .Sub (.v 79) (.v 92)) (.v 63)) .n)) (tg:=[63]) (src:=.r (.c (.b .Add (.b .Sub (.v 79) (.v 92)) (.l (.int 1))) .n)) (l:=List.range (fV k cu cv c-mK k cu cv+1)) (i:=aa) (g:=fun j=>aa (((fR c).map fun x=>fV k cu cv c-mK k cu cv-jb k cu cv x).count j)) hsrc fun j mj=>⟨(ρ.del ([63]++[])).set 63 (aa j),rfl,by have hj:=Nat.le_of_lt_succ (List.mem_range.mp mj);have q:∀{n:Nat}{d:D},n≠63->ρ.get n=some d->((ρ.del ([63]++[])).set 63 (aa j)).get n=some d:=fun h g=>ae h (aU h g);refine mV (ab (q (by decide) g98)) (ad (ag (hK (q (by decide) s.g79) (q (by decide) s.g92)) (ab am) (aQ hj)) aj) ?_;rw[yG,pL.count_eq,uD hj hp]⟩;have e3:=ba (S:=S) (ρ:=ρ) (elt:=.m .count (.v 97) (.c (.v 63) .n)) (tg:=[63]) (src:=.r (.c (.b .Add (.b .Sub (.v 79) (.v 92)) (.l (.int 1))) .n)) (l:=List.range (fV k cu cv c-mK k cu cv+1)) (i:=aa) (g:=fun j=>aa (((eW c).map (jb k cu cv)).count j)) hsrc fun j mj=>⟨(ρ.del ([63]++[])).set 63 (aa j),rfl,by refine mV (ab (ae (by decide) (aU (by decide) g97))) (ad (ab am) aj) ?_;rw[yG,pM.count_eq]⟩;have r2:((List.range (fV k cu cv c-mK k cu cv+1)).map fun j=>aa (((fR c).map fun x=>fV k cu cv c-mK k cu cv-jb k cu cv x).count j))=(bI ((fR c).map fun x=>fV k cu cv c-mK k cu cv-jb k cu cv x) (fV k cu cv c-mK k cu cv+1)).map aa:=by unfold bI;rw[fv];rfl
 have r3:((List.range (fV k cu cv c-mK k cu cv+1)).map fun j=>aa (((eW c).map (jb k cu cv)).count j))=(bI ((eW c).map (jb k cu cv)) (fV k cu cv c-mK k cu cv+1)).map aa:=by unfold bI;rw[fv];rfl
 rw[r2]at e2;rw[r3]at e3;exact hG (aL e1 (dj (ad e2 (ad e3 aj)) (j6 rfl)) (E6 _ _)) rfl
end
end Internal
end
section
set_option exponentiation.threshold 1000
namespace Internal
variable {S:cL}{k cu cv:Nat}
abbrev As (cu cv:Nat)(p:aG × Nat):D:=.tuple [an (tw cu cv p.1),aa p.2]
abbrev Ar (cu cv:Nat)(l:wB):D:=.list (l.map (As cu cv))
abbrev JO (k cu cv:Nat)(p:aG × Nat):D:=.tuple [aa (jb k cu cv p.1),aa p.2]
abbrev Ia (k cu cv:Nat)(l:wB):D:=.list (l.map (JO k cu cv))
theorem xz:∀n:Nat,(io d c n).length<=2^n/\∀p∈io d c n,p.1.length<=n
 |0=>⟨gC _,fun p m=>by rw[aV m];exact gC _⟩
 |n+1=>by
  obtain⟨a,b⟩:=xz (d:=d) (c:=c) n;refine⟨?_,fun p m=>?_⟩
  .show((lD (dE d (io d c n))).map _).length<=_;rw[dq,Nat.pow_succ];exact az (eP (n:=2) fun _ _=>gC _) (wE 2 (az (List.length_filter_le _ _) a))
  .obtain⟨q,mq,rfl⟩:=gO (show p∈(lD (dE d (io d c n))).map _ from m);obtain⟨r,mr,mq⟩:=List.mem_flatMap.mp mq;obtain⟨s,_,rfl⟩:=gO mq;show(r.1++[s]).length<=_;rw[lla];exact Nat.succ_le_succ (b r (List.mem_filter.mp mr).1)
theorem CN:∀n:Nat,(il d c n).length<=2^n
 |0=>nv _
 |n+1=>by show(il d c n++jt d (dE d (io d c n))).length<=_;rw[lla,Nat.pow_succ,Nat.mul_two];refine pW (CN n) ?_;unfold jt;rw[dq];exact az (List.length_filter_le _ _) (xz n).1
theorem BN (a:aH):cY .Eq (.list (a.map aa)) (.list [])=some (.bool a.isEmpty):=by have h:eT 8 (.list (a.map aa))=true:=ll 6 a;show(if eT 8 (.list (a.map aa))&&true then some (PyData.bool (PyData.eqvAll (a.map aa) []))else none)=_;rw[h];cases a <;> rfl
theorem vO:∀l:List α,(l.filter p).isEmpty=l.all fun x=>!p x
 |[]=>rfl
 |x::l=>by
  rw[List.filter_cons,List.all_cons];cases h:p x with
  |true=>rfl
  |false=>exact vO l
theorem Cz (b:Bool):pj .int [.bool b]=some (aa (if b then 1 else 0)):=by cases b <;> rfl
theorem E4 (h:cu≠cv)(t:aG)(E:List aG):cY .In (an (tw cu cv t)) (cK cu cv E)=some (.bool (E.contains t)):=by show(if eT 8 (an (tw cu cv t))&&eT 8 (cK cu cv E)then some (PyData.bool ((E.map fun t=>an (tw cu cv t)).any fun y=>PyData.eqv y (an (tw cu cv t))))else none)=_;rw[yK,wL h,List.contains_eq_mem];rfl
section
variable (F:kA S)(Q:i5 k cu cv){d w:Nat}{c:List aG}(G:aK d c)
include F Q G
theorem KP (s:eX k cu cv d w c ρ)(g95:ρ.get 95=some (Ar cu cv l)):ex S ρ KO=some (.n (ρ.set 95 (Ar cu cv (dE d l)))):=by refine aA (iI (i:=As cu cv) (g:=As cu cv) (p:=fun p=>decide (p.2<d)) (bi (ab g95) rfl) fun p _=>⟨((ρ.del ([41,96]++[])).set 41 (an (tw cu cv p.1))).set 96 (aa p.2),rfl, ?_,fun _=>dD (ab (ae (by decide) am)) (ab am)⟩);have g64:(((ρ.del ([41,96]++[])).set 41 (an (tw cu cv p.1))).set 96 (aa p.2)).get 64=some (aa d):=ae (by decide) (ae (by decide) (by rw[aB.get_del,if_neg (by decide)];exact s.g64));refine aL (ab am) (ab g64) ?_;show some (PyData.bool (decide ((p.2:Int)<(d:Int))))=_;exact congrArg (fun b=>some (PyData.bool b)) (decide_eq_decide.mpr Int.ofNat_lt)
theorem KR (s:eX k cu cv d w c ρ)(g95:ρ.get 95=some (Ar cu cv (dE d l)))(g91:ρ.get 91=some (Ia k cu cv m))(hl:l.length<=1000)(hm:m.length<=1000)(h7:∀p∈l,p.1.length<=150):ex S ρ KQ=some (.n (ρ.set 91 (Ia k cu cv (m++jt d (dE d l))))):=by
 have key:=ba (S:=S) (ρ:=ρ) (elt:=.t (.c (.f .len (.c (.c 46 (.c (.v 47) (.c (.v 41) .n))) .n)) (.c (.b .Sub (.v 64) (.v 96)) .n))) (tg:=[41,96]) (src:=.e (.v 95)) (l:=dE d l) (i:=As cu cv) (g:=fun p=>JO k cu cv (p.1,d-p.2)) (bi (ab g95) rfl) fun p mp=>⟨((ρ.del ([41,96]++[])).set 41 (an (tw cu cv p.1))).set 96 (aa p.2),rfl,by have K:∀{n:Nat}{e:D},n≠41->n≠96->ρ.get n=some e->(((ρ.del ([41,96]++[])).set 41 (an (tw cu cv p.1))).set 96 (aa p.2)).get n=some e:=fun a b g=>ae b (ae a (by rw[aB.get_del,if_neg (by simp[a,b])];exact g));obtain⟨mp,hp⟩:=List.mem_filter.mp mp;have e1:=iJ (aT (S:=S) (ρ:=((ρ.del ([41,96]++[])).set 41 (an (tw cu cv p.1))).set 96 (aa p.2)) (ad (ab (K (by decide) (by decide) s.g47)) (ad (ab (ae (by decide) am)) aj)) (Q.written F.toFacts (h7 p mp)));rw[nN]at e1;exact dD e1 (ag (ab (K (by decide) (by decide) s.g64)) (ab am) (aQ (gp (bX hp))))⟩;have e:((dE d l).map fun p=>JO k cu cv (p.1,d-p.2))=(jt d (dE d l)).map (JO k cu cv):=by unfold jt;rw[fv];rfl
 rw[e]at key;have hf:(jt d (dE d l)).length<=1000:=by unfold jt;rw[dq];exact az (List.length_filter_le _ _) hl
 have:=sY (S:=S) (ab g91) key (by rw[dq,dq];exact az (pW hm hf) (by decide));rw[<- List.map_append]at this;exact aA this
theorem KT (s:eX k cu cv d w c ρ)(g95:ρ.get 95=some (Ar cu cv l))(hl:l.length<=1000)(h7:∀p∈l,p.1.length<=150):ex S ρ KS=some (.n (ρ.set 95 (Ar cu cv (lD l)))):=by
 have hfl:=eP (l:=l) (f:=fun p=>[false,true].map fun s=>As cu cv (p.1++[s],p.2)) (n:=2) fun a _=>gC _;have key:=tc (S:=S) (ρ:=ρ) (elt:=.t (.c (.b .Add (.v 41) (.v 50)) (.c (.v 96) .n))) (tg:=[41,96]) (tg2:=[50]) (src:=.e (.v 95)) (src2:=.e (.v 62)) (l:=l) (i:=As cu cv) (l2:=fun _=>[false,true]) (i2:=fun _ s=>an (tw cu cv [s])) (g:=fun p s=>As cu cv (p.1++[s],p.2)) (bi (ab g95) rfl)
  (fun p m=>by refine⟨((ρ.del ([41,96]++([50]++[]))).set 41 (an (tw cu cv p.1))).set 96 (aa p.2),rfl,kR (ae (by decide) (ae (by decide) (by rw[aB.get_del,if_neg (by decide)];exact s.g62))),fun t _=>⟨(((ρ.del ([41,96]++([50]++[]))).set 41 (an (tw cu cv p.1))).set 96 (aa p.2)).set 50 (an (tw cu cv [t])),rfl, ?_⟩⟩;exact dD (nh (ab (ae (by decide) (ae (by decide) am))) (ab am) (az (h7 p m) (by decide)) (by show 1<=5000;decide)) (ab (ae (by decide) am))) (az hfl (az (wE 2 hl) (by decide)))
 have e:(l.flatMap fun p=>[false,true].map fun s=>As cu cv (p.1++[s],p.2))=(lD l).map (As cu cv):=by unfold lD;rw[List.map_flatMap];refine congrArg (fun f=>l.flatMap f) (funext fun p=>?_);rw[fv];rfl
 rw[e]at key;exact aA key
theorem KW (s:eX k cu cv d w c ρ)(g95:ρ.get 95=some (Ar cu cv l))(h7:∀p∈l,p.1.length<=150):ex S ρ KU=some (.n (ρ.set 95 (Ar cu cv (rQ c l)))):=by
 have key:=ba (S:=S) (ρ:=ρ) (elt:=.t (.c (.v 41) (.c (.b .Add (.v 96) (.f .int (.c (.q .Eq (.p (.v 63) (.c [63] (.r (.c (.f .len (.c (.v 41) .n)) .n)) (.c (.q .In (.a (.v 41) (.y (.v 63)) .n .n) (.v 52)) .n) .n)) (.i .n)) .n))) .n))) (tg:=[41,96]) (src:=.e (.v 95)) (l:=l) (i:=As cu cv) (g:=fun p=>As cu cv (p.1,p.2+if Db c p.1 then 1 else 0)) (bi (ab g95) rfl) fun p mp=>⟨((ρ.del ([41,96]++[])).set 41 (an (tw cu cv p.1))).set 96 (aa p.2),rfl,by have g52:(((ρ.del ([41,96]++[])).set 41 (an (tw cu cv p.1))).set 96 (aa p.2)).get 52=some (cK cu cv c):=ae (by decide) (ae (by decide) (by rw[aB.get_del,if_neg (by decide)];exact s.g52));have g41:(((ρ.del ([41,96]++[])).set 41 (an (tw cu cv p.1))).set 96 (aa p.2)).get 41=some (an (tw cu cv p.1)):=ae (by decide) am;have g96:(((ρ.del ([41,96]++[])).set 41 (an (tw cu cv p.1))).set 96 (aa p.2)).get 96=some (aa p.2):=am;generalize ((ρ.del ([41,96]++[])).set 41 (an (tw cu cv p.1))).set 96 (aa p.2)=ρ1 at g52 g41 g96;have kf:=iI (S:=S) (ρ:=ρ1) (elt:=.v 63) (c:=.q .In (.a (.v 41) (.y (.v 63)) .n .n) (.v 52)) (tg:=[63]) (src:=.r (.c (.f .len (.c (.v 41) .n)) .n)) (l:=List.range p.1.length) (i:=aa) (g:=aa) (p:=fun j=>c.contains (p.1.drop j)) (dp (eb (ab g41)) (az (h7 p mp) (by decide))) fun j _=>⟨(ρ1.del ([63]++[])).set 63 (aa j),rfl,by have e1:=fY (S:=S) (ρ:=(ρ1.del ([63]++[])).set 63 (aa j)) (ab (ae (by decide) (aU (by decide) g41))) (dM (ab am)) eN eN qy;rw[oH]at e1;exact aL e1 (ab (ae (by decide) (aU (by decide) g52))) (E4 Q.code_ne _ _),fun _=>ab am⟩;have e2:=en (ad (jW kf (b:=.i .n) rfl (BN _)) aj) (Cz _);rw[vO]at e2;exact dD (ab g41) (ag (ab g96) e2 (bS _ _))⟩;have e:(l.map fun p=>As cu cv (p.1,p.2+if Db c p.1 then 1 else 0))=(rQ c l).map (As cu cv):=by unfold rQ;rw[fv];rfl
 rw[e]at key;exact aA key
theorem zI:∀{is:aH}{i:Nat}{ρ:aB},i+is.length<=7->eX k cu cv d w c ρ->ρ.get 95=some (Ar cu cv (io d c i))->ρ.get 91=some (Ia k cu cv (il d c i)) ->
  ∃ρ',tj (fun d ρ'=>(bE ρ' [65] d).bind fun ρ''=>eK S ρ'' ug) (is.map aa) ρ=some (.n ρ')/\eX k cu cv d w c ρ'/\ρ'.get 91=some (Ia k cu cv (il d c (i+is.length)))/\∀n e,n≠65->n≠95->n≠91->ρ.get n=some e->ρ'.get n=some e
 |[],i,ρ,_,s,_,g91=>⟨ρ,rfl,s,g91,fun _ _ _ _ _ g=>g⟩
 |j::is,i,ρ,hi,s,g95,g91=>by
  have hi':i+1+is.length<=7:=by rw[Nat.add_right_comm];exact hi
  have i7:i<=7:=az (je _ _) hi;obtain⟨l1,l2⟩:=xz (d:=d) (c:=c) i;have p7:(2:Nat)^i<=1000:=az (Nat.pow_le_pow_right (by decide) i7) (by decide);have l1:=az l1 p7;have k1:=az (CN (d:=d) (c:=c) i) p7;have l7:∀p∈io d c i,p.1.length<=149:=fun p m=>az (l2 p m) (az i7 (by decide));have f7:∀p∈dE d (io d c i),p.1.length<=149:=fun p m=>l7 p (List.mem_filter.mp m).1;have f1:(dE d (io d c i)).length<=1000:=az (List.length_filter_le _ _) l1;have s0:=s.set (n:=65) (e:=aa j) rfl;have s1:=s0.set (n:=95) (e:=Ar cu cv (dE d (io d c i))) rfl;have s2:=s1.set (n:=91) (e:=Ia k cu cv (il d c i++jt d (dE d (io d c i)))) rfl;have s3:=s2.set (n:=95) (e:=Ar cu cv (lD (dE d (io d c i)))) rfl;have s4:=s3.set (n:=95) (e:=Ar cu cv (rQ c (lD (dE d (io d c i))))) rfl;obtain⟨ρ',e1,e2,e3,e4⟩:=zI (is:=is) (i:=i+1) hi' s4 am (ae (by decide) (ae (by decide) am));refine⟨ρ', ?_,e2, ?_,fun n e a b f g=>e4 n e a b f (ae b (ae b (ae f (ae b (ae a g)))))⟩
  .rw[fU];refine gn ?_ e1;show eK S (ρ.set 65 (aa j)) ug=_;refine af (KP F Q G s0 (ae (by decide) g95)) (af (KR F Q G s1 am (ae (by decide) (ae (by decide) g91)) l1 k1 fun p m=>az (l7 p m) (by decide)) (af (KT F Q G s2 (ae (by decide) am) f1 fun p m=>az (f7 p m) (by decide)) (af (KW F Q G s3 am fun p m=>?_) rfl)));obtain⟨r,mr,m⟩:=List.mem_flatMap.mp m;obtain⟨t,_,rfl⟩:=gO m;show(r.1++[t]).length<=_;rw[lla];exact Nat.succ_le_succ (f7 r mr)
  .rw[e3,nR,Nat.add_assoc,Nat.add_comm 1]
end
end Internal
end
section
set_option exponentiation.threshold 1000
namespace Internal
variable {S:cL}{k cu cv:Nat}
theorem y8 (h:d<=1):∀n,dE d (io d c n)=[]/\il d c n=[]
 |0=>⟨List.filter_eq_nil_iff.mpr fun p m q=>by rw[aV m]at q;exact absurd (bX q) (Nat.not_lt.mpr h),rfl⟩
 |n+1=>by
  obtain⟨a,b⟩:=y8 h (c:=c) n;refine⟨?_, ?_⟩
  .show dE d (rQ c (lD (dE d (io d c n))))=[];rw[a];rfl
  .show il d c n++jt d (dE d (io d c n))=[];rw[a,b];rfl
theorem y9 (h:2<=d):∀n,(([]:aG),d-1)∈il d c (n+1)
 |0=>by show _∈jt d (dE d [([],1)]);refine List.mem_map.mpr ⟨([],1),List.mem_filter.mpr ⟨.head _,eD h⟩,rfl⟩
 |n+1=>mv _ (y9 h n)
theorem pB {v:Nat}:∀l:wB,((lB l).map f).count v=((l.filter fun p=>decide (f p.1=v)).map fun p=>p.2).sum
 |[]=>rfl
 |p::l=>by
  have e:lB (p::l)=List.replicate p.2 p.1++lB l:=rfl;rw[e,List.map_append,List.count_append,List.map_replicate,List.count_replicate,pB l,List.filter_cons];by_cases h:f p.1=v
  .rw[if_pos (beq_iff_eq.mpr h),if_pos (eD h),fU,List.sum_cons]
  .rw[if_neg (fun q=>h (eC q)),if_neg (fun q=>h (bX q)),Nat.zero_add]
section
variable {d:Nat}{c:List aG}(G:aK d c)
include G
theorem aK.tl_one (h:d<=1):Bi d c=[]:=by unfold Bi;rw[(y8 h _).2];rfl
theorem aK.tl_two (h:2<=d):[]∈Bi d c:=by obtain⟨r,e⟩:=Nat.exists_eq_succ_of_ne_zero (Nat.ne_of_gt G.reach1.1);unfold Bi;rw[e];exact List.mem_flatMap.mpr ⟨_,y9 h r,List.mem_replicate.mpr ⟨Nat.ne_of_gt (Nat.sub_pos_of_lt h),rfl⟩⟩
theorem aK.tl_few:(Bi d c).length<20:=by have a:=G.lck.length_eq;rw[lla,lla,List.length_replicate,pT,<- Nat.add_assoc,Nat.add_right_comm,Nat.add_comm]at a;have b:(eW c).length=d+(Bi d c).length:=Nat.add_right_cancel a;exact fy (az (Nat.le_add_left _ _) (Nat.le_of_eq b.symm)) G.few.2
theorem aK.suf_one (h:d=1):ic u v c-max u v=0:=by have a:=G.lck;have e:lB (il d c (ak c))=[]:=G.tl_one (Nat.le_of_eq h);rw[e,h]at a;obtain⟨x,m,ex⟩:=gO (G.suf_top (u:=u) (v:=v));have:x∈List.replicate 1 ([]:aG)++fL []:=a.mem_iff.mp m;rw[aV this]at ex;exact ex.symm
end
theorem DA (h:b<=0)(h2 : -1000<=b):oe [.int b]=some []:=by
 show iR 0 b 1=_;unfold iR;rw[if_pos (by simp only[g9,kh];lia)];have:((b-0+1-1) / 1).toNat=0:=by rw[Int.sub_zero,Int.add_sub_cancel,Int.ediv_one];exact Int.toNat_of_nonpos h
 rw[this];rfl
theorem BO (a b:Nat)(l:aH):cY .Eq (.tuple [aa a,aa b, .list (l.map aa)]) (.tuple [aa a,aa b, .list (l.map aa)])=some (.bool true):=by
 have hd:eT 8 (.tuple [aa a,aa b, .list (l.map aa)])=true:=by show(true&&(true&&(eT 7 (.list (l.map aa))&&true)))=true;rw[mL];rfl
 have he:PyData.eqv (.tuple [aa a,aa b, .list (l.map aa)]) (.tuple [aa a,aa b, .list (l.map aa)])=true:=by show(((a:Int)==(a:Int))&&(((b:Int)==(b:Int))&&(PyData.eqv (.list (l.map aa)) (.list (l.map aa))&&true)))=true;rw[beq_self_eq_true,beq_self_eq_true,mR];rfl
 show(if eT 8 (.tuple [aa a,aa b, .list (l.map aa)])&&eT 8 (.tuple [aa a,aa b, .list (l.map aa)])then some (PyData.bool (PyData.eqv (.tuple [aa a,aa b, .list (l.map aa)]) (.tuple [aa a,aa b, .list (l.map aa)])))else none)=_;rw[hd,he];rfl
abbrev uT (k cu cv d:Nat)(c:List aG):aH:=(Bi d c).map fun x=>fV k cu cv c-mK k cu cv-mK k cu cv-jb k cu cv x
abbrev kS (k cu cv d w:Nat)(c:List aG):Nat:=lT (2^w) (uK k cu) (uK k cv) (fV k cu cv c-mK k cu cv) (Bi d c)
section
variable (F:kA S)(Q:i5 k cu cv){d w:Nat}(hw6:6<=w)(hw:w<=11){c:List aG}(G:aK d c)(h1:1<=d)(hd:d<=4)
include F Q hw6 hw G h1 hd
theorem KL (s:eX k cu cv d w c ρ)(g88:ρ.get 88=some (aa (dS k cu cv w c))):ex S ρ Ji=some (.n ((ρ.set 85 (aa (kS k cu cv d w c))).set 86 (aa 0)))/\kS k cu cv d w c<2^600:=by
 have hm:=tz F Q hw6 hw G;have r42:fV k cu cv c-mK k cu cv<=42:=az (Nat.sub_le _ _) (G.re42 Q);have h:=G.quo_lck (B:=2^w) Q.mx.1 (xy F Q hw6 hw G);obtain⟨l0,l6⟩:=ty F Q hw6 hw G;have hp:d*(2^w)^(fV k cu cv c-mK k cu cv)<=4*2^462:=Nat.mul_le_mul hd (qm hw r42);have i1:ib (((2^w)^(fV k cu cv c-mK k cu cv):Nat):Int)<=600:=ja (fy (qm hw r42) (Nat.pow_lt_pow_right (by decide) (by decide)));have i2:ib ((d:Nat):Int)<=600:=ja (fy hd (by decide +kernel));have n1:=ag (S:=S) (ab s.g64) (ag (ab s.g94) (ag (ab s.g79) (ab s.g92) (aQ hm)) (xO hw r42)) (GW (az i2 (by decide)) (az i1 (by decide)));rw[<- Int.natCast_mul]at n1;have num:=ag (S:=S) n1 (ab g88) (aQ (az (Nat.le_add_left _ _) (Nat.le_of_eq h.symm)));have he:d*(2^w)^(fV k cu cv c-mK k cu cv)-dS k cu cv w c=kS k cu cv d w c*nS k cu cv w:=Nat.sub_eq_of_eq_add h;rw[he]at num;have hle:kS k cu cv d w c*nS k cu cv w<=4*2^462:=az (az (je _ _) (Nat.le_of_eq h.symm)) hp;have h4:4*2^462<2^600:=by decide +kernel
 refine⟨iK (xs:=[aa (kS k cu cv d w c),aa 0]) (aT (ad num (ad (ab s.g93) aj)) ?_) rfl,fy (az (Nat.le_mul_of_pos_right _ l0) hle) h4⟩;rw[F.c24,<- mZ l0];exact pf l0 (fy hle h4) l6
theorem KM {ρ:aB}(s:eX k cu cv d w c ρ)(g91:ρ.get 91=some (Ia k cu cv (il d c (ak c)))):ex S ρ Jj=some (.n (ρ.set 87 (o9 w (kS k cu cv d w c)))):=by
 refine aA ?_;have m6:=Q.mx;have hm2:ev S ρ (.b .Mult (.l (.int 2)) (.v 92))=some (aa (2*mK k cu cv)):=ag (aq (d:=aa 2)) (ab s.g92) (gj (a:=2) (by decide) (fy m6.2 (by decide)));rcases Nat.lt_or_ge d 2 with h|h
 .have hd1:d=1:=Nat.le_antisymm (Nat.le_of_lt_succ h) h1;have e0:=G.suf_one (u:=uK k cu) (v:=uK k cv) hd1;have et:=G.tl_one (Nat.le_of_eq hd1);have es:kS k cu cv d w c=0:=by unfold kS;rw[et];rfl
  have ed:xc w 0=[]:=by have:bV 0 w=0:=Nat.div_eq_of_lt (iu (Nat.sub_lt (Nat.add_pos_right _ (iu (by decide) hw6)) Nat.one_pos) (Nat.le_of_eq (Nat.zero_add w)));unfold xc;rw[this];rfl
  have hR:fV k cu cv c=mK k cu cv:=Nat.le_antisymm (Nat.le_of_sub_eq_zero e0) (tz F Q hw6 hw G);have hsrc:dZ S ρ (.r (.c (.b .Add (.b .Sub (.v 79) (.b .Mult (.l (.int 2)) (.v 92))) (.l (.int 1))) .n))=some []:=by
   refine bi (ad (ag (ag (ab s.g79) hm2 (yD _ _)) aq (oT _ _)) aj) (DA ?_ ?_)
   .rw[hR];lia
   .rw[hR];lia
  unfold o9;rw[es,ed];exact bi (x:=[]) (bi hsrc rfl) (if_pos rfl)
 .have hb:=G.tl_bd (u:=uK k cu) (v:=uK k cv) m6.1;have hn:=G.tl_two h;have hmm:mK k cu cv<=fV k cu cv c-mK k cu cv:=az (Nat.le_add_left _ _) (hb _ hn);have hm:=tz F Q hw6 hw G;have h2m:2*mK k cu cv<=fV k cu cv c:=by rw[Nat.two_mul];exact Nat.add_le_of_le_sub hm hmm
  have e2:fV k cu cv c-2*mK k cu cv=fV k cu cv c-mK k cu cv-mK k cu cv:=by rw[Nat.two_mul,Nat.sub_sub]
  have r42:fV k cu cv c-mK k cu cv-mK k cu cv+1<=16777216:=az (Nat.succ_le_succ (az (az (Nat.sub_le _ _) (Nat.sub_le _ _)) (G.re42 Q))) (by decide);have hK:ev S ρ (.b .Sub (.v 79) (.b .Mult (.l (.int 2)) (.v 92)))=some (aa (fV k cu cv c-mK k cu cv-mK k cu cv)):=by rw[<- e2];exact ag (ab s.g79) hm2 (aQ h2m)
  have ed:xc w (kS k cu cv d w c)=bI (uT k cu cv d c) (fV k cu cv c-mK k cu cv-mK k cu cv+1):=by
   have e:kS k cu cv d w c=((uT k cu cv d c).map fun e=>(2^w)^e).sum:=by rw[fv];rfl
   unfold xc;rw[e];refine mN (iu (by decide) hw6) (by rw[dq];exact Fw F Q hw6 hw G G.tl_few) (fun e m=>?_) (List.mem_map.mpr ⟨[],hn,rfl⟩);obtain⟨x,_,rfl⟩:=gO m;exact Nat.lt_succ_of_le (Nat.sub_le _ _)
  unfold o9;rw[ed];have key:=ba (S:=S) (ρ:=ρ) (elt:=.f .sum (.c (.p (.v 89) (.c [90,89] (.e (.v 91)) (.c (.q .Eq (.v 90) (.b .Sub (.b .Sub (.v 79) (.b .Mult (.l (.int 2)) (.v 92))) (.v 63))) .n) .n)) .n)) (tg:=[63]) (src:=.r (.c (.b .Add (.b .Sub (.v 79) (.b .Mult (.l (.int 2)) (.v 92))) (.l (.int 1))) .n)) (l:=List.range (fV k cu cv c-mK k cu cv-mK k cu cv+1)) (i:=aa) (g:=fun j=>aa ((uT k cu cv d c).count j))
   (dp (ag hK (aq (d:=aa 1)) (bS _ _)) r42) fun j mj=>⟨(ρ.del ([63]++[])).set 63 (aa j),rfl,by
    have hj:=Nat.le_of_lt_succ (List.mem_range.mp mj);have g79:((ρ.del ([63]++[])).set 63 (aa j)).get 79=some (aa (fV k cu cv c)):=ae (by decide) (aU (by decide) s.g79);have g92:((ρ.del ([63]++[])).set 63 (aa j)).get 92=some (aa (mK k cu cv)):=ae (by decide) (aU (by decide) s.g92);have g63:((ρ.del ([63]++[])).set 63 (aa j)).get 63=some (aa j):=am;have g91:((ρ.del ([63]++[])).set 63 (aa j)).get 91=some (Ia k cu cv (il d c (ak c))):=ae (by decide) (aU (by decide) g91);generalize (ρ.del ([63]++[])).set 63 (aa j)=ρ1 at g79 g92 g63 g91;have kf:=iI (S:=S) (ρ:=ρ1) (elt:=.v 89) (c:=.q .Eq (.v 90) (.b .Sub (.b .Sub (.v 79) (.b .Mult (.l (.int 2)) (.v 92))) (.v 63))) (tg:=[90,89]) (src:=.e (.v 91)) (l:=il d c (ak c)) (i:=JO k cu cv) (g:=fun p=>aa p.2) (p:=fun p=>decide (jb k cu cv p.1=fV k cu cv c-mK k cu cv-mK k cu cv-j)) (bi (ab g91) rfl) fun p _=>⟨((ρ1.del ([90,89]++[])).set 90 (aa (jb k cu cv p.1))).set 89 (aa p.2),rfl,by have K:∀{n:Nat}{e:D},n≠90->n≠89->ρ1.get n=some e->(((ρ1.del ([90,89]++[])).set 90 (aa (jb k cu cv p.1))).set 89 (aa p.2)).get n=some e:=fun a b g=>ae b (ae a (by rw[aB.get_del,if_neg (by simp[a,b])];exact g));have q79:=ab (S:=S) (K (by decide) (by decide) g79);have q92:=ab (S:=S) (K (by decide) (by decide) g92);have q63:=ab (S:=S) (K (by decide) (by decide) g63);have q90:(((ρ1.del ([90,89]++[])).set 90 (aa (jb k cu cv p.1))).set 89 (aa p.2)).get 90=some (aa (jb k cu cv p.1)):=ae (by decide) am;have t:=ag (S:=S) (ag q79 (ag (aq (d:=aa 2)) q92 (gj (a:=2) (by decide) (fy m6.2 (by decide)))) (aQ h2m)) q63 (aQ (b:=j) (by rw[e2];exact hj));rw[e2]at t;exact aL (ab q90) t ((lf _ _).trans (congrArg (fun b=>some (PyData.bool b)) (decide_eq_decide.mpr Int.ofNat_inj))),fun _=>ab am⟩;have el:(((il d c (ak c)).filter fun p=>decide (jb k cu cv p.1=fV k cu cv c-mK k cu cv-mK k cu cv-j)).map fun p=>aa p.2)=(((il d c (ak c)).filter fun p=>decide (jb k cu cv p.1=fV k cu cv c-mK k cu cv-mK k cu cv-j)).map fun p=>p.2).map aa:=by rw[fv];rfl
    rw[el]at kf;have:=en (ad kf aj) (lx _);rw[<- pB (f:=jb k cu cv),uD hj fun x m=>Nat.le_sub_of_add_le (hb x m)]at this;exact this⟩
  have er:((List.range (fV k cu cv c-mK k cu cv-mK k cu cv+1)).map fun j=>aa ((uT k cu cv d c).count j))=(bI (uT k cu cv d c) (fV k cu cv c-mK k cu cv-mK k cu cv+1)).map aa:=by unfold bI;rw[fv];rfl
  rw[er]at key;exact key
theorem KN (s:eX k cu cv d w c ρ)(g81:ρ.get 81=some (.list [a,o9 w (dS k cu cv w c),b]))(g85:ρ.get 85=some (aa (kS k cu cv d w c)))(g86:ρ.get 86=some (aa 0))(g87:ρ.get 87=some (o9 w (kS k cu cv d w c)))(g88:ρ.get 88=some (aa (dS k cu cv w c)))(h6:kS k cu cv d w c<2^600):ex S ρ Jk=some (.r (.bool true)):=by
 have w0:0<w:=iu (by decide) hw6;have e1:ev S ρ (.c 26 (.c (.s (.v 81) (.l (.int 1))) (.c (.v 84) .n)))=some (aa (dS k cu cv w c)):=by
  refine aT (ad (fu (ab g81) (aq (d:=aa 1)) (jN rfl)) (ad (ab s.g84) aj)) ?_;have hc:=zm F Q hw6 hw G;have eq:dS k cu cv w c=fD w (xc w (dS k cu cv w c)):=by
   rw[hc,kX]
   .show _=(List.map (fun e=>2^(w*e)) (List.map _ _)).sum;rw[fv];refine congrArg List.sum (List.map_congr_left fun x _=>?_);exact(Nat.pow_mul ..).symm
   .intro e m;obtain⟨x,_,rfl⟩:=gO m;exact Nat.lt_succ_of_le (Nat.sub_le _ _)
  have hlen:(xc w (dS k cu cv w c)).length<=43:=by rw[hc];unfold bI;rw[dq,List.length_range];exact Nat.succ_le_succ (az (Nat.sub_le _ _) (G.re42 Q))
  have hlt:∀x∈xc w (dS k cu cv w c),x<2^w:=by rw[hc];exact mI (by rw[dq];exact Fw F Q hw6 hw G G.few.1)
  rw[F.c26];unfold o9;have:=HG w0 (az (Nat.mul_le_mul hw hlen) (by decide)) (az hlen (by decide)) hlt;rw[<- eq]at this;exact this
 have e2:=aT (S:=S) (ad (ab g85) (ad (ab s.g84) aj)) (uN F.toFacts hw6 hw h6);exact cE (jW (lv (ad (ab g86) (ad e1 (ad e2 aj))) (j6 rfl)) (lv (ad (aq (d:=aa 0)) (ad (ab g88) (ad (ab g87) aj))) (j6 rfl)) (BO _ _ _))
end
end Internal
end
section
set_option exponentiation.threshold 1000
namespace Internal
variable {S:cL}{k cu cv:Nat}
section
variable (F:kA S)(Q:i5 k cu cv){d w:Nat}(hw6:6<=w)(hw:w<=11){c:List aG}(G:aK d c)(h1:1<=d)(hd:d<=4)
include F Q hw6 hw G h1 hd
theorem BY (s:eX k cu cv d w c ρ):eK S ρ (.c LW (.c LY (.c L0 (.c L4 (.c L6 (.c Jg (.c Jh (.c KI (.c KJ (.c KK (.c Ji (.c Jj (.c Jk .n)))))))))))))=some (.r (.bool true)):=by obtain⟨L,pL,e5⟩:=LX F Q G s.g47 s.g52;have s5:=s.set (n:=98) (e:=.list (L.map aa)) rfl;obtain⟨M,pM,e6⟩:=LZ F Q G s5.g47 s5.g52;have s6:=s5.set (n:=97) (e:=.list (M.map aa)) rfl;obtain⟨e7,q7⟩:=L1 F Q hw6 hw G s6;have s7:=(s6.set (n:=88) (e:=aa (dS k cu cv w c)) rfl).set (n:=99) (e:=aa 0) rfl;obtain⟨e8,q8⟩:=L5 F Q hw6 hw G s7;have s8:=(s7.set (n:=59) (e:=aa (ge k cu cv w c)) rfl).set (n:=86) (e:=aa w) rfl;refine af e5 (af e6 (af e7 (af e8 ?_)));have g98:(((((ρ.set 98 (.list (L.map aa))).set 97 (.list (M.map aa))).set 88 (aa (dS k cu cv w c))).set 99 (aa 0)).set 59 (aa (ge k cu cv w c))).set 86 (aa w) |> (fun r:aB=>r.get 98=some (.list (L.map aa))):=ae (by decide) (ae (by decide) (ae (by decide) (ae (by decide) (ae (by decide) am))));have g97:(((((ρ.set 98 (.list (L.map aa))).set 97 (.list (M.map aa))).set 88 (aa (dS k cu cv w c))).set 99 (aa 0)).set 59 (aa (ge k cu cv w c))).set 86 (aa w) |> (fun r:aB=>r.get 97=some (.list (M.map aa))):=ae (by decide) (ae (by decide) (ae (by decide) (ae (by decide) am)));have g88:(((((ρ.set 98 (.list (L.map aa))).set 97 (.list (M.map aa))).set 88 (aa (dS k cu cv w c))).set 99 (aa 0)).set 59 (aa (ge k cu cv w c))).set 86 (aa w) |> (fun r:aB=>r.get 88=some (aa (dS k cu cv w c))):=ae (by decide) (ae (by decide) (ae (by decide) am));have g99:(((((ρ.set 98 (.list (L.map aa))).set 97 (.list (M.map aa))).set 88 (aa (dS k cu cv w c))).set 99 (aa 0)).set 59 (aa (ge k cu cv w c))).set 86 (aa w) |> (fun r:aB=>r.get 99=some (aa 0)):=ae (by decide) (ae (by decide) am);have g59:(((((ρ.set 98 (.list (L.map aa))).set 97 (.list (M.map aa))).set 88 (aa (dS k cu cv w c))).set 99 (aa 0)).set 59 (aa (ge k cu cv w c))).set 86 (aa w) |> (fun r:aB=>r.get 59=some (aa (ge k cu cv w c))):=ae (by decide) am;have g86:(((((ρ.set 98 (.list (L.map aa))).set 97 (.list (M.map aa))).set 88 (aa (dS k cu cv w c))).set 99 (aa 0)).set 59 (aa (ge k cu cv w c))).set 86 (aa w) |> (fun r:aB=>r.get 86=some (aa w)):=am;show eK S ((((((ρ.set 98 (.list (L.map aa))).set 97 (.list (M.map aa))).set 88 (aa (dS k cu cv w c))).set 99 (aa 0)).set 59 (aa (ge k cu cv w c))).set 86 (aa w)) _=_;generalize (((((ρ.set 98 (.list (L.map aa))).set 97 (.list (M.map aa))).set 88 (aa (dS k cu cv w c))).set 99 (aa 0)).set 59 (aa (ge k cu cv w c))).set 86 (aa w)=ρ1 at s8 g98 g97 g88 g99 g59 g86;have g98:ρ1.get 98=some (.list (L.map aa)):=g98;have g97:ρ1.get 97=some (.list (M.map aa)):=g97;have g88:ρ1.get 88=some (aa (dS k cu cv w c)):=g88;have g99:ρ1.get 99=some (aa 0):=g99;have g59:ρ1.get 59=some (aa (ge k cu cv w c)):=g59;have g86:ρ1.get 86=some (aa w):=g86;have e9:=L7 F Q hw6 hw G s8 g88 g59 q7 q8;have s9:=s8.set (n:=81) (e:=.list [o9 w (nS k cu cv w),o9 w (dS k cu cv w c),o9 w (ge k cu cv w c)]) rfl;refine af e9 (af (KG F Q hw6 hw G s9 am (ae (by decide) g99) (ae (by decide) g86)) (af (KH F Q hw6 hw G s9 am pL pM (ae (by decide) g98) (ae (by decide) g97)) ?_));have s11:=(s9.set (n:=91) (e:=.list []) rfl).set (n:=95) (e:=Ar cu cv (io d c 0)) rfl;obtain⟨ρ2,e14,s14,g91,K⟩:=zI F Q G (is:=List.range (ak c)) (i:=0) (by rw[List.length_range,Nat.zero_add];exact G.reach1.2) s11 am (ae (by decide) am);rw[List.length_range,Nat.zero_add]at g91;have h88:=K 88 _ (by decide) (by decide) (by decide) (ae (by decide) (ae (by decide) (ae (by decide) g88)));have h81:=K 81 _ (by decide) (by decide) (by decide) (ae (by decide) (ae (by decide) am));refine af (aA (d:=.list []) rfl) (af (aA (d:=Ar cu cv (io d c 0)) rfl) (af (ik (dp (pu G.ne s11.g52) (az G.reach1.2 (by decide))) e14) ?_));obtain⟨e15,q15⟩:=KL F Q hw6 hw G h1 hd s14 h88;have s15:=(s14.set (n:=85) (e:=aa (kS k cu cv d w c)) rfl).set (n:=86) (e:=aa 0) rfl;have e16:=KM F Q hw6 hw G h1 hd s15 (ae (by decide) (ae (by decide) g91));have s16:=s15.set (n:=87) (e:=o9 w (kS k cu cv d w c)) rfl;refine af e15 (af e16 (aE ?_));exact KN F Q hw6 hw G h1 hd s16 (ae (by decide) (ae (by decide) (ae (by decide) h81))) (ae (by decide) (ae (by decide) am)) (ae (by decide) am) am (ae (by decide) (ae (by decide) (ae (by decide) h88))) q15
theorem Gf:aW S df [aa k,an [cu,cv],aa d,aa w,cK cu cv c,nU k cu cv c]=some (.bool true):=by refine dg rfl ?_;show eK S [(47,aa k),(62,an [cu,cv]),(64,aa d),(84,aa w),(52,cK cu cv c),(68,nU k cu cv c)] Hm=_;have p1:ex S _ LQ=_:=LR F Q G (ρ:=[(47,aa k),(62,an [cu,cv]),(64,aa d),(84,aa w),(52,cK cu cv c),(68,nU k cu cv c)]) rfl rfl;have p3:ex S [(47,aa k),(62,an [cu,cv]),(64,aa d),(84,aa w),(52,cK cu cv c),(68,nU k cu cv c),(100, .list ((Hg k cu cv).map aa)),(92,aa (mK k cu cv))] LS=_:=LT F Q G rfl;have p5:ex S [(47,aa k),(62,an [cu,cv]),(64,aa d),(84,aa w),(52,cK cu cv c),(68,nU k cu cv c),(100, .list ((Hg k cu cv).map aa)),(92,aa (mK k cu cv)),(79,aa (fV k cu cv c)),(94,aa (2^w))] LU=_:=LV F Q G hw hw6 rfl rfl rfl;refine af p1 (af (aA (en (ad (ab rfl) aj) (te _ _))) (af p3 (af (aA (ag (aq (d:=aa 2)) (ab rfl) (JY w (az hw (by decide))))) (af p5 ?_))));exact BY F Q hw6 hw G h1 hd ⟨rfl,rfl,rfl,rfl,rfl,rfl,rfl,rfl,rfl,rfl,rfl⟩
end
end Internal
end
section
set_option exponentiation.threshold 1000
namespace Internal
variable {S:cL}{k cu cv:Nat}
theorem sN (h:a.natAbs<=2^n)(hk:k<=7):Sm (n*7+1) (a^k):=by unfold Sm;rw[Int.natAbs_pow];refine fy (az (Nat.pow_le_pow_left h k) ?_) (Nat.pow_lt_pow_right (by decide) (Nat.lt_succ_self _));rw[<- Nat.pow_mul];exact Nat.pow_le_pow_right (by decide) (Nat.mul_le_mul_left n hk)
theorem F8 (h:a.natAbs<=2^n)(hn:n<=10)(hk:k<=7):cX .Pow (.int a) (aa k)=some (.int (a^k)):=by
 have h1:Sm (n+1) a:=fy h (Nat.pow_lt_pow_right (by decide) (Nat.lt_succ_self _));have hi:ib a*k<=77:=Nat.mul_le_mul (az h1.ib (Nat.succ_le_succ hn)) hk;show(if decide (0<=(k:Int))&&decide ((ib a:Int)*(k:Int)<=2^27)then some (PyData.int (a^((k:Int)).toNat))else none)=_;rw[if_pos]
 .rw[kj]
 .refine kY ⟨eD (Int.natCast_nonneg k),eD ?_⟩;rw[<- Int.natCast_mul];exact Int.le_trans (Int.ofNat_le.mpr hi) (by decide)
theorem BD (h:Sm n a)(k:Sm m b)(hn:n<=1000)(hm:m<=1000):cX .Mult (.int a) (.int b)=some (.int (a*b)):=GW (az h.ib (az hn (by decide))) (az k.ib (az hm (by decide)))
theorem u9 (xs:List Int):pj .sum [.list (xs.map PyData.int)]=some (.int xs.sum):=by show(fT (xs.map PyData.int)).map (fun ns=>PyData.int ns.sum)=_;rw[m5];rfl
theorem GU (h:b≠0)(k:Sm n b)(hn:n<=100):cX .FloorDiv (.int a) (.int b)=some (.int (a.fdiv b)):=by show(if b != 0&&decide (b.natAbs.log2<9000)then some (PyData.int (a.fdiv b))else none)=_;refine if_pos (kY ⟨bne_iff_ne.mpr h,eD ?_⟩);exact iu ((Nat.log2_lt (Int.natAbs_ne_zero.mpr h)).mpr k) (az hn (by decide))
theorem GV (h:b≠0):cX .Mod (.int a) (.int b)=some (.int (a.fmod b)):=if_pos (bne_iff_ne.mpr h)
theorem j2 (h:W≠0):mi (d*W+m) W=.tuple [.int (d+m.fdiv W), .int (m.fmod W)]:=by unfold mi;rw[Int.add_comm (d*W),Int.add_mul_fdiv_right _ _ h,Int.add_mul_fmod_self_right,Int.add_comm d]
theorem yL:∀qs:List (Int × Int),PyData.eqvAll (qs.map uj) (qs.map uj)=true
 |[]=>rfl
 |p::qs=>by show(((p.1==p.1)&&((p.2==p.2)&&true))&&PyData.eqvAll (qs.map uj) (qs.map uj))=true;rw[yL qs,beq_self_eq_true,beq_self_eq_true];rfl
theorem E5 (qs:List (Int × Int)):cY .Eq (.list (qs.map uj)) (.list (qs.map uj))=some (.bool true):=by
 have hd:eT 8 (.list (qs.map uj))=true:=List.all_eq_true.mpr fun x hx=>by obtain⟨p,_,rfl⟩:=gO hx;rfl
 show(if eT 8 (.list (qs.map uj))&&eT 8 (.list (qs.map uj))then some (PyData.bool (PyData.eqvAll (qs.map uj) (qs.map uj)))else none)=_;rw[hd,yL];rfl
def fs (p q:Int)(c:List aG):Int:=(p+q)^ak c
def gH (p q:Int)(c:List aG)(x:aG):Int:=p^x.count false*q^x.count true*(p+q)^(ak c-x.length)
abbrev kz (cu cv d:Nat)(c:List aG)(p q:Int)(m:Nat):aB:=[(62,an [cu,cv]),(64,aa d),(52,cK cu cv c),(58, .int p),(59, .int q),(104,aa m),(79,aa (ak c)),(105, .int (fs p q c)),(107, .list (c.map fun x=>.int (gH p q c x))),(106, .int (d*fs p q c))]
section
variable (F:Facts S)(hne:cu≠cv){d:Nat}{c:List aG}(G:aK d c){p q:Int}(hp:p.natAbs<=8)(hq:q.natAbs<=8){m:Nat}
include F hne G hp hq
theorem F9:(p+q).natAbs<=2^4:=az (Int.natAbs_add_le p q) (pW hp hq)
theorem zh (x:aG)(mx:x∈c):Sm 22 (p^x.count false)/\Sm 22 (q^x.count true)/\Sm 29 ((p+q)^(ak c-x.length)):=by have h7:=G.w7 x mx;exact⟨sN (n:=3) hp (az List.count_le_length h7),sN (n:=3) hq (az List.count_le_length h7),sN (n:=4) (F9 F hne G hp hq) (az (Nat.sub_le _ _) G.reach1.2)⟩
theorem Dv:(c.map (gH p q c)).sum=fs p q c:=by have e:(Be (ak c) []).map (fun k=>1*k)=Be (ak c) []:=(List.map_congr_left fun k _=>Nat.one_mul k).trans (List.map_id _);have:=zn (p:=p) (q:=q) (n:=fun _=>1) (m:=1) G.bd (G.one.trans e.symm);rw[Int.natCast_one,Int.one_mul]at this;refine Eq.trans (congrArg List.sum (List.map_congr_left fun x _=>?_)) this;rw[Int.one_mul];rfl
theorem AJ:(c.map fun x=>(x.length:Int)*gH p q c x).sum=d*fs p q c:=zn (p:=p) (q:=q) G.bd G.mean
theorem Mf (g52:ρ.get 52=some (cK cu cv c))(g58:ρ.get 58=some (.int p))(g59:ρ.get 59=some (.int q))(g62:ρ.get 62=some (an [cu,cv]))(g79:ρ.get 79=some (aa (ak c))):ex S ρ Le=some (.n (ρ.set 107 (.list (c.map fun x=>.int (gH p q c x))))):=by
 refine aA (ba (i:=fun x=>an (tw cu cv x)) (bi (ab g52) rfl) fun x mx=>⟨(ρ.del ([3]++[])).set 3 (an (tw cu cv x)),rfl, ?_⟩);obtain⟨c1,c2⟩:=Ei hne x;have m1:=vL (tw cu cv x) cu;have m2:=vL (tw cu cv x) cv;rw[c1]at m1;rw[c2]at m2;have h7:=G.w7 x mx;obtain⟨s1,s2,s3⟩:=zh F hne G hp hq x mx;have K:∀{n:Nat}{e:D},n≠3->ρ.get n=some e->((ρ.del ([3]++[])).set 3 (an (tw cu cv x))).get n=some e:=fun h g=>ae h (aU h g);have v58:=ab (S:=S) (K (by decide) g58);have v59:=ab (S:=S) (K (by decide) g59);have v62:=ab (S:=S) (K (by decide) g62);have v79:=ab (S:=S) (K (by decide) g79);have g3:((ρ.del ([3]++[])).set 3 (an (tw cu cv x))).get 3=some (an (tw cu cv x)):=am;exact ag (ag (ag v58 (mV (ab g3) (ad (fu (d:=an [cu]) v62 aq rfl) aj) m1) (F8 (n:=3) hp (by decide) (az List.count_le_length h7))) (ag v59 (mV (ab g3) (ad (fu (d:=an [cv]) v62 aq rfl) aj) m2) (F8 (n:=3) hq (by decide) (az List.count_le_length h7))) (BD s1 s2 (by decide) (by decide)))
  (ag (ag v58 v59 (oT _ _)) (ag v79 (eb (ab g3)) (aQ (G.bd x mx))) (F8 (F9 F hne G hp hq) (by decide) (az (Nat.sub_le _ _) G.reach1.2))) (BD (s1.mul s2) s3 (by decide) (by decide))
theorem Mg (nt:NT ρ)(g52:ρ.get 52=some (cK cu cv c))(g107:ρ.get 107=some (.list (c.map fun x=>.int (gH p q c x)))):ex S ρ Lf=some (.n (ρ.set 106 (.int (d*fs p q c)))):=by
 have src:=we (S:=S) (ρ:=ρ) (e1:=.v 52) (e2:=.v 107) (l:=c) (f:=fun x=>an (tw cu cv x)) (g:=fun x=>.int (gH p q c x)) nt (ab g52) (ab g107) (ku fun _ _=>rfl) (ku fun _ _=>rfl);have k3:=ba (S:=S) (ρ:=ρ) (elt:=.b .Mult (.f .len (.c (.v 3) .n)) (.v 102)) (tg:=[3,102]) (src:=.zip (.c (.v 52) (.c (.v 107) .n))) (l:=c) (i:=fun x=>.tuple [an (tw cu cv x), .int (gH p q c x)]) (g:=fun x=>.int ((x.length:Int)*gH p q c x)) src (fun x mx=>⟨((ρ.del ([3,102]++[])).set 3 (an (tw cu cv x))).set 102 (.int (gH p q c x)),rfl,by obtain⟨s1,s2,s3⟩:=zh F hne G hp hq x mx;exact ag (eb (ab (ae (by decide) am))) (ab am) (BD (qz (m:=3) (fy (G.w7 x mx) (by decide))) ((s1.mul s2).mul s3) (by decide) (by decide))⟩) (by rw[Bool.or_eq_true];exact .inr (ku fun _ _=>rfl));have el:(c.map fun x=>PyData.int ((x.length:Int)*gH p q c x))=(c.map fun x=>(x.length:Int)*gH p q c x).map PyData.int:=by rw[fv];rfl
 rw[el]at k3;have k4:=en (ad k3 aj) (u9 _);rw[AJ F hne G hp hq]at k4;exact aA k4
theorem wz:∃ρ1 ρ2 ρ3:aB,ex S [(62,an [cu,cv]),(64,aa d),(52,cK cu cv c),(58, .int p),(59, .int q),(104,aa m)] Mc=some (.n ρ1)/\ex S ρ1 Me=some (.n ρ2)/\ex S ρ2 Le=some (.n ρ3)/\ex S ρ3 Lf=some (.n (kz cu cv d c p q m)):=
 ⟨[(62,an [cu,cv]),(64,aa d),(52,cK cu cv c),(58, .int p),(59, .int q),(104,aa m),(79,aa (ak c))],[(62,an [cu,cv]),(64,aa d),(52,cK cu cv c),(58, .int p),(59, .int q),(104,aa m),(79,aa (ak c)),(105, .int (fs p q c))],
  [(62,an [cu,cv]),(64,aa d),(52,cK cu cv c),(58, .int p),(59, .int q),(104,aa m),(79,aa (ak c)),(105, .int (fs p q c)),(107, .list (c.map fun x=>.int (gH p q c x)))],aA (pu G.ne rfl),
  aA (ag (ag (x:=.int p) (y:=.int q) (ab rfl) (ab rfl) (oT _ _)) (ab (d:=aa (ak c)) rfl) (F8 (F9 F hne G hp hq) (by decide) G.reach1.2)),Mf F hne G hp hq rfl rfl rfl rfl rfl,
  Mg F hne G hp hq (NT.cons rfl (NT.cons rfl (NT.cons (Di c) (NT.cons rfl (NT.cons rfl (NT.cons rfl (NT.cons rfl (NT.cons rfl (NT.cons (ku fun _ _=>rfl) rfl))))))))) rfl rfl⟩
theorem Er:ev S (kz cu cv d c p q m) (.f .sum (.c (.v 107) .n))=some (.int (fs p q c)):=by
 have e:(c.map fun x=>PyData.int (gH p q c x))=(c.map (gH p q c)).map PyData.int:=by rw[fv];rfl
 have:=en (S:=S) (ρ:=kz cu cv d c p q m) (es:=.c (.v 107) .n) (ds:=[.list ((c.map (gH p q c)).map PyData.int)]) (by rw[<- e];rfl) (u9 _);rw[Dv F hne G hp hq]at this;exact this
theorem Eo:Sm 29 (fs p q c):=sN (n:=4) (F9 F hne G hp hq) G.reach1.2
theorem GJ (hd:d<=4)(hm:m<=100)(h0:fs p q c≠0):eK S (kz cu cv d c p q m) (.c Mh (.c Mu .n))=some (.r (.bool true)):=by
 have sw:=Eo F hne G hp hq;have sd:Sm 3 (d:Int):=qz (fy hd (by decide));have sm:Sm 7 (m:Int):=qz (fy hm (by decide));have sdw:=sd.mul sw;have k1:=Er F hne G hp hq (d:=d) (m:=m);generalize hW:fs p q c=W at h0 sw sdw k1;have g105:(kz cu cv d c p q m).get 105=some (.int W):=by rw[<- hW];rfl
 have g106:(kz cu cv d c p q m).get 106=some (.int (d*W)):=by rw[<- hW];rfl
 have g104:(kz cu cv d c p q m).get 104=some (aa m):=rfl;have g64:(kz cu cv d c p q m).get 64=some (aa d):=rfl;generalize kz cu cv d c p q m=ρ at k1 g105 g106 g104 g64;have v5:=ab (S:=S) g105;have v6:=ab (S:=S) g106;have v4:=ab (S:=S) g104;have c31:∀{e:E}{a:Int},ev S ρ e=some (.int a)->Sm 100 a->ev S ρ (.c 31 (.c e (.c (.v 105) .n)))=some (mi a W):=fun he ha=>aT (ad he (ad v5 aj)) (by rw[F.c31];exact vx h0 (ha.mono (by decide)) (sw.mono (by decide)));have q1:=c31 k1 (sw.mono (by decide));have q2:=c31 v6 (sdw.mono (by decide));have q3:=c31 (ag v6 v4 (oT _ _)) (((sdw.mono (by decide:3+29<=40)).add (sm.mono (by decide))).mono (by decide));have q4:=c31 (ag (oj v6) v4 (yD _ _)) (((sdw.mono (by decide:3+29<=40)).neg.sub (sm.mono (by decide))).mono (by decide));have z1:mi W W=uj (1,0):=by have:=j2 (d:=1) (m:=0) h0;rw[Int.one_mul,Int.add_zero,Int.zero_fdiv,Int.zero_fmod]at this;exact this
 have z2:mi ((d:Int)*W) W=uj ((d:Int),0):=by have:=j2 (d:=(d:Int)) (m:=0) h0;rw[Int.add_zero,Int.zero_fdiv,Int.zero_fmod,Int.add_zero]at this;exact this
 have z3:mi ((d:Int)*W+(m:Int)) W=uj ((d:Int)+(m:Int).fdiv W,(m:Int).fmod W):=j2 h0;have z4:mi (-((d:Int)*W)-(m:Int)) W=uj (-(d:Int)+(-(m:Int)).fdiv W,(-(m:Int)).fmod W):=by have:=j2 (d:=-(d:Int)) (m:=-(m:Int)) h0;rw[Int.neg_mul,<- Int.sub_eq_add_neg]at this;exact this
 rw[z1]at q1;rw[z2]at q2;rw[z3]at q3;rw[z4]at q4;have e4:ex S ρ Mh=some (.n (ρ.set 81 (.list ([(1,0),((d:Int),0),((d:Int)+(m:Int).fdiv W,(m:Int).fmod W),(-(d:Int)+(-(m:Int)).fdiv W,(-(m:Int)).fmod W)].map uj)))) :=
  af (aA (dj (ad q1 (ad q2 (ad q3 (ad q4 aj)))) (j6 rfl))) rfl
 refine af e4 (aE (cE ?_));generalize hL:[(1,0),((d:Int),0),((d:Int)+(m:Int).fdiv W,(m:Int).fmod W),(-(d:Int)+(-(m:Int)).fdiv W,(-(m:Int)).fmod W)]=L;have K:∀{n:Nat}{e:D},n≠81->ρ.get n=some e->(ρ.set 81 (.list (L.map uj))).get n=some e:=fun h g=>ae h g;have v5:=ab (S:=S) (K (by decide) g105);have v4:=ab (S:=S) (K (by decide) g104);have vd:=ab (S:=S) (K (by decide) g64);have t0:ev S (ρ.set 81 (.list (L.map uj))) (.q .NotEq (.v 105) (.l (.int 0)))=some (.bool true):=jW v5 aq (by rw[E3,fH h0];rfl);refine bi t0 (bi (x:=true) rfl ?_);have ee:=dj (S:=S) (ad (dD (aq (d:=.int 1)) (aq (d:=.int 0))) (ad (dD vd (aq (d:=.int 0))) (ad (dD (ag vd (ag v4 v5 (GU h0 sw (by decide))) (oT _ _)) (ag v4 v5 (GV h0))) (ad (dD (ag (oj vd) (ag (oj v4) v5 (GU h0 sw (by decide))) (oT _ _)) (ag (oj v4) v5 (GV h0))) aj)))) (j6 rfl);exact jW (ab am) ee (by rw[<- hL];exact E5 _)
theorem Io (hd:d<=4)(hm:m<=100)(h0:fs p q c≠0):aW S dF [an [cu,cv],aa d,cK cu cv c, .int p, .int q,aa m]=some (.bool true):=by obtain⟨ρ1,ρ2,ρ3,e0,e1,e2,e3⟩:=wz F hne G hp hq (m:=m);exact dg rfl (af e0 (af e1 (af e2 (af e3 (GJ F hne G hp hq hd hm h0)))))
end
end Internal
end
section
set_option exponentiation.threshold 1000
namespace Internal
variable {S:cL}{k cu cv:Nat}
structure nV (S:cL):Prop extends Facts S where
 rz:S.rz=true
 c51:∀cu cv d ns,cu≠cv->cu<55296->cv<55296->1<=d->d<=4->ns.length<=3->S.cal 51 [an [cu,cv],aa d, .list (ns.map aa)]=some (cK cu cv (lh d ns))
 c66:∀k cu cv d c r,i5 k cu cv->ji (wr k cu) (wr k cv)->aK d c->d<=4->r∈gI->S.cal 66 [aa k,cK cu cv c,nU k cu cv c,an (tw cu cv r)]=some (.tuple [aa d,aa 0])
 c83:∀k cu cv d w c,i5 k cu cv->6<=w->w<=11->aK d c->1<=d->d<=4->S.cal 83 [aa k,an [cu,cv],aa d,aa w,cK cu cv c,nU k cu cv c]=some (.bool true)
 c1103:∀cu cv d c p q m,cu≠cv->aK d c->d<=4->p.natAbs<=8->q.natAbs<=8->m<=100->S.cal (103+1000) [an [cu,cv],aa d,cK cu cv c, .int p, .int q,aa m]=some (.bool true)
noncomputable def qk (n:Nat):aH:=(List.range 3).map fun j=>n / 8^j % 8
theorem KC (F:nV S)(h:cu≠cv)(hu:cu<55296)(hv:cv<55296){ρ:aB}{cs:aH}(g:ρ.get 109=some (.list (cs.map aa)))(h2:cs[2]?=some c2)(g62:ρ.get 62=some (an [cu,cv]))(g64:ρ.get 64=some (aa d))(h1:1<=d)(h4:d<=4) :
  ex S ρ KB=some (.n (ρ.set 52 (cK cu cv (lh d (qk c2))))):=by
 have key:=ba (S:=S) (ρ:=ρ) (elt:=.b .Mod (.b .FloorDiv (.s (.v 109) (.l (.int 2))) (.b .Pow (.l (.int 8)) (.v 63))) (.l (.int 8))) (tg:=[63]) (src:=.r (.c (.l (.int 3)) .n)) (l:=List.range 3) (i:=aa) (g:=fun j=>aa (c2 / 8^j % 8))
  (dp (n:=3) aq (by decide)) fun j mj=>⟨(ρ.del ([63]++[])).set 63 (aa j),rfl,by have hj:=gp (List.mem_range.mp mj);have h8:(8:Nat)^j<2^60:=fy (Nat.pow_le_pow_right (by decide) hj) (by decide:8^3<2^60);have i4:ib ((8:Nat):Int)<=4:=ja (by decide);exact ag (ag (fe (i:=2) (ae (by decide) (aU (by decide) g)) h2) (ag (aq (d:=aa 8)) (ab am) (zl (az (Nat.mul_le_mul i4 hj) (by decide)))) (eM (Nat.pow_pos (by decide)) h8)) (aq (d:=aa 8)) (cD (by decide))⟩
 have e:((List.range 3).map fun j=>aa (c2 / 8^j % 8))=(qk c2).map aa:=by unfold qk;rw[fv];rfl
 rw[e]at key;exact aA (aT (ad (ab g62) (ad (ab g64) (ad key aj))) (F.c51 cu cv d _ h hu hv h1 h4 (Nat.le_of_eq rfl)))
theorem Gd (h1:1<=n)(h4:n<=4):kr m n∈gI:=by
 have m':=rO n (kr m n) (by unfold kr;rw[dq,List.length_range]);unfold gI;simp only[List.mem_append];rcases MB n (Nat.lt_succ_of_le h4)with rfl|rfl|rfl|rfl|rfl
 .exact absurd h1 (by decide)
 .exact .inl (.inl (.inl m'))
 .exact .inl (.inl (.inr m'))
 .exact .inl (.inr m')
 .exact .inr m'
theorem uW:∀l:List aH,PyData.eqvAll (l.map an) (l.map an)=true
 |[]=>rfl
 |x::l=>by show((tx x==tx x)&&PyData.eqvAll (l.map an) (l.map an))=true;rw[uW l,beq_self_eq_true];rfl
theorem Bq {i m:Nat}(h:i<8)(hm:m<7):i≠(i+1+m) % 8:=(show∀(i:Fin 8)(m:Fin 7),i.1≠(i.1+1+m.1) % 8 by decide) ⟨i,h⟩ ⟨m,hm⟩
theorem zu (n:Nat):(((n % 17:Nat):Int)-8).natAbs<=8:=by exact(show∀k:Fin 17,((k.1:Int)-8).natAbs<=8 by decide) ⟨n % 17,Nat.mod_lt _ (by decide)⟩
section
variable (F:nV S)(Q:i5 k cu cv)(y:ji (wr k cu) (wr k cv)){d:Nat}{c:List aG}(G:aK d c)(h1:1<=d)(hd:d<=4)
include F Q y G h1 hd
theorem pv (hf:∀x∈c,S.cal f [aa k,an (tw cu cv x)]=some (an (ww k cu cv x)))(g47:ρ.get 47=some (aa k))(g52:ρ.get 52=some (cK cu cv c)):ev S ρ (.p (.c f (.c (.v 47) (.c (.v 3) .n))) (.c [3] (.e (.v 52)) .n .n))=some (nU k cu cv c):=
 ba (i:=fun x=>an (tw cu cv x)) (bi (ab g52) rfl) fun x m=>⟨(ρ.del ([3]++[])).set 3 (an (tw cu cv x)),rfl,aT (ad (ab (ae (by decide) (aU (by decide) g47))) (ad (ab am) aj)) (hf x m)⟩
theorem Km (g109:ρ.get 109=some (.list ([c0,c1,c2,c3,c4].map aa)))(g47:ρ.get 47=some (aa k))(g62:ρ.get 62=some (an [cu,cv]))(g64:ρ.get 64=some (aa d))(g52:ρ.get 52=some (cK cu cv c)) :
  eK S ρ (.c KD (.c KE (.c KF (.c Hj (.c Hk (.c Hl .n))))))=some (.r (.bool true)):=by
 have w150:∀x∈c,x.length<=150:=fun x m=>az (G.w7 x m) (by decide);have e7:=pv F Q y G h1 hd (ρ:=ρ) (f:=46) (fun x m=>Q.written F.toFacts (w150 x m)) g47 g52;refine af (aA e7) ?_;have K:∀{n:Nat}{e:D},n≠68->ρ.get n=some e->(ρ.set 68 (nU k cu cv c)).get n=some e:=fun h g=>ae h g;have g68:(ρ.set 68 (nU k cu cv c)).get 68=some (nU k cu cv c):=am;have g109:=K (by decide) g109;have g47:=K (by decide) g47;have g62:=K (by decide) g62;have g64:=K (by decide) g64;have g52:=K (by decide) g52;generalize ρ.set 68 (nU k cu cv c)=ρ1 at g68 g109 g47 g62 g64 g52;have e8:=pv F Q y G h1 hd (ρ:=ρ1) (f:=48) (fun x m=>Q.spelled F.toFacts (w150 x m)) g47 g52;have c8:cY .NotEq (nU k cu cv c) (nU k cu cv c)=some (.bool false):=lg (List.all_eq_true.mpr fun x m=>by obtain⟨s,_,rfl⟩:=gO m;rfl) (by
  show PyData.eqvAll (c.map fun t=>an (ww k cu cv t)) (c.map fun t=>an (ww k cu cv t))=true;have:(c.map fun t=>an (ww k cu cv t))=(c.map fun t=>ww k cu cv t).map an:=by rw[fv];rfl
  rw[this,uW])
 refine af (hG (aL (ab g68) e8 c8) rfl) ?_;have cell:∀{i:Nat}{v:Nat}{ρ:aB},ρ.get 109=some (.list ([c0,c1,c2,c3,c4].map aa))->[c0,c1,c2,c3,c4][i]?=some v->ev S ρ (.s (.v 109) (.l (.int i)))=some (aa v):=fun g h=>fe g h;have hn:1+c3 % 4<=4:=by rw[Nat.add_comm];exact Nat.mod_lt c3 (show 0<4 by decide)
 have e9:=yO (S:=S) (ρ:=ρ1) Q.hu Q.hv (X:=.b .FloorDiv (.s (.v 109) (.l (.int 3))) (.l (.int 4))) (Y:=.b .Add (.l (.int 1)) (.b .Mod (.s (.v 109) (.l (.int 3))) (.l (.int 4)))) (m:=c3 / 4) (n:=1+c3 % 4) g62
  (fun j=>ag (cell (i:=3) (ae (by decide) (aU (by decide) g109)) rfl) (aq (d:=aa 4)) (eM (by decide) (by decide))) (ag (aq (d:=aa 1)) (ag (cell (i:=3) g109 rfl) (aq (d:=aa 4)) (cD (by decide))) (bS _ _)) (az hn (by decide))
 refine af (aA e9) ?_;have hr:kr (c3 / 4) (1+c3 % 4)∈gI:=Gd (je _ _) hn;generalize kr (c3 / 4) (1+c3 % 4)=r at hr;have K:∀{n:Nat}{e:D},n≠67->ρ1.get n=some e->(ρ1.set 67 (an (tw cu cv r))).get n=some e:=fun h g=>ae h g;have g67:(ρ1.set 67 (an (tw cu cv r))).get 67=some (an (tw cu cv r)):=am;have g109:=K (by decide) g109;have v47:=ab (S:=S) (K (by decide) g47);have v62:=ab (S:=S) (K (by decide) g62);have v64:=ab (S:=S) (K (by decide) g64);have v52:=ab (S:=S) (K (by decide) g52);have v68:=ab (S:=S) (K (by decide) g68);have v67:=ab (S:=S) g67;generalize ρ1.set 67 (an (tw cu cv r))=ρ2 at g109 v47 v62 v64 v52 v68 v67;refine af (hG (aL (aT (ad v47 (ad v52 (ad v68 (ad v67 aj)))) (F.c66 k cu cv d c r Q y G hd hr)) (dD v64 (aq (d:=aa 0))) (uC _ _)) rfl) ?_;have hw:ev S ρ2 (.b .Add (.l (.int 6)) (.b .Mod (.b .FloorDiv (.s (.v 109) (.l (.int 1))) (.l (.int 4))) (.l (.int 6))))=some (aa (6+c1 / 4 % 6)):=ag (aq (d:=aa 6)) (ag (ag (cell (i:=1) g109 rfl) (aq (d:=aa 4)) (eM (by decide) (by decide))) (aq (d:=aa 6)) (cD (by decide))) (bS _ _);have h11:6+c1 / 4 % 6<=11:=Nat.add_le_add_left (Nat.le_of_lt_succ (Nat.mod_lt (c1 / 4) (show 0<6 by decide))) 6;have t11:evT S ρ2 (.c 83 (.c (.v 47) (.c (.v 62) (.c (.v 64) (.c (.b .Add (.l (.int 6)) (.b .Mod (.b .FloorDiv (.s (.v 109) (.l (.int 1))) (.l (.int 4))) (.l (.int 6)))) (.c (.v 52) (.c (.v 68) .n)))))))=some true :=
  bi (bi (ad v47 (ad v62 (ad v64 (ad hw (ad v52 (ad v68 aj)))))) (F.c83 k cu cv d _ c Q (je _ _) h11 G h1 hd)) rfl
 have z11:evT S ρ2 (.z (.c 83 (.c (.v 47) (.c (.v 62) (.c (.v 64) (.c (.b .Add (.l (.int 6)) (.b .Mod (.b .FloorDiv (.s (.v 109) (.l (.int 1))) (.l (.int 4))) (.l (.int 6)))) (.c (.v 52) (.c (.v 68) .n))))))))=some false:=congrArg (Option.map (!·)) t11;refine af (hG z11 rfl) (aE ?_);have v4:=cell (i:=4) g109 rfl;have p1:=ag (S:=S) (ag v4 (aq (d:=aa 17)) (cD (by decide))) (aq (d:=.int 8)) (yD _ _);have p2:=ag (S:=S) (ag (ag v4 (aq (d:=aa 17)) (eM (by decide) (by decide))) (aq (d:=aa 17)) (cD (by decide))) (aq (d:=.int 8)) (yD _ _);have p3:=ag (S:=S) (aq (d:=aa 1)) (ag (ag v4 (aq (d:=aa 289)) (eM (by decide) (by decide))) (aq (d:=aa 50)) (cD (by decide))) (bS _ _);refine bi (ad v62 (ad v64 (ad v52 (ad p1 (ad p2 (ad p3 aj)))))) (bi (F.c1103 cu cv d c _ _ _ Q.code_ne G hd (zu _) (zu _) ?_) (if_pos F.rz));exact az (Nat.add_le_add_left (gp (Nat.mod_lt _ (by decide))) 1) (by decide)
end
theorem DL (F:nV S)(xs:List Int):aW S CL [.list (xs.map PyData.int)]=some (.bool true):=by
 refine dg rfl ?_;show eK S [(112, .list (xs.map PyData.int))] _=_;refine af (ρ':=[(112, .list (xs.map PyData.int)),(109, .list ([ii xs 5 176 0,ii xs 5 2 1,ii xs 5 2 2,ii xs 5 18 3,ii xs 5 62 4].map aa))]) (aA (z7 (ps:=[(0,176),(1,2),(2,2),(3,18),(4,62)]) (by decide) rfl (by decide) (by decide) (by decide) rfl)) ?_;generalize ii xs 5 176 0=c0;generalize ii xs 5 2 1=c1;generalize ii xs 5 2 2=c2;generalize ii xs 5 18 3=c3;generalize ii xs 5 62 4=c4;generalize PyData.list (xs.map PyData.int)=L;obtain⟨k,ek,hk⟩:∃k,c0 % 5=k/\k<5:=⟨_,rfl,Nat.mod_lt _ (by decide)⟩;obtain⟨i,ei,hi⟩:∃i,c0 / 5 % 8=i/\i<8:=⟨_,rfl,Nat.mod_lt _ (by decide)⟩;obtain⟨sg,cu,cv,esg,epr,Q,y⟩:∃sg cu cv,(∀{ρ:aB},ρ.get 109=some (.list ([c0,c1,c2,c3,c4].map aa))->ev S ρ (Mr 109)=some sg)/\(∀{ρ:aB},ρ.get 109=some (.list ([c0,c1,c2,c3,c4].map aa))->ρ.get 110=some sg->ρ.get 111=some (aa i)->ev S ρ (Mq 109 110 111)=some (an [cu,cv]))/\i5 k cu cv/\ji (wr k cu) (wr k cv) :=
  ⟨_,_,_,fun g=>HP g,fun g g2 g3=>HO g g2 g3 hi,GG hk (je _ _) (iu (Nat.add_lt_add_left (Nat.mod_lt _ (by decide)) 192) (by decide)) hi (Nat.mod_lt _ (by decide)) (Bq hi (Nat.mod_lt _ (by decide))),GA (v8 hk (je _ _) hi (Nat.mod_lt _ (by decide)) (Bq hi (Nat.mod_lt _ (by decide)))) (DS hk (je _ _) hi (Nat.mod_lt _ (by decide))) (DS hk (je _ _) (Nat.mod_lt _ (by decide)) hi)⟩
 refine af (ρ':=[(112,L),(109, .list ([c0,c1,c2,c3,c4].map aa)),(47,aa k)]) (aA (ρ:=[(112,L),(109, .list ([c0,c1,c2,c3,c4].map aa))]) (ag (fe (i:=0) (cs:=[c0,c1,c2,c3,c4]) rfl rfl) (aq (d:=aa 5)) (ek▸cD (by decide)))) ?_;refine af (ρ':=[(112,L),(109, .list ([c0,c1,c2,c3,c4].map aa)),(47,aa k),(110,sg)]) (aA (esg rfl)) ?_;refine af (ρ':=[(112,L),(109, .list ([c0,c1,c2,c3,c4].map aa)),(47,aa k),(110,sg),(111,aa i)]) (aA (ag (ag (fe (i:=0) (cs:=[c0,c1,c2,c3,c4]) rfl rfl) (aq (d:=aa 5)) (eM (by decide) (by decide))) (aq (d:=aa 8)) (ei▸cD (by decide)))) ?_;refine af (ρ':=[(112,L),(109, .list ([c0,c1,c2,c3,c4].map aa)),(47,aa k),(110,sg),(111,aa i),(62,an [cu,cv])]) (aA (epr rfl rfl rfl)) ?_;obtain⟨d,ed,h1,h4⟩:∃d,1+c1 % 4=d/\1<=d/\d<=4:=⟨_,rfl,je _ _,Nat.add_le_add_left (Nat.le_of_lt_succ (Nat.mod_lt c1 (show 0<4 by decide))) 1⟩;refine af (ρ':=[(112,L),(109, .list ([c0,c1,c2,c3,c4].map aa)),(47,aa k),(110,sg),(111,aa i),(62,an [cu,cv]),(64,aa d)]) (aA (ρ:=[(112,L),(109, .list ([c0,c1,c2,c3,c4].map aa)),(47,aa k),(110,sg),(111,aa i),(62,an [cu,cv])]) (ag (aq (d:=aa 1)) (ag (fe (i:=1) (cs:=[c0,c1,c2,c3,c4]) rfl rfl) (aq (d:=aa 4)) (cD (by decide))) (ed▸bS _ _))) ?_;refine af (ρ':=[(112,L),(109, .list ([c0,c1,c2,c3,c4].map aa)),(47,aa k),(110,sg),(111,aa i),(62,an [cu,cv]),(64,aa d),(52,cK cu cv (lh d (qk c2)))]) (KC F Q.code_ne Q.hu Q.hv (cs:=[c0,c1,c2,c3,c4]) (c2:=c2) rfl rfl rfl rfl h1 h4) ?_;have G:aK d (lh d (qk c2)):=Cr h1 h4 rfl fun n m=>by obtain⟨j,_,rfl⟩:=gO m;exact Nat.mod_lt _ (by decide)
 exact Km F Q y G h1 h4 (c0:=c0) (c1:=c1) (c2:=c2) (c3:=c3) (c4:=c4) rfl rfl rfl rfl rfl
end Internal
end
namespace Internal
theorem gW (h:m≠n):put cal n cf m=cal m:=funext fun _=>if_neg h
theorem oC:put cal n cf n=cf:=funext fun _=>if_pos rfl
theorem iL (h:∀m,m<51->cal m=gR m):Facts ⟨cal,gl,rz⟩ where
 c30:=h 30 (by decide)
 c26:=h 26 (by decide)
 c31:=h 31 (by decide)
 c32:=fun ps g a b c d=>by show cal 32 _=_;rw[h 32 (by decide)];exact BH ps g a b c d
 c320:=fun x g a=>by show cal 32 _=_;rw[h 32 (by decide)];exact zQ x g a
 c46:=fun k l a b=>by show cal 46 _=_;rw[h 46 (by decide)];exact BI k l a b
 c48:=fun k l a b=>by show cal 48 _=_;rw[h 48 (by decide)];exact BJ k l a b
def LG:List D->Option D:=fun ds=>aW ⟨gR,bC,false⟩ iO ds
def Jr:Nat->List D->Option D:=put gR 51 LG
def LH:List D->Option D:=fun ds=>aW ⟨Jr,bC,false⟩ eR ds
def ED:Nat->List D->Option D:=put Jr 66 LH
def LJ:List D->Option D:=fun ds=>aW ⟨ED,bC,false⟩ df ds
def zD:Nat->List D->Option D:=put ED 83 LJ
inductive Hv (ds:List D):Prop
 |mk (cu cv d:Nat) (c:List aG)(p q:Int) (m:Nat) (e:ds=[an [cu,cv],aa d,cK cu cv c, .int p, .int q,aa m])(h:cu≠cv)(G:aK d c)(hd:d<=4)(hp:p.natAbs<=8)(hq:q.natAbs<=8)(hm:m<=100)
open Classical in
def uz:List D->Option D:=fun ds=>if Hv ds then some (.bool true)else none
def vz:Nat->List D->Option D:=put zD (103+1000) uz
theorem IZ (h:uz ds=some d):Hv ds/\d=.bool true:=by
 unfold uz at h;by_cases c:Hv ds
 .exact⟨c,(aC ((if_pos c).symm.trans h)).symm⟩
 .exact nn ((if_neg c).symm.trans h)
theorem zC (h:m<51):Jr m=gR m:=gW (Nat.ne_of_lt h)
theorem uc (h:m<51):ED m=gR m:=(gW (Nat.ne_of_lt (Nat.lt_trans h (by decide))):ED m=Jr m).trans (zC h)
theorem zE (h:m<51):zD m=gR m:=(gW (Nat.ne_of_lt (Nat.lt_trans h (by decide))):zD m=ED m).trans (uc h)
theorem wv (h:m<1000):vz m=zD m:=gW (Nat.ne_of_lt (Nat.lt_trans h (by decide)))
theorem Ci:zD (f+1000)=fun _=>none:=by have k:∀{cal:Nat->List D->Option D}{n:Nat}{cf:List D->Option D},n<1000->put cal n cf (f+1000)=cal (f+1000):=fun h=>gW (Nat.ne_of_gt (iu h (Nat.le_add_left _ _)));unfold zD ED Jr gR uy rm ux uw uv uu ut rk BG BF GZ GY EX;rw[k (by decide),k (by decide),k (by decide),k (by decide),k (by decide),k (by decide),k (by decide),k (by decide),k (by decide),k (by decide),k (by decide),k (by decide),k (by decide),k (by decide),k (by decide),k (by decide),k (by decide),k (by decide)]
theorem MD:vz 51=LG:=(wv (by decide)).trans ((gW (by decide):zD 51=ED 51).trans ((gW (by decide):ED 51=Jr 51).trans oC))
theorem ME:vz 66=LH:=(wv (by decide)).trans ((gW (by decide):zD 66=ED 66).trans oC)
theorem MF:vz 83=LJ:=(wv (by decide)).trans oC
theorem Fv:nV ⟨vz,bC,true⟩:={ iL (gl:=bC) (rz:=true) fun m h=>(wv (Nat.lt_trans h (by decide))).trans (zE h)with
 rz:=rfl
 c51:=fun cu cv d ns h hu hv h1 h4 hn=>(congrFun MD _).trans (DG h hu hv h1 h4 hn)
 c66:=fun k cu cv d c r Q y G hd hr=>(congrFun ME _).trans (DM (iL fun m h=>zC h) Q y G hd hr)
 c83:=fun k cu cv d w c Q h6 h11 G h1 hd=>(congrFun MF _).trans (Gf { iL (gl:=bC) (rz:=false) fun m h=>uc h with c24:=(uc (by decide):ED 24=gR 24) } Q h6 h11 G h1 hd)
 c1103:=fun cu cv d c p q m h G hd hp hq hm=>(congrFun (oC:vz (103+1000)=uz) _).trans (if_pos ⟨cu,cv,d,c,p,q,m,rfl,h,G,hd,hp,hq,hm⟩) }
section
variable {p prog:Program}{loose:List Str}{mean:ExcName->Option Value}{w:World}{h:Heap}{mg mb:Str->Option Value}{c1 P1 c2 P2:Addr}
theorem l1_pre:∀(i:Nat) (x:Str),gL[i]?=some x->bW[i]?=some x:=fun i x hx=>by
 have hi:i<gL.length:=by
  rcases Nat.lt_or_ge i gL.length with q|q
  .exact q
  .rw[Ao q]at hx;exact nn hx
 unfold bW;rw[List.getElem?_append_left hi];exact hx
def MG (nm:List Str)(p:Program):Bool:=rY p "_law_weights_told" fun d=>Jl ⟨nm,d.scope.names,[]⟩ Mc Me Le Lf (.c (.f .sum (.c (.v 107) .n)) (.c (.v 105) .n)) 105 d.body
set_option tactic.hygienic true in
theorem law1_at (T:Top p loose mean mg mb h)(hT:TabsAt [(c1,P1),(c2,P2)] h)(hne:P1≠P2)(R:yv p loose bW (dy p "_int2digits") (dy p "_digits2int"))(hc1:iB mg h "_int2digits" c1)(hc2:iB mg h "_digits2int" c2)
  (r51:eY bW p "_law_code" iO ["pair", "degree", "picks"]=true) (r66:eY bW p "_law_ring_told" eR ["kind", "code", "written", "ring"]=true) (r83:eY bW p "_law_divisions_told" df ["kind", "pair", "degree", "width", "code", "written"]=true)
  (r103:eY bW p "_law_weights_told" dF ["pair", "degree", "code", "one", "other", "more"]=true) (rw:MG bW p=true)(rl:eY bW p "law" CL ["script"]=true)
  {fa:Addr}{s₁:Shared}{vals:eU}{xs:List Int}{Q:bg}{E:bg}(hs:s₁.heap=h)(htk:0<s₁.toks)(hmg:mg "law" = some (.ref fa)) (r:ai w [] h vals [.list (xs.map PyData.int)])
  (q:∀v s',Ext (fh prog w h mg mb c1 P1 c2 P2 (dy p "_int2digits") (dy p "_digits2int") bW) s₁ s'->av w [] s'.heap v (.bool true)->Q v s'):wpAny (model prog w) callerA (call (.ref fa) vals) Q E s₁:=by
 subst hs;have ok:oI (fh prog w s₁.heap mg mb c1 P1 c2 P2 (dy p "_int2digits") (dy p "_digits2int") bW):=DT T hT hne R;have gl:g8 (fh prog w s₁.heap mg mb c1 P1 c2 P2 (dy p "_int2digits") (dy p "_digits2int") bW) bC:=Hc T hT hne R;have f0:cI (fh prog w s₁.heap mg mb c1 P1 c2 P2 (dy p "_int2digits") (dy p "_digits2int") bW) gR 43 239:=IC T hT hne R hc1 hc2;have f1:=cI.rc T hT ok gl (n:=51) (cf:=LG) (by decide) rfl r51 f0 fun ds d e=>e;have f2:=cI.rc T hT ok gl (n:=66) (cf:=LH) (by decide) rfl r66 f1 fun ds d e=>e;have f3:cI (fh prog w s₁.heap mg mb c1 P1 c2 P2 (dy p "_int2digits") (dy p "_digits2int") bW) zD 46 248:=cI.rc T hT ok gl (n:=83) (cf:=LJ) (by decide) rfl r83 f2 fun ds d e=>e;have fz:∀A:Around,A.handled=none->A.depth+46<recursionLimit->A.units+248<cLine->kq (fh prog w s₁.heap mg mb c1 P1 c2 P2 (dy p "_int2digits") (dy p "_digits2int") bW) A vz:=fun A hh hr hu=>⟨fun f x ds d hf hcal=>by
  refine(f3.go A hh hr hu).go f x ds d hf ?_;have hlt:f<1000:=by
   rcases Nat.lt_or_ge f 1000 with g|g
   .exact g
   .have:bW[f]?=none:=Ao (az (by decide) g);exact nn (this.symm.trans hf)
  rw[<- wv hlt];exact hcal⟩
 obtain⟨a,fd,d,-,hm,Df,hf,-⟩:=tO (prog:=prog) (w:=w) (pos1:=dy p "_int2digits") (pos2:=dy p "_digits2int") T hT rl;rw[hmg]at hm;cases hm;have dlim:callerA.depth+200<recursionLimit:=by decide
 have ulim:callerA.units+600<cLine:=by decide
 have FO:∀env,kq (fh prog w s₁.heap mg mb c1 P1 c2 P2 (dy p "_int2digits") (dy p "_digits2int") bW) (callerA.deeper env) vz:=fun env=>fz _ rfl (fy (by show callerA.depth+1+46<=callerA.depth+200;rw[Nat.add_assoc];exact Nat.add_le_add_left (by decide) _) dlim) (fy (by show callerA.units+3+248<=callerA.units+600;rw[Nat.add_assoc];exact Nat.add_le_add_left (by decide) _) ulim);refine pA (S:=⟨vz,bC,true⟩) ok rfl (by decide) (by decide) (FA hT) htk (fun _ m=>by cases m) r Df hf FO gl ?_ (DL Fv xs) Q E q;generalize hce:callEnvC fd s₁.heap.objs.size fa=law;have e1:law.frame=some law.locals:=by rw[<- hce];rfl
 have e2:law.scope.kind=.function:=by rw[<- hce];exact Df.kind
 have e3:law.scope.names=fd.scope.names:=by rw[<- hce];rfl
 refine Jp (fun{f x ds dr} hfx hcal=>?_) fun own hn=>⟨rfl,e3,fun n=>by rw[hn];simp,e2,FO _,gl,rfl,fy (by show callerA.units+3+100<=callerA.units+600;rw[Nat.add_assoc];exact Nat.add_le_add_left (by decide) _) ulim⟩;have hcal:vz (f+1000) ds=some dr:=hcal;have hf3:f=103:=by
  by_cases c:f+1000=103+1000
  .exact Nat.add_right_cancel c
  .have:vz (f+1000) ds=zD (f+1000) ds:=if_neg c;rw[this,Ci]at hcal;exact nn hcal
 subst hf3;obtain⟨⟨cu,cv,dd,c,P,q',m,rfl,hcc,G,hd,hp,hq,hmm⟩,rfl⟩:=IZ (hcal:uz ds=some dr);have h103:bW[103]?=some ("_law_weights_told" : Str):=rfl;obtain rfl:x=("_law_weights_told" : Str):=(aC (h103.symm.trans hfx)).symm;obtain⟨aw,fw,dw,hdw,hmw,Dw,hfw,hsw⟩:=tO (prog:=prog) (w:=w) (pos1:=dy p "_int2digits") (pos2:=dy p "_digits2int") T hT r103;obtain⟨ow,how,hdatw⟩:=Dw.at';refine⟨rfl,aw,ow,fw,hmw,how,hdatw,fun{O s vs Q' E'} B pk ov rv hl0 hLl k=>?_⟩;have FW:∀env,kq (fh prog w s₁.heap mg mb c1 P1 c2 P2 (dy p "_int2digits") (dy p "_digits2int") bW) ((callerA.deeper law).deeper env) zD:=fun env=>f3.go _ rfl (fy (by show callerA.depth+1+1+46<=callerA.depth+200;rw[Nat.add_assoc,Nat.add_assoc];exact Nat.add_le_add_left (by decide) _) dlim) (fy (by show callerA.units+3+3+248<=callerA.units+600;rw[Nat.add_assoc,Nat.add_assoc];exact Nat.add_le_add_left (by decide) _) ulim);have FF:Facts ⟨zD,bC,false⟩:=iL fun m h=>zE h;have u1:(callerA.deeper law).units+103<cLine:=fy (by show callerA.units+3+103<=callerA.units+600;rw[Nat.add_assoc];exact Nat.add_le_add_left (by decide) _) ulim;have u2:(callerA.deeper law).units+3+103<cLine:=fy (by show callerA.units+3+3+103<=callerA.units+600;rw[Nat.add_assoc,Nat.add_assoc];exact Nat.add_le_add_left (by decide) _) ulim;have d1:(callerA.deeper law).depth+1<recursionLimit:=fy (by show callerA.depth+1+1<=callerA.depth+200;rw[Nat.add_assoc];exact Nat.add_le_add_left (by decide) _) dlim;by_cases c0:fs P q' c=0
 .obtain⟨ρ1,ρ2,ρ3,s0,s1,s2,s3⟩:=wz FF hcc G hp hq (m:=m);have sm:=Er FF hcc G hp hq (d:=dd) (m:=m);rw[c0]at sm;have g105:(kz cu cv dd c P q' m).get 105=some (.int 0):=by rw[<- c0];rfl
  obtain⟨a0,fd0,d0,hd0,hm0,Df0,hf0,hsc0⟩:=tO (prog:=prog) (w:=w) (pos1:=dy p "_int2digits") (pos2:=dy p "_digits2int") T hT R.r31;obtain⟨d1',h1,hz⟩:=j9 R.z;rw[hd0]at h1;obtain rfl:=aC h1;obtain⟨d2,h2,hzb⟩:=j9 rw;rw[hdw]at h2;obtain rfl:=aC h2;have hz:=Bg hz;generalize hbody:d0.body=bd at hz Df0 hf0;cases hz;rename_i hz;obtain⟨hz,z3⟩:=bH hz;obtain⟨z1,z2⟩:=bH hz;obtain rfl:=eC z1;exact GK (law:=law) (f0:=bL) (f:=dF) (S:=⟨zD,bC,false⟩) (ib:=21) (w:=105) ok rfl d1 u2 rfl e1 e2 hl0 hLl hm0 Df0 ((bH ((bH hf0).1)).2) rfl rfl rfl (by rw[hsc0];exact z2) (by rw[hsc0];exact eC z3) (yU T R.nz)
   B pk ov rv Dw hfw FW gl rfl rfl rfl (by rw[hsw];exact hzb) s0 s1 s2 s3 (ad sm (ad (ab g105) aj)) g105 k
 .exact pA (S:=⟨zD,bC,false⟩) ok rfl (Nat.lt_of_succ_lt d1) u1 B pk ov rv Dw hfw FW gl (EB rfl) (Io FF hcc G hp hq hd hmm c0) Q' E' fun v s' x r'=>by obtain rfl:=r'.bool_inv;exact k s' x.sext
end
end Internal
end
open PySem PySem.W PySem.W.X PySem.W.ZRun PyProof.Rows PySem.Calls PySem.Spec
set_option maxRecDepth 100000 in
set_option maxHeartbeats 0 in
theorem PySem.Challenge.cw_tc0039_01_holds : PySem.Challenge.rw_tc0039_01.Holds := by
 w_on
 refine holds_law (by decide +kernel) fun said=>?_
 refine holds_openX (q:=Internal.viewOf PySem.Challenge.pw_tc0039_01) (loose:=[]) (Xt:=fun s=>xlAt (Internal.viewOf PySem.Challenge.pw_tc0039_01) [] s&&recOk (RowW.records (PySem.Challenge.rw_tc0039_01).row.toRowW) s) (XP:=XL (Internal.viewOf PySem.Challenge.pw_tc0039_01) []) (Yf:=Internal.obs5) (Ya:=Internal.val5 30 37 375) (N:=2000) ?hl (fun s e=>xl_of s (Bool.and_eq_true_iff.mp e).1) XL.keeps (by rfl) (by rfl) (by rfl) (fun s e=>recFacts_of (Bool.and_eq_true_iff.mp e).2) (by rfl) (by first|assumption|decide +kernel) (by decide +kernel) ⟨rfl,rfl,rfl,rfl,rfl,by decide +kernel⟩ ?hw ?hc
 case hw=>w_witness2
 case hl=>intro w;kernel_rfl
 intro w s₀ s₁ mg mb G y fa o pm cd doc dV kV ho hd hcd hD hmg hg args vals as L hpre hlay hrd hwl hlo
 refine Ground.open G ?_
 intro T B D TE TW
 clear ho hd hcd hD
 wrow_args hpre hlay hrd hwl hlo
 obtain⟨ht,c1,c2,hT,hc1,hc2⟩:=Internal.obs_at y L.keeps T rfl rfl
 have htk:=script_toks L ht
 refine Internal.law1_at T hT (by decide) ?R hc1 hc2 ?r51 ?r66 ?r83 ?r103 ?rw ?rl rfl (Nat.lt_of_lt_of_le (by decide) htk) hmg (Internal.script_reps (by assumption) (by assumption) (by omega)) fun v s' x r=>Internal.gc_end hT x r hg (fun _ _=>rfl) (by wrow_post)
 case R=>exact{
  nd:=by decide +kernel
  pre:=Internal.l1_pre
  nb:=by decide +kernel
  nz:=by decide +kernel
  g23:=by kernel_rfl
  g39:=by kernel_rfl
  b:=by decide +kernel
  z:=by decide +kernel
  r12:=by decide +kernel
  r24:=by decide +kernel
  r31:=by decide +kernel
  r32:=by decide +kernel
  r40:=by decide +kernel
  r42:=by decide +kernel
  r43:=by decide +kernel
  r44:=by decide +kernel
  r45:=by decide +kernel
  r46:=by decide +kernel
  r48:=by decide +kernel }
 case r51=>decide +kernel
 case r66=>decide +kernel
 case r83=>decide +kernel
 case r103=>decide +kernel
 case rw=>decide +kernel
 case rl=>decide +kernel
