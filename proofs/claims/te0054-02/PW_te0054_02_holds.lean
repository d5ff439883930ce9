import PyProof.Rows.All
import KE.KAnyBase
import KE.KDictAnyGet
import KE.KDictIter
import KE.KDictList
import KE.KDictNew
import KE.KDictObj
import KE.KPar
import KE.KxPercent
import KE.KSuper
import Lean
import PySem.Challenge.RW_te0054_02
set_option tactic.hygienic false
set_option maxRecDepth 100000
set_option linter.all false
set_option genCtorIdx false
set_option genInjectivity false
set_option genSizeOf false
set_option Elab.async false
set_option maxHeartbeats 4000000
open PySem PySem.W PySem.Spec PySem.Calls PyProof.Rows
namespace Mine.Internal
def q5:=@Nat.le_trans
def q6:=@List.length_append
def q7:=@List.mem_append_right
def q8:=@wpAny_bind
def q9:=@Bool.and_eq_true
def r7:=@List.append_assoc
def r8:=@of_decide_eq_true
def r9:=@Nat.le_of_eq
def s8:=@List.mem_cons
def s9:=@List.contains_iff_mem
def t7:=@List.length_map
def t8:=@Int.add_assoc
def t9:=@Nat.add_le_add_left
def u0:=@decide_eq_false
def u4:=@Int.natCast_nonneg
def u5:=@List.all_eq_true
def u6:=@List.map_append
def u7:=@decide_eq_true
def u9:=@Int.add_zero
def v7:=@Nat.add_comm
def v8:=@List.size_toArray
def v9:=@Nat.lt_of_le_of_lt
def w7:=@Nat.le_refl
def w8:=@List.append_nil
def w9:=@Nat.le_succ_of_le
def x6:=@List.nodup_cons
def x7:=@Nat.le_add_right
def x8:=@List.getD_eq_getElem?_getD
def x9:=@Nat.lt_succ_self
noncomputable abbrev mZ:=Str->Option Value
noncomputable abbrev dQ:=Value->Shared->Prop
variable{p:Pos}{K:Int->Nat}{L:Int}{M:Model}{f:Addr}{m:mZ}{e:Expr}{d:Nat}{h:Heap}{o:Expr}{l:List (Str×Str)}{v:Value}{x:Str}{r:List Nat}{Er:dQ}{args:List Expr}{pos:Pos}{op:CmpOp}{body:List Stmt}{y:Str}{qual:Str}{scope:Scope}{dV:Value}{fW:Value}{ns:List Str}{es:List DictEntry}{apos:Pos}{dx:Addr}{Cl:Addr}{fI:Addr}{np:Pos}{Dl:Addr}{kvs:List (Int×Value)}{cp:Pos}{ka:Addr}{ko:Obj}{aS:Addr}{dS:Addr}{keys:List Nat}{text:List Nat}
theorem aR{p:Prop}[Decidable p](h:decide p=true):p:=r8 h
section
variable{α:Sort _}{β:Sort _}{γ:Sort _}{δ:Sort _}{ε:Sort _}{ζ:Sort _}{η:Sort _}{θ:Sort _}{κ:Sort _}{R:Prop}
theorem lZ{A B C:Prop}(h:A/\B/\C)(f:A->B->C->R):R:=f h.1 h.2.1 h.2.2
theorem rB{A B C D:Prop}(h:A/\B/\C/\D)(f:A->B->C->D->R):R:=f h.1 h.2.1 h.2.2.1 h.2.2.2
theorem yR{A B C D E:Prop}(h:A/\B/\C/\D/\E)(f:A->B->C->D->E->R):R:=f h.1 h.2.1 h.2.2.1 h.2.2.2.1 h.2.2.2.2
theorem bQ{A B:α->Prop}(h:∃x,A x/\B x)(f:∀x,A x->B x->R):R:=h.elim fun x h=>f x h.1 h.2
theorem jM{A B C:α->Prop}(h:∃x,A x/\B x/\C x)(f:∀x,A x->B x->C x->R):R:=h.elim fun x h=>f x h.1 h.2.1 h.2.2
theorem DP{A B C D:α->Prop}(h:∃x,A x/\B x/\C x/\D x)(f:∀x,A x->B x->C x->D x->R):R:=h.elim fun x h=>f x h.1 h.2.1 h.2.2.1 h.2.2.2
theorem DQ{A B C D E:α->Prop}(h:∃x,A x/\B x/\C x/\D x/\E x)(f:∀x,A x->B x->C x->D x->E x->R):R:=h.elim fun x h=>f x h.1 h.2.1 h.2.2.1 h.2.2.2.1 h.2.2.2.2
theorem Ho{A:α->β->Prop}(h:∃x y,A x y)(f:∀x y,A x y->R):R:=h.elim fun x h=>h.elim fun y h=>f x y h
theorem Mr{A B:α->β->Prop}(h:∃x y,A x y/\B x y)(f:∀x y,A x y->B x y->R):R:=h.elim fun x h=>h.elim fun y h=>f x y h.1 h.2
theorem Ms{A B C:α->β->Prop}(h:∃x y,A x y/\B x y/\C x y)(f:∀x y,A x y->B x y->C x y->R):R:=h.elim fun x h=>h.elim fun y h=>f x y h.1 h.2.1 h.2.2
theorem Xh{A B C D:α->β->Prop}(h:∃x y,A x y/\B x y/\C x y/\D x y)(f:∀x y,A x y->B x y->C x y->D x y->R):R:=h.elim fun x h=>h.elim fun y h=>f x y h.1 h.2.1 h.2.2.1 h.2.2.2
theorem QE{A B C D E:α->β->Prop}(h:∃x y,A x y/\B x y/\C x y/\D x y/\E x y)(f:∀x y,A x y->B x y->C x y->D x y->E x y->R):R:=h.elim fun x h=>h.elim fun y h=>f x y h.1 h.2.1 h.2.2.1 h.2.2.2.1 h.2.2.2.2
theorem Mt{A B C D E F:α->β->Prop}(h:∃x y,A x y/\B x y/\C x y/\D x y/\E x y/\F x y)(f:∀x y,A x y->B x y->C x y->D x y->E x y->F x y->R):R:=h.elim fun x h=>h.elim fun y h=>f x y h.1 h.2.1 h.2.2.1 h.2.2.2.1 h.2.2.2.2.1 h.2.2.2.2.2
theorem QF{A:α->β->γ->Prop}(h:∃x y z,A x y z)(f:∀x y z,A x y z->R):R:=h.elim fun x h=>h.elim fun y h=>h.elim fun z h=>f x y z h
theorem Hp{A B:α->β->γ->Prop}(h:∃x y z,A x y z/\B x y z)(f:∀x y z,A x y z->B x y z->R):R:=h.elim fun x h=>h.elim fun y h=>h.elim fun z h=>f x y z h.1 h.2
theorem Xi{A B C:α->β->γ->Prop}(h:∃x y z,A x y z/\B x y z/\C x y z)(f:∀x y z,A x y z->B x y z->C x y z->R):R:=h.elim fun x h=>h.elim fun y h=>h.elim fun z h=>f x y z h.1 h.2.1 h.2.2
theorem Hq{A B C D:α->β->γ->Prop}(h:∃x y z,A x y z/\B x y z/\C x y z/\D x y z)(f:∀x y z,A x y z->B x y z->C x y z->D x y z->R):R:=h.elim fun x h=>h.elim fun y h=>h.elim fun z h=>f x y z h.1 h.2.1 h.2.2.1 h.2.2.2
theorem Xj{A B C D E:α->β->γ->Prop}(h:∃x y z,A x y z/\B x y z/\C x y z/\D x y z/\E x y z)(f:∀x y z,A x y z->B x y z->C x y z->D x y z->E x y z->R):R:=h.elim fun x h=>h.elim fun y h=>h.elim fun z h=>f x y z h.1 h.2.1 h.2.2.1 h.2.2.2.1 h.2.2.2.2
theorem QH{A B C D E F:α->β->γ->δ->Prop}(h:∃x y z u,A x y z u/\B x y z u/\C x y z u/\D x y z u/\E x y z u/\F x y z u)(f:∀x y z u,A x y z u->B x y z u->C x y z u->D x y z u->E x y z u->F x y z u->R):R:=h.elim fun x h=>h.elim fun y h=>h.elim fun z h=>h.elim fun u h=>f x y z u h.1 h.2.1 h.2.2.1 h.2.2.2.1 h.2.2.2.2.1 h.2.2.2.2.2
theorem Mu{A B C D:α->β->γ->δ->ε->Prop}(h:∃x y z u v,A x y z u v/\B x y z u v/\C x y z u v/\D x y z u v)(f:∀x y z u v,A x y z u v->B x y z u v->C x y z u v->D x y z u v->R):R:=h.elim fun x h=>h.elim fun y h=>h.elim fun z h=>h.elim fun u h=>h.elim fun v h=>f x y z u v h.1 h.2.1 h.2.2.1 h.2.2.2
theorem QJ{A B C D E F G H:α->β->γ->δ->ε->Prop}(h:∃x y z u v,A x y z u v/\B x y z u v/\C x y z u v/\D x y z u v/\E x y z u v/\F x y z u v/\G x y z u v/\H x y z u v)(f:∀x y z u v,A x y z u v->B x y z u v->C x y z u v->D x y z u v->E x y z u v->F x y z u v->G x y z u v->H x y z u v->R):R:=h.elim fun x h=>h.elim fun y h=>h.elim fun z h=>h.elim fun u h=>h.elim fun v h=>f x y z u v h.1 h.2.1 h.2.2.1 h.2.2.2.1 h.2.2.2.2.1 h.2.2.2.2.2.1 h.2.2.2.2.2.2.1 h.2.2.2.2.2.2.2
theorem fH{A B C:Prop}(a:A)(b:B)(c:C):A/\B/\C:=⟨a,b,c⟩
theorem JU{A B C D:Prop}(a:A)(b:B)(c:C)(d:D):A/\B/\C/\D:=⟨a,b,c,d⟩
theorem fG{A B:α->Prop}(x:α)(a:A x)(b:B x):∃x,A x/\B x:=⟨x,a,b⟩
theorem tS{A B C:α->Prop}(x:α)(a:A x)(b:B x)(c:C x):∃x,A x/\B x/\C x:=⟨x,a,b,c⟩
theorem DZ{A B C D:α->Prop}(x:α)(a:A x)(b:B x)(c:C x)(d:D x):∃x,A x/\B x/\C x/\D x:=⟨x,a,b,c,d⟩
theorem QO{A:α->β->Prop}(x:α)(y:β)(a:A x y):∃x y,A x y:=⟨x,y,a⟩
theorem Xy{A B:α->β->Prop}(x:α)(y:β)(a:A x y)(b:B x y):∃x y,A x y/\B x y:=⟨x,y,a,b⟩
theorem Rk{A B C:α->β->Prop}(x:α)(y:β)(a:A x y)(b:B x y)(c:C x y):∃x y,A x y/\B x y/\C x y:=⟨x,y,a,b,c⟩
theorem Xz{A B C D:α->β->Prop}(x:α)(y:β)(a:A x y)(b:B x y)(c:C x y)(d:D x y):∃x y,A x y/\B x y/\C x y/\D x y:=⟨x,y,a,b,c,d⟩
theorem QP{A B C D E:α->β->Prop}(x:α)(y:β)(a:A x y)(b:B x y)(c:C x y)(d:D x y)(e:E x y):∃x y,A x y/\B x y/\C x y/\D x y/\E x y:=⟨x,y,a,b,c,d,e⟩
theorem EA{A B C D E F:α->β->Prop}(x:α)(y:β)(a:A x y)(b:B x y)(c:C x y)(d:D x y)(e:E x y)(f:F x y):∃x y,A x y/\B x y/\C x y/\D x y/\E x y/\F x y:=⟨x,y,a,b,c,d,e,f⟩
theorem EB{A B:α->β->γ->Prop}(x:α)(y:β)(z:γ)(a:A x y z)(b:B x y z):∃x y z,A x y z/\B x y z:=⟨x,y,z,a,b⟩
theorem QQ{A B C:α->β->γ->Prop}(x:α)(y:β)(z:γ)(a:A x y z)(b:B x y z)(c:C x y z):∃x y z,A x y z/\B x y z/\C x y z:=⟨x,y,z,a,b,c⟩
theorem pF{A B C D:α->β->γ->Prop}(x:α)(y:β)(z:γ)(a:A x y z)(b:B x y z)(c:C x y z)(d:D x y z):∃x y z,A x y z/\B x y z/\C x y z/\D x y z:=⟨x,y,z,a,b,c,d⟩
theorem JW{A B C D E:α->β->γ->Prop}(x:α)(y:β)(z:γ)(a:A x y z)(b:B x y z)(c:C x y z)(d:D x y z)(e:E x y z):∃x y z,A x y z/\B x y z/\C x y z/\D x y z/\E x y z:=⟨x,y,z,a,b,c,d,e⟩
theorem QR{A B C D:α->β->γ->δ->Prop}(x:α)(y:β)(z:γ)(u:δ)(a:A x y z u)(b:B x y z u)(c:C x y z u)(d:D x y z u):∃x y z u,A x y z u/\B x y z u/\C x y z u/\D x y z u:=⟨x,y,z,u,a,b,c,d⟩
theorem Ya{A B C D E F:α->β->γ->δ->Prop}(x:α)(y:β)(z:γ)(u:δ)(a:A x y z u)(b:B x y z u)(c:C x y z u)(d:D x y z u)(e:E x y z u)(f:F x y z u):∃x y z u,A x y z u/\B x y z u/\C x y z u/\D x y z u/\E x y z u/\F x y z u:=⟨x,y,z,u,a,b,c,d,e,f⟩
theorem oP{A B C D:α->β->γ->δ->ε->Prop}(x:α)(y:β)(z:γ)(u:δ)(v:ε)(a:A x y z u v)(b:B x y z u v)(c:C x y z u v)(d:D x y z u v):∃x y z u v,A x y z u v/\B x y z u v/\C x y z u v/\D x y z u v:=⟨x,y,z,u,v,a,b,c,d⟩
theorem QS{A B C D E F G H:α->β->γ->δ->ε->Prop}(x:α)(y:β)(z:γ)(u:δ)(v:ε)(a:A x y z u v)(b:B x y z u v)(c:C x y z u v)(d:D x y z u v)(e:E x y z u v)(f:F x y z u v)(g:G x y z u v)(h:H x y z u v):∃x y z u v,A x y z u v/\B x y z u v/\C x y z u v/\D x y z u v/\E x y z u v/\F x y z u v/\G x y z u v/\H x y z u v:=⟨x,y,z,u,v,a,b,c,d,e,f,g,h⟩
end
section
variable{α:Sort _}{β:Sort _}{γ:Sort _}{δ:Sort _}{ε:Sort _}{ζ:Sort _}{R:Prop}
theorem QG{A B:α->β->γ->δ->Prop}(h:∃x y z u,A x y z u/\B x y z u)(f:∀x y z u,A x y z u->B x y z u->R):R:=h.elim fun x h=>h.elim fun y h=>h.elim fun z h=>h.elim fun u h=>f x y z u h.1 h.2
theorem Qy{A B C D E F:Prop}(h:A/\B/\C/\D/\E/\F)(f:A->B->C->D->E->F->R):R:=f h.1 h.2.1 h.2.2.1 h.2.2.2.1 h.2.2.2.2.1 h.2.2.2.2.2
theorem QD{A B C D E F G:Prop}(h:A/\B/\C/\D/\E/\F/\G)(f:A->B->C->D->E->F->G->R):R:=f h.1 h.2.1 h.2.2.1 h.2.2.2.1 h.2.2.2.2.1 h.2.2.2.2.2.1 h.2.2.2.2.2.2
theorem XJ{A B C D E F G H I:Prop}(h:A/\B/\C/\D/\E/\F/\G/\H/\I)(f:A->B->C->D->E->F->G->H->I->R):R:=f h.1 h.2.1 h.2.2.1 h.2.2.2.1 h.2.2.2.2.1 h.2.2.2.2.2.1 h.2.2.2.2.2.2.1 h.2.2.2.2.2.2.2.1 h.2.2.2.2.2.2.2.2
theorem QI{A B C:α->β->γ->δ->ε->Prop}(h:∃x y z u v,A x y z u v/\B x y z u v/\C x y z u v)(f:∀x y z u v,A x y z u v->B x y z u v->C x y z u v->R):R:=h.elim fun x h=>h.elim fun y h=>h.elim fun z h=>h.elim fun u h=>h.elim fun v h=>f x y z u v h.1 h.2.1 h.2.2
theorem Qz{A B C D E F G H I J K L:α->β->γ->δ->ε->Prop}(h:∃x y z u v,A x y z u v/\B x y z u v/\C x y z u v/\D x y z u v/\E x y z u v/\F x y z u v/\G x y z u v/\H x y z u v/\I x y z u v/\J x y z u v/\K x y z u v/\L x y z u v)(f:∀x y z u v,A x y z u v->B x y z u v->C x y z u v->D x y z u v->E x y z u v->F x y z u v->G x y z u v->H x y z u v->I x y z u v->J x y z u v->K x y z u v->L x y z u v->R):R:=h.elim fun x h=>h.elim fun y h=>h.elim fun z h=>h.elim fun u h=>h.elim fun v h=>f x y z u v h.1 h.2.1 h.2.2.1 h.2.2.2.1 h.2.2.2.2.1 h.2.2.2.2.2.1 h.2.2.2.2.2.2.1 h.2.2.2.2.2.2.2.1 h.2.2.2.2.2.2.2.2.1 h.2.2.2.2.2.2.2.2.2.1 h.2.2.2.2.2.2.2.2.2.2.1 h.2.2.2.2.2.2.2.2.2.2.2
theorem Ra{A B C D E F G H I J K L M N:α->β->γ->δ->ε->Prop}(h:∃x y z u v,A x y z u v/\B x y z u v/\C x y z u v/\D x y z u v/\E x y z u v/\F x y z u v/\G x y z u v/\H x y z u v/\I x y z u v/\J x y z u v/\K x y z u v/\L x y z u v/\M x y z u v/\N x y z u v)(f:∀x y z u v,A x y z u v->B x y z u v->C x y z u v->D x y z u v->E x y z u v->F x y z u v->G x y z u v->H x y z u v->I x y z u v->J x y z u v->K x y z u v->L x y z u v->M x y z u v->N x y z u v->R):R:=h.elim fun x h=>h.elim fun y h=>h.elim fun z h=>h.elim fun u h=>h.elim fun v h=>f x y z u v h.1 h.2.1 h.2.2.1 h.2.2.2.1 h.2.2.2.2.1 h.2.2.2.2.2.1 h.2.2.2.2.2.2.1 h.2.2.2.2.2.2.2.1 h.2.2.2.2.2.2.2.2.1 h.2.2.2.2.2.2.2.2.2.1 h.2.2.2.2.2.2.2.2.2.2.1 h.2.2.2.2.2.2.2.2.2.2.2.1 h.2.2.2.2.2.2.2.2.2.2.2.2.1 h.2.2.2.2.2.2.2.2.2.2.2.2.2
theorem EC{A B:α->β->γ->δ->Prop}(x:α)(y:β)(z:γ)(u:δ)(h0:A x y z u)(h1:B x y z u):∃x y z u,A x y z u/\B x y z u:=⟨x,y,z,u,h0,h1⟩
theorem Xx{A B C D E:Prop}  (h0:A)(h1:B)(h2:C)(h3:D)(h4:E):A/\B/\C/\D/\E:=⟨h0,h1,h2,h3,h4⟩
theorem JV{A B C D E F:Prop}  (h0:A)(h1:B)(h2:C)(h3:D)(h4:E)(h5:F):A/\B/\C/\D/\E/\F:=⟨h0,h1,h2,h3,h4,h5⟩
theorem QN{A B C D E F G:Prop}  (h0:A)(h1:B)(h2:C)(h3:D)(h4:E)(h5:F)(h6:G):A/\B/\C/\D/\E/\F/\G:=⟨h0,h1,h2,h3,h4,h5,h6⟩
theorem JX{A B C:α->β->γ->δ->Prop}(x:α)(y:β)(z:γ)(u:δ)(h0:A x y z u)(h1:B x y z u)(h2:C x y z u):∃x y z u,A x y z u/\B x y z u/\C x y z u:=⟨x,y,z,u,h0,h1,h2⟩
end
@[elab_as_elim] theorem HH{α:Type}{l:List α}{P:List α->Prop}(h:l.length=0)(k:P []):P l:=by
 cases l with
 |nil=>exact k
 |cons a r=>cases h
@[elab_as_elim] theorem HI{α:Type}{l:List α}{n:Nat}{P:List α->Prop}(h:l.length=n+1)(k:∀a r,r.length=n->P (a::r)):P l:=by
 cases l with
 |nil=>cases h
 |cons a r=>exact k a r (Nat.succ.inj h)
@[elab_as_elim] theorem JG{α:Type}{l:List α}{P:List α->Prop}(h:l.length=1)(k:∀a,P [a]):P l:=HI h fun a r h=>HH h (k a)
@[elab_as_elim] theorem JH{α:Type}{l:List α}{P:List α->Prop}(h:l.length=2)(k:∀a b,P [a,b]):P l:=HI h fun a r h=>JG h (k a)
@[elab_as_elim] theorem PM{α:Type}{l:List α}{P:List α->Prop}(h:l.length=3)(k:∀a b c,P [a,b,c]):P l:=HI h fun a r h=>JH h (k a)
@[elab_as_elim] theorem PN{α:Type}{l:List α}{P:List α->Prop}(h:l.length=4)(k:∀a b c d,P [a,b,c,d]):P l:=HI h fun a r h=>PM h (k a)
@[elab_as_elim] theorem TL{α:Type}{l:List α}{P:List α->Prop}(h:l.length=5)(k:∀a b c d e,P [a,b,c,d,e]):P l:=HI h fun a r h=>PN h (k a)
@[elab_as_elim] theorem c8{α:Type}{l:List α}{P:List α->Prop}(h:l.length=6)(k:∀a b c d e f,P [a,b,c,d,e,f]):P l:=HI h fun a r h=>TL h (k a)
@[elab_as_elim] theorem WJ{α:Type}{l:List α}{P:List α->Prop}(h:l.length=7)(k:∀a b c d e f m,P [a,b,c,d,e,f,m]):P l:=HI h fun a r h=>c8 h (k a)
section
open Sem (wp)
noncomputable def dK{α:Type}:Sem α->Prop
 |.pure _=>True
 |.raise _=>True
 |.unsupported _=>True
 |.finish _=>True
 |.rule _ k=>dK (k ())
 |.at _ k=>dK (k ())
 |.load _ _ k=>∀o,dK (k o)
 |.update _ _ f k=>(∀o,(f o).dict=o.dict)/\dK (k ())
 |.loadIfAlive _ k=>∀o,dK (k o)
 |.point _ k=>dK (k ())
 |.alloc _ k=>∀a,dK (k a)
 |.fresh k=>∀t,dK (k t)
 |.ask k=>∀x,dK (k x)
 |.stack k=>∀x,dK (k x)
 |.handled _ k=>∀x,dK (k x)
 |_=>False
theorem dK.bind{α β:Type}{f:α->Sem β}(hf:∀a,dK (f a)){m:Sem α}(h:dK m):dK (m.bind f):=by
 induction m with
 |pure a=>exact hf a
 |raise|unsupported|finish=>trivial
 |rule _ k ih=>exact ih () h
 | «at» _ k ih=>exact ih () h
 |point _ k ih=>exact ih () h
 |update _ _ f k ih=>exact⟨h.1,ih () h.2⟩
 |load _ _ k ih=>exact fun o=>ih o (h o)
 |loadIfAlive _ k ih=>exact fun o=>ih o (h o)
 |alloc _ k ih=>exact fun o=>ih o (h o)
 |fresh k ih=>exact fun o=>ih o (h o)
 |ask k ih=>exact fun o=>ih o (h o)
 |stack k ih=>exact fun o=>ih o (h o)
 |handled _ k ih=>exact fun o=>ih o (h o)
 |_=>exact h.elim
def JQ(h h':Heap):Prop:=∀b o,h.get? b=some o->∃o',h'.get? b=some o'/\o'.dict=o.dict
def JR(h h':Heap):Prop:=∀b o o',h.get? b=some o->h'.get? b=some o'->o'.dict=o.dict
def eH(e:Addr)(d:Option Addr)(h:Heap):Prop:=∃o,h.objs[e]?=some o/\o.dict=d
theorem eH.update{e:Addr}{d:Option Addr}(x:eH e d h){a:Addr}{f:Obj->Obj}(hf:∀o,(f o).dict=o.dict):eH e d (h.update a f):=by
 refine bQ x fun o ho hd=>?_
 by_cases q:a=e
 ·subst q;refine⟨f o,?_,(hf o).trans hd⟩;show(h.objs.modify a f)[a]?=_;rw[Array.getElem?_modify,if_pos rfl,ho];rfl
 ·refine⟨o,?_,hd⟩;show(h.objs.modify a f)[e]?=_;rw[Array.getElem?_modify,if_neg q];exact ho
theorem eH.push{e:Addr}{d:Option Addr}{h:Heap}(x:eH e d h)(o:Obj):eH e d (h.push o):=by
 refine bQ x fun o' ho hd=>?_;refine⟨o',?_,hd⟩;show(h.objs.push o)[e]?=_;rw[Array.getElem?_push]
 split
 ·rename_i q
  rw[q,Array.getElem?_eq_none (w7 _)] at ho;cases ho
 ·exact ho
theorem eH.of_get{e:Addr}{d:Option Addr}{o:Obj}(ho:h.get? e=some o)(hd:o.dict=d):eH e d h:=by
 exact⟨o,(Heap.get?_some_iff.mp ho).1,hd⟩
theorem eH.get{e:Addr}{d:Option Addr}(x:eH e d h){o:Obj}(ho:h.get? e=some o):o.dict=d:=by
 refine bQ x fun o' h1 h2=>?_;refine bQ (eH.of_get ho rfl) fun n9 h3 h4=>?_;rw[h1] at h3;cases h3;exact h4.symm.trans h2
theorem BV{α:Type}{Γ:PySem.Ctx}{e:Addr}{d:Option Addr}{Q:α->Pos->Shared->Prop}{E:Value->Pos->Shared->Prop}{t:Sem α}:∀{p:Pos} {s:Shared},dK t->eH e d s.heap->wp M Γ t Q E p s->
  wp M Γ t (fun a p s'=>Q a p s'/\eH e d s'.heap) (fun x p s'=>E x p s'/\eH e d s'.heap) p s:=by
 induction t with
 |pure a=>exact fun U x h=>⟨h,x⟩
 |raise a=>exact fun U x h=>⟨h,x⟩
 |unsupported|finish=>exact fun U U h=>h.elim
 |rule _ k ih=>exact fun S x h=>ih () S x h
 | «at» _ k ih=>exact fun S x h=>ih () S x h
 |point _ k ih=>exact fun S x h=>ih () S x h
 |update _ _ f k ih=>exact fun S x h=>⟨h.1,ih () S.2 (x.update S.1) h.2⟩
 |load _ _ k ih=>exact fun S x h=>let ⟨o,a,b⟩:=h;⟨o,a,ih o (S o) x b⟩
 |loadIfAlive _ k ih=>exact fun S x h=>ih _ (S _) x h
 |alloc o k ih=>exact fun S x h=>ih _ (S _) (x.push o) h
 |fresh k ih=>exact fun S x h=>ih _ (S _) x h
 |ask k ih=>exact fun S x h=>ih _ (S _) x h
 |stack k ih=>exact fun S x h=>ih _ (S _) x h
 |handled _ k ih=>exact fun S x h=>ih _ (S _) x h
 |_=>exact fun S=>S.elim
theorem Kf{α:Type}{A:Around}{e:Addr}{d:Option Addr}{Q:α->Shared->Prop}{E:dQ}{t:Sem α}{s:Shared}(S:dK t)(x:eH e d s.heap)(h:wpAny M A t Q E s):
  wpAny M A t (fun a s'=>Q a s'/\eH e d s'.heap) (fun v s'=>E v s'/\eH e d s'.heap) s:=fun Γ p ZX=>BV S x (h Γ p ZX)
theorem mQ(v:Value)(i:Nat):dK (field v i):=by
 induction v<;>try trivial
 intro o;show dK (Sem.bind (match o.data with|.fields vs=>Pure.pure vs|_=>unsupported "internal:no-fields") _)
 refine dK.bind (fun vs=>?_) ?_
 ·show dK (match vs[i]? with|some x=>Pure.pure x|none=>unsupported "internal:no-such-field")
  cases vs[i]?<;>trivial
 ·generalize o.data=d;cases d<;>trivial
theorem xB(f:Array Value->Array Value)(o:Obj):(Obj.mapFields f o).dict=o.dict:=by
 obtain⟨c,d,da,s⟩:=o;induction da<;>rfl
theorem dK.ite{α:Type}{c:Prop}[Decidable c]{a b:Sem α}(ha:dK a)(hb:dK b):dK (if c then a else b):=by split<;>assumption
theorem nS(v:Value)(i:Nat)(x:Value):dK (setField v i x):=by
 induction v<;>try trivial
 intro o;show dK (match o.data with|.fields vs=>if i<vs.size then update _ (Obj.mapFields (·.setIfInBounds i x)) else unsupported "internal:no-such-field"|_=>unsupported "internal:write-to-non-record")
 generalize o.data=d;cases d with
 |fields vs=>exact dK.ite ⟨fun o=>xB _ o,trivial⟩ trivial
 |_=>trivial
theorem jZ(v:Value)(f:Option Addr):dK (setFlight v f):=by
 unfold setFlight;refine dK.bind (fun a=>?_) (mQ v 1)
 split
 ·exact nS _ _ _
 ·trivial
theorem zH(env:Env)(i:Bool)(l:List Env):dK (keptBack env i l):=by
 induction l with
 |nil=>
  unfold keptBack;refine dK.ite trivial ?_;exact fun x=>trivial
 |cons c r=>unfold keptBack;trivial
theorem qQ(env:Env)(l:List Env):dK (behindIsImport env l):=by
 unfold behindIsImport;refine dK.ite trivial (dK.ite trivial ?_);exact dK.bind (f:=fun x=>Pure.pure (x==Value.none)) (fun U=>trivial) (mQ _ _)
theorem Js:∀l,dK (readyFrames l):=by
 intro eN;induction eN with
 |nil=>
  exact trivial
 |cons env outer ih=>
  unfold readyFrames;cases env.frame with
  |none=>trivial
  |some f=>
   intro o;refine dK.ite trivial ?_;refine dK.bind (fun i=>?_) (qQ env outer);refine dK.bind (fun b=>?_) (zH env i outer);refine⟨fun o=>rfl,?_⟩;exact ih
theorem De(env:Env):dK (PySem.frameOf env):=by
 unfold PySem.frameOf;refine dK.bind (fun l=>?_) (fun x=>trivial);refine dK.bind (fun r=>?_) ?_
 ·induction r<;>trivial
 ·generalize l.dropWhile _=l';induction l' with
  |nil=>trivial
  |cons e r=>exact dK.bind (f:=fun U=>Pure.pure (e.frame.map Value.ref)) (fun U=>trivial) (Js _)
theorem yG(ty:String)(vs:List Value):dK (newFields ty vs):=by
 unfold newFields newObj;refine dK.ite trivial ?_;exact fun a=>trivial
theorem sZ(f:Addr)(b:Bool):dK (entryPlaceOf f b):=by
 intro st;show dK (match st.find? (fun(c,_)=>c.env?.bind (·.frame)==some f) with|some (_,pos)=>_|none=>_)
 rcases st.find? _ with x|⟨x,y⟩<;>trivial
theorem mR(e:Value)(env:Env):dK (noteFrame e env):=by
 unfold noteFrame;cases env.frame with
 |none=>trivial
 |some f=>
  have tail:∀head,dK (do setField e 1 (←EntryCells.newEntry head (←PySem.frameOf env) .none (rawInt f) .none (←entryPlaceOf f (head !=.none))):Sem Unit):=fun head=>
   dK.bind (fun fr=>dK.bind (fun pl=>dK.bind (fun en=>nS _ _ _) (yG _ _)) (sZ _ _)) (De env)
  refine dK.bind (fun head=>?_) (mQ e 1);refine dK.ite ?_ (tail head);refine dK.bind (fun x=>?_) (mQ head 3);show dK (if(x==rawInt f)=true then Pure.pure () else _);refine dK.ite trivial ?_;exact dK.bind (fun U=>tail head) (nS head 3 .none)
theorem Df(env:Env)(e:Value):dK (leaving env e):=dK.bind (fun U=>jZ e none) (mR e env)
end
section
open Sem (wp)
def QW(base:Heap)(l:List Env)(e:Addr)(cls a0:Value)(h:Heap):Prop:=
 base.StaysIn h/\base.get? e=none/\h.FunFrames base l/\∃oe vs,h.get? e=some oe/\oe.cls=cls/\oe.data=.fields vs/\vs[0]?=some a0/\vs[1]?=some .none
def XW(base:Heap)(l:List Env)(e:Addr)(cls a0:Value)(L:Addr)(h:Heap):Prop:=
 Heap.FlyingW base l e cls a0 h\/Heap.HeldW base l e cls a0 L h\/QW base l e cls a0 h
section
variable{A:Around}{E:dQ}{s:Shared}
theorem xZ{base:Heap}{env:Env}{outer:List Env}{L e:Addr}{cls a0:Value}{Q:Unit->Shared->Prop}
  (PH:A.frames=some (env::outer)) (hf:env.frame=some L) (x:XW base (env::outer) e cls a0 L s.heap)
  (hQ:∀h',Heap.HeldW base (env::outer) e cls a0 L h'->s.heap.UpToSlots h'->Q () {s with heap:=h'}):wpAny M A (noteFrame (.ref e) env) Q E s:=by
 rcases x with x|x|x
 ·exact wpAny_looks_onW PH hf x hQ
 ·exact wpAny_noteFrame_againW hf x.2.2.2 (hQ s.heap x (.refl _))
 ·obtain⟨SN,AB,hl,oe,vs,he,rfl,hd,h0,h1⟩:=x;unfold noteFrame;simp only[hf];refine q8 (wpAny_field he hd h1 ?_);rw[if_neg (aR rfl)];exact wpAny_entryW PH hl hf he SN AB hd (Array.getElem?_eq_some_iff.mp h1).1 h0 fun h' ⟨k1,k2,k3,k4⟩=>hQ h' ⟨k1,AB,k2,k3⟩ k4
theorem Nq{base:Heap}{l:List Env}{L e:Addr}{cls a0:Value}{Q:Unit->Shared->Prop}(x:Heap.HeldW base l e cls a0 L s.heap)
  (hQ:∀h',Heap.HeldW base l e cls a0 L h'->s.heap.UpToSlots h'->Q () {s with heap:=h'}):
  wpAny M A (do
   if(←field (.ref e) 1)==.none then unsupported "frame.own-activation:exception-without-traceback"
   setFlight (.ref e) (some L)) Q E s:=by
 obtain⟨SN,AB,hl,oe,vs,T,oT,ts,he,Fp,hd,h1,WC,VM,hT,PF,h3⟩:=x;have MM:3<ts.size:=(Array.getElem?_eq_some_iff.mp h3).1;have other:∀b,b≠T->(s.heap.update T (Obj.mapFields (·.setIfInBounds 3 ((some L).elim Value.none fun f=>rawInt f)))).get? b=s.heap.get? b:=
  fun b hb=>Heap.get?_update_other _ _ (Ne.symm hb)
 have Gi:∀b o,s.heap.get? b=some o->(∀vs,o.data≠ .fields vs)->b≠T:=fun b o hb MH q=>by
  rw[q,hT] at hb;injection hb with hb;subst hb;exact MH ts PF
 refine q8 (wpAny_field he hd h1 ?_);rw[if_neg (by simp)];show wpAny M A (setFlight (.ref e) (some L)) Q E s;unfold setFlight;refine q8 (wpAny_field he hd h1 ?_);rw[if_pos (show(Value.ref T !=Value.none)=true from by simp)];refine wpAny_setField hT PF MM (hQ _ ⟨fun b o RZ=>(other b fun q=>by rw[q,WC] at RZ;cases RZ).trans (SN b o RZ),AB,
  hl.of_keeps fun b o hb MH=>⟨o,(other b (Gi b o hb MH)).trans hb,rfl⟩,?_⟩ fun b o hb MH=>⟨o.slots,(other b (Gi b o hb MH)).trans hb⟩)
 exact⟨oe,vs,T,_,_,(other e (Ne.symm VM)).trans he,Fp,hd,h1,WC,VM,Heap.get?_update_self _ hT (Obj.isFreed_of_fields (Obj.data_mapFields PF _)),Obj.data_mapFields PF _,by simp[MM]⟩
theorem Pg(v:Value)(f:Option Addr):dK (do
   if(←field v 1)==.none then unsupported "frame.own-activation:exception-without-traceback"
   setFlight v f:Sem Unit):=by
 refine dK.bind (fun a=>?_) (mQ v 1);refine dK.ite ?_ (jZ v f);exact trivial
theorem jL{A:Around}{e:Addr}{d:Option Addr}{t:Sem Unit}{s:Shared}{P:Heap->Prop}(S:dK t)(x:eH e d s.heap)(h:∀{Q:Unit->Shared->Prop},(∀h',P h'->Q () {s with heap:=h'})->wpAny M A t Q (fun U U=>False) s){T:Unit->Shared->Prop}{E:dQ}
  (k:∀h',P h'->eH e d h'->T () {s with heap:=h'}):wpAny M A t T E s:=
 wpAny_mono (Kf S x (h (Q:=fun U s'=>∃h',s'={s with heap:=h'}/\P h') fun h' p=>⟨h',rfl,p⟩)) (fun a s' z=>by obtain⟨⟨h',rfl,p⟩,hd⟩:=z;exact k h' p hd) fun U U z=>z.1.elim
def Bp(base:Heap)(l:List Env)(e L:Addr)(cls a0:Value)(h h':Heap):Prop:=Heap.HeldW base l e cls a0 L h'/\h.UpToSlots h'
def Bo(base:Heap)(l:List Env)(e:Addr)(cls a0:Value)(h h':Heap):Prop:=Heap.FlyingW base l e cls a0 h'/\h.UpToSlots h'
end
end
section
noncomputable abbrev cE:=List (Addr×Obj)
noncomputable abbrev St(s:Shared)(h:Heap)(t:Tok):Shared:={s with heap:=h,toks:=t}
def Sub(G G':cE):Prop:=∀p∈G,p∈G'
theorem Sub.refl(G:cE):Sub G G:=fun U z=>z
theorem Sub.trans{G G' G2:cE}(a:Sub G G')(b:Sub G' G2):Sub G G2:=fun p h=>b p (a p h)
set_option genCtorIdx true in
inductive V where
 |none
 |bool(b:Bool)
 |int(i:Int)
 |str(s:Str)
 |glob(v:Value)
 |inst(C:Addr)(ns:List Str)(vs:List V)
 |tup(vs:List V)
 |lst(vs:List V)
 |Lf(p:Program)(w:World)(ks:List Str)(vs:List V)
 |self
 |toks
 |oW
 |Cr
 deriving Inhabited
noncomputable abbrev V.sel{α:Type}(v:V)(d:α)(n:α:=d)(b:Bool->α:=fun U=>d)(i:Int->α:=fun U=>d)(s:Str->α:=fun U=>d)(g:Value->α:=fun U=>d)(o:Addr->List Str->List V->α:=fun U U U=>d)(t l:List V->α:=fun U=>d)(k:α:=d):α:=
 @V.casesOn (fun U=>α) v n b i s g o t l (fun U U U U=>d) d k d d
structure dN where
 aS:Addr
 dS:Addr
 aT:Addr
 aI:Addr
noncomputable abbrev rY(vals:List Value):Obj:={cls:=.type "tuple",data:=.seq vals.toArray}
class inductive fT:List DictEntry->List Str->List Value->Prop
 |nil:fT [] [] []
 |cons{e:DictEntry}{es:List DictEntry}{n:Str}{ns:List Str}{vs:List Value}(t:Tok)(hk:e.key=.str n t)(r:fT es ns vs):fT (e::es) (n::ns) (e.val::vs)
mutual
inductive VR(ρ:dN)(G:cE):V->Value->Prop
 |none:VR ρ G .none .none
 |bool{b:_}:VR ρ G (.bool b) (.bool b)
 |int{i t:_}:VR ρ G (.int i) (.int i t)
 |str{s t:_}:VR ρ G (.str s) (.str s t)
 |glob{v:_}:VR ρ G (.glob v) v
 |inst{C x dx ns vs es n vals:_}:(x,instObj C dx)∈G->(dx,dictOf es n)∈G->fT es ns vals->cZ ρ G vs vals->VR ρ G (.inst C ns vs) (.ref x)
 |Ir{C x dx ns vs es n vals ws sl:_}:(x,({cls:=.ref C,dict:=some dx,data:=.fields ws,slots:=sl}:Obj))∈G->(dx,dictOf es n)∈G->fT es ns vals->cZ ρ G vs vals->VR ρ G (.inst C ns vs) (.ref x)
 |tup{a vs vals:_}:(a,rY vals)∈G->cZ ρ G vs vals->VR ρ G (.tup vs) (.ref a)
 |lst{a vs vals n:_}:(a,W.listOf vals.toArray n)∈G->cZ ρ G vs vals->VR ρ G (.lst vs) (.ref a)
 |Lf{a o p w ks vs vals:_}:(a,o)∈G->(a==sysModules)=false->o.IsDictOf (strKind p w) (ks.zip vals)->cZ ρ G vs vals->VR ρ G (.Lf p w ks vs) (.ref a)
 |self:VR ρ G .self (.ref ρ.aS)
 |toks:VR ρ G .toks (.ref ρ.aT)
 |oW:VR ρ G .oW (.ref ρ.aI)
 |Cr{v:_}:VR ρ G .Cr v
inductive cZ(ρ:dN)(G:cE):List V->List Value->Prop
 |nil:cZ ρ G [] []
 |cons{v val vs vals:_}:VR ρ G v val->cZ ρ G vs vals->cZ ρ G (v::vs) (val::vals)
end
theorem VR.mono{ρ:dN}{G G':cE}(h:Sub G G'){v:V}{val:Value}(x:VR ρ G v val):VR ρ G' v val:=
 VR.rec (motive_1:=fun v val U=>VR ρ G' v val) (motive_2:=fun vs vals U=>cZ ρ G' vs vals) .none .bool .int .str .glob (fun a b c U d=>.inst (h _ a) (h _ b) c d) (fun a b c U d=>.Ir (h _ a) (h _ b) c d) (fun a U d=>.tup (h _ a) d) (fun a U d=>.lst (h _ a) d) (fun a b c U d=>.Lf (h _ a) b c d) .self .toks .oW .Cr .nil (fun U U a b=>.cons a b) x
inductive EF(i:Int):Value->Prop
 |int{t:_}:EF i (.int i t)
inductive FA(x:Str):Value->Prop
 |str{t:_}:FA x (.str x t)
inductive Ej(ρ:dN)(G:cE)(C:Addr)(ns:List Str)(vs:List V):Value->Prop
 |inst{x dx es n vals:_}(h1:(x,instObj C dx)∈G)(h2:(dx,dictOf es n)∈G)(h3:fT es ns vals)(h4:cZ ρ G vs vals):Ej ρ G C ns vs (.ref x)
 |Ir{x dx es n vals ws sl:_}(h1:(x,({cls:=.ref C,dict:=some dx,data:=.fields ws,slots:=sl}:Obj))∈G)(h2:(dx,dictOf es n)∈G)(h3:fT es ns vals)(h4:cZ ρ G vs vals):Ej ρ G C ns vs (.ref x)
inductive FE(ρ:dN)(G:cE)(vs:List V):Value->Prop
 |tup{a vals:_}(h1:(a,rY vals)∈G)(h2:cZ ρ G vs vals):FE ρ G vs (.ref a)
inductive EH(ρ:dN)(G:cE)(vs:List V):Value->Prop
 |lst{a vals n:_}(h1:(a,W.listOf vals.toArray n)∈G)(h2:cZ ρ G vs vals):EH ρ G vs (.ref a)
inductive DO(ρ:dN)(G:cE)(p:Program)(w:World)(ks:List Str)(vs:List V):Value->Prop
 |Lf{a o vals:_}(h1:(a,o)∈G)(h2:(a==sysModules)=false)(h3:o.IsDictOf (strKind p w) (ks.zip vals))(h4:cZ ρ G vs vals):DO ρ G p w ks vs (.ref a)
inductive Na(v:Value):Value->Prop
 |eq:Na v v
def VO(ρ:dN)(G:cE)(v:V)(val:Value):Prop:=
 match v with
 |.none=>Na .none val
 |.bool b=>Na (.bool b) val
 |.int i=>EF i val
 |.str x=>FA x val
 |.glob v=>Na v val
 |.inst C ns vs=>Ej ρ G C ns vs val
 |.tup vs=>FE ρ G vs val
 |.lst vs=>EH ρ G vs val
 |.Lf p w ks vs=>DO ρ G p w ks vs val
 |.self=>Na (.ref ρ.aS) val
 |.toks=>Na (.ref ρ.aT) val
 |.oW=>Na (.ref ρ.aI) val
 |.Cr=>True
theorem VR.out{ρ:dN}{G:cE}{v:V}{val:Value}(h:VR ρ G v val):VO ρ G v val:=
 VR.casesOn (motive_1:=fun v val U=>VO ρ G v val) h Na.eq Na.eq EF.int FA.str Na.eq (fun a b c d=>Ej.inst a b c d) (fun a b c d=>Ej.Ir a b c d) (fun a b=>FE.tup a b) (fun a b=>EH.lst a b) (fun a b c d=>DO.Lf a b c d) Na.eq Na.eq Na.eq trivial
inductive KH:List Value->Prop
 |nil:KH []
inductive BZ(ρ:dN)(G:cE)(v:V)(vs:List V):List Value->Prop
 |cons{val vals:_}(a:VR ρ G v val)(b:cZ ρ G vs vals):BZ ρ G v vs (val::vals)
def KO(ρ:dN)(G:cE)(vs:List V)(vals:List Value):Prop:=
 match vs with
 |[]=>KH vals
 |v::r=>BZ ρ G v r vals
theorem cZ.out{ρ:dN}{G:cE}{vs:List V}{vals:List Value}(h:cZ ρ G vs vals):KO ρ G vs vals:=
 cZ.casesOn (motive_2:=fun vs vals U=>KO ρ G vs vals) h .nil fun a b=>.cons a b
theorem cZ.mono{ρ:dN}{G G':cE}(h:Sub G G'){vs:List V}{vals:List Value}(x:cZ ρ G vs vals):cZ ρ G' vs vals:=by
 induction vs generalizing vals with
 |nil=>induction x.out;exact .nil
 |cons v vs ih=>induction x.out with|cons a b=>exact .cons (a.mono h) (ih b)
theorem cZ.append{ρ:dN}{G:cE}{vs:List V}{vals:List Value}{ws:List V}{OJ:List Value}(a:cZ ρ G vs vals)(b:cZ ρ G ws OJ):cZ ρ G (vs++ws) (vals++OJ):=by
 induction vs generalizing vals with
 |nil=>induction a.out;exact b
 |cons v vs ih=>induction a.out with|cons x y=>exact .cons x (ih y)
theorem cZ.length{ρ:dN}{G:cE}{vs:List V}{vals:List Value}(a:cZ ρ G vs vals):vals.length=vs.length:=by
 induction vs generalizing vals with
 |nil=>induction a.out;rfl
 |cons v vs ih=>induction a.out with|cons x y=>exact congrArg Nat.succ (ih y)
structure Sc where
 buf:Str
 ptr:Int
 index:Int
 line:Int
 col:Int
 done:Bool
 aH:Int
 tokens:List V
 taken:Int
 indent:Int
 aO:List Int
 allow:Bool
 keys:List (Int×V)
 dF:Addr
 kM:Obj
noncomputable def aJ:List Str:=["name","stream","stream_pointer","eof","buffer","pointer","raw_buffer","raw_decode","encoding","index","line","column","done","flow_level","tokens","tokens_taken","indent","indents","allow_simple_key","possible_simple_keys"]
inductive LV where
 |un
 |val(v:V)
 |ml(vs:List V)
 deriving Inhabited
noncomputable abbrev aM:=List (Str×LV)
structure Gl where
 prog:Program
 w:World
 K:Frag
 p:Program
 loose:List Str
 AQ:ExcName->Option Value
 mg:Str->Option Value
 mb:Str->Option Value
structure Cx where
 cn:Str
 cs:Scope
 L:Addr
 a:Addr
 Qf:Value
 cl:List (Str×Addr)
 h₀:Heap
 base:Heap
 outer:List Env
 A₀:Around
 A:Around
noncomputable def Cx.env(C:Cx):Env:=envX C.cn C.cs C.L C.a C.Qf C.cl
structure iP(g:Gl)(D:Nat)(C:Cx):Prop where
 below:Below C.A₀ C.base C.outer C.h₀
 kB:g.K.In C.h₀
 top:Top g.p g.loose g.AQ g.mg g.mb C.h₀
 kind:C.cs.kind=.function
 frames:C.A.frames=some (C.env::C.outer)
 dep:C.A.depth+D<recursionLimit
 OH:C.A.units+8 * D<cLine
inductive EK:cE->Prop
 |un:EK []
inductive Rr(ρ:dN)(G:cE)(m:mZ)(x:Str)(v:V):cE->Prop
 |val{val:_}(a:m x=some val)(b:VR ρ G v val):Rr ρ G m x v []
inductive EI(ρ:dN)(G:cE)(m:mZ)(x:Str)(vs:List V):cE->Prop
 |ml{a n:_}{vals:List Value}(h1:m x=some (.ref a))(h2:cZ ρ G vs vals):EI ρ G m x vs [(a,W.listOf vals.toArray n)]
def uR(ρ:dN)(G:cE)(m:mZ)(x:Str)(lv:LV)(o:cE):Prop:=
 match lv with
 |.un=>EK o
 |.val v=>Rr ρ G m x v o
 |.ml vs=>EI ρ G m x vs o
section
variable{ρ:dN}{G:cE}
theorem uR.un:uR ρ G m x .un []:=EK.un
theorem uR.val{v:V}{val:Value}(a:m x=some val)(b:VR ρ G v val):uR ρ G m x (.val v) []:=Rr.val a b
theorem uR.ml{vs:List V}{a:Addr}{n:Nat}{vals:List Value}(h1:m x=some (.ref a))(h2:cZ ρ G vs vals):uR ρ G m x (.ml vs) [(a,W.listOf vals.toArray n)]:=EI.ml h1 h2
theorem uR.out{lv:LV}{o:cE}(h:uR ρ G m x lv o):uR ρ G m x lv o:=h
end
class inductive cU(ρ:dN)(G:cE)(m:mZ):aM->cE->Prop
 |nil:cU ρ G m [] []
 |cons{x lv r o os:_}(h:uR ρ G m x lv o)(k:cU ρ G m r os):cU ρ G m ((x,lv)::r) (o++os)
section
variable{ρ:dN}{G:cE}{r:aM}{os:cE}
theorem cU.un(k:cU ρ G m r os):cU ρ G m ((x,.un)::r) os:=.cons .un k
theorem cU.val{v:V}{val:Value}(a:m x=some val)(b:VR ρ G v val)(k:cU ρ G m r os):cU ρ G m ((x,.val v)::r) os:=.cons (.val a b) k
theorem cU.ml{vs:List V}{a:Addr}{n:Nat}{vals:List Value}(h1:m x=some (.ref a))(h2:cZ ρ G vs vals)(k:cU ρ G m r os):cU ρ G m ((x,.ml vs)::r) ((a,W.listOf vals.toArray n)::os):=.cons (.ml h1 h2) k
theorem uR.cons{lv:LV}{o:cE}(h:uR ρ G m x lv o)(k:cU ρ G m r os):cU ρ G m ((x,lv)::r) (o++os):=.cons h k
end
def RL(ρ:dN)(G:cE)(m:mZ)(x:Str)(lv:LV)(r:aM)(os:cE):Prop:=∀Ω:Prop,(∀(o vO:cE) (e:os=o++vO) (h:uR ρ G m x lv o) (k:cU ρ G m r vO),Ω)->Ω
theorem RL.mk{ρ:dN}{G:cE}{lv:LV}{r:aM}{os:cE}(o vO:cE)(e:os=o++vO)(h:uR ρ G m x lv o)(k:cU ρ G m r vO):RL ρ G m x lv r os:=fun U φ=>φ o vO e h k
theorem cU.IP{ρ:dN}{G:cE}{lv:LV}{r:aM}{os:cE}(h:cU ρ G m ((x,lv)::r) os):RL ρ G m x lv r os:=by
 cases h with
 |cons h k=>exact(.mk _ _ rfl h k)
theorem cU.append{ρ:dN}{G:cE}{l1 l2:aM}{o1 o2:cE}(h:cU ρ G m l1 o1)(k:cU ρ G m l2 o2):cU ρ G m (l1++l2) (o1++o2):=by
 induction h with
 |nil=>exact k
 |cons h _ ih=>rw[r7];exact .cons h ih
class inductive qK(ρ:dN)(G:cE):List (Int×Value)->List (Int×V)->Prop
 |nil:qK ρ G [] []
 |cons{j w v es r:_}(a:VR ρ G v w)(b:qK ρ G es r):qK ρ G ((j,w)::es) ((j,v)::r)
structure Ro(ρ:dN)(G:cE)(ka aK:Addr)(ko oK:Obj)(kvs:List (Int×Value))(ks:List (Int×V)):Prop where
 ea:aK=ka
 eo:oK=ko
 sm:(aK==sysModules)=false
 dk:∀prog w,oK.IsDictOf (intKind prog w) kvs
 kv:qK ρ G kvs ks
noncomputable def Ax(sc:Sc)(aK:Addr):List V:=[.str "<unicode string>",.none,.int 0,.bool true,.str sc.buf,.int sc.ptr,.none,.none,.none,.int sc.index,.int sc.line,.int sc.col,.bool sc.done,.int sc.aH,.toks,.int sc.taken,.int sc.indent,.oW,.bool sc.allow,.glob (.ref aK)]
noncomputable def WZ(ρ:dN)(es:List DictEntry)(n:Nat)(vT:List Value)(nT:Nat)(tI:List Value)(nI:Nat)(aK:Addr)(eK:Obj):cE:=[(ρ.dS,dictOf es n),(ρ.aT,W.listOf vT.toArray nT),(ρ.aI,W.listOf tI.toArray nI),(aK,eK)]
def RE(ρ:dN)(G:cE)(sc:Sc)(l:cE):Prop:=∀Ω:Prop,(∀(es:List DictEntry) (n:Nat) (vals vT:List Value) (nT nI:Nat) (aK:Addr) (eK:Obj) (nK:List (Int×Value)) (tI:List Value) (el:l=[(ρ.dS,dictOf es n),(ρ.aT,W.listOf vT.toArray nT),(ρ.aI,W.listOf tI.toArray nI),(aK,eK)]) (hS:(ρ.aS,instObj 1048 ρ.dS)∈G) (hE:fT es aJ vals) (hI:cZ ρ G (sc.aO.map V.int) tI) (hT:cZ ρ G sc.tokens vT) (hK:Ro ρ G sc.dF aK sc.kM eK nK sc.keys) (hV:cZ ρ G (Ax sc aK) vals),Ω)->Ω
theorem RE.mk{ρ:dN}{G:cE}{sc:Sc}{l:cE}(es:List DictEntry)(n:Nat)(vals vT:List Value)(nT nI:Nat)(aK:Addr)(eK:Obj)(nK:List (Int×Value))(tI:List Value)(el:l=[(ρ.dS,dictOf es n),(ρ.aT,W.listOf vT.toArray nT),(ρ.aI,W.listOf tI.toArray nI),(aK,eK)])(hS:(ρ.aS,instObj 1048 ρ.dS)∈G)(hE:fT es aJ vals)(hI:cZ ρ G (sc.aO.map V.int) tI)(hT:cZ ρ G sc.tokens vT)(hK:Ro ρ G sc.dF aK sc.kM eK nK sc.keys)(hV:cZ ρ G (Ax sc aK) vals):RE ρ G sc l:=fun U φ=>φ es n vals vT nT nI aK eK nK tI el hS hE hI hT hK hV
noncomputable def Yk(ρ:dN)(G:cE):Option Sc->cE->Prop
 |none,l=>l=[]
 |some sc,l=>RE ρ G sc l
inductive QT(C:Cx)(ρ:dN)(G fo:cE)(σ:Option Sc)(m:mZ)(loc:aM)(h:Heap):Prop
 |mk(ls os:cE)(a:Yk ρ G σ ls)(b:cU ρ G m loc os)(c:News C.h₀ C.L h (ls++(os++(fo++G))))(d:((ls++(os++(fo++G))).map (·.1)).Nodup)
structure cN(C:Cx)(ρ:dN)(G fo:cE)(σ:Option Sc)(m:mZ)(loc:aM)(h:Heap):Prop where
 ex:QT C ρ G fo σ m loc h
 fr:Fr C.h₀ C.L h m
 nd:(loc.map (·.1)).Nodup
structure yO where
 cls:Addr
 ns:List Str
 vs:List V
inductive RO(C:Cx)(ρ:dN)(G fo:cE)(σ:Option Sc)(m:mZ)(loc:aM)(x:yO)(ev:Value)(h:Heap):Prop
 |mk(e dx:Addr)(a0:Value)(es:List DictEntry)(n:Nat)(vals:List Value)(ls os:cE)(B:Heap)(he:ev=.ref e)(hd:eH e (some dx) h)(hE:fT es x.ns vals)(hv:cZ ρ G x.vs vals)(hs:Yk ρ G σ ls)(hl:cU ρ G m loc os)
  (hn:(((dx,dictOf es n)::(ls++(os++(fo++G)))).map (·.1)).Nodup) (hB:C.base.StaysIn B) (hq:∀q∈(dx,dictOf es n)::(ls++(os++(fo++G))),B.get? q.1=some q.2/\C.h₀.get? q.1=none/\q.1≠C.L)
  (fl:XW B (C.env::C.outer) e (.ref x.cls) a0 C.L h)
structure Et(C:Cx)(ρ:dN)(G fo:cE)(σ:Option Sc)(m:mZ)(loc:aM)(x:yO)(ev:Value)(h:Heap):Prop where
 ex:RO C ρ G fo σ m loc x ev h
 up:C.h₀.UpToSlots h
 ns:h.Ns C.L m
 nd:(loc.map (·.1)).Nodup
section
variable(C:Cx)(ρ:dN)(G fo:cE)
def IV(m:mZ)(s:Shared)(Q:V->aM->Option Sc->Prop)(Qr:dQ):Prop:=∀v aG bS G' val h' bH,Q v aG bS->Sub G G'->VR ρ G' v val->cN C ρ G' fo bS m aG h'->Qr val (St s h' bH)
def Du(m:mZ)(s:Shared)(X:yO->aM->Option Sc->Prop)(Er:dQ):Prop:=∀x aG bS G' ev h' bH,X x aG bS->Sub G G'->Et C ρ G' fo bS m aG x ev h'->Er ev (St s h' bH)
def IT(m:mZ)(s:Shared)(Q:Bool->aM->Option Sc->Prop)(Qr:Bool->Shared->Prop):Prop:=∀b aG bS G' h' bH,Q b aG bS->Sub G G'->cN C ρ G' fo bS m aG h'->Qr b (St s h' bH)
def vH(s:Shared)(X:yO->aM->Option Sc->Prop)(Er:dQ):Prop:=∀x aG bS G' m' ev h' bH,X x aG bS->Sub G G'->Et C ρ G' fo bS m' aG x ev h'->Er ev (St s h' bH)
def IU(m:mZ)(loc:aM)(s:Shared)(Q:V->Option Sc->Prop)(Qr:dQ):Prop:=∀v bS G' val h' bH,Q v bS->Sub G G'->VR ρ G' v val->cN C ρ G' fo bS m loc h'->Qr val (St s h' bH)
def ER(m:mZ)(loc:aM)(s:Shared)(X:yO->Option Sc->Prop)(Er:dQ):Prop:=∀x bS G' ev h' bH,X x bS->Sub G G'->Et C ρ G' fo bS m loc x ev h'->Er ev (St s h' bH)
end
section
variable{C:Cx}{ρ:dN}{G G' fo:cE}{s:Shared}{t:Tok}
theorem IV.step{Q:V->aM->Option Sc->Prop}{Qr:dQ}(q:IV C ρ G fo m s Q Qr)(k:Sub G G'):IV C ρ G' fo m (St s h t) Q Qr:=fun v l s' G2 val h2 t2 y1 y2 y3 y4=>q v l s' G2 val h2 t2 y1 (k.trans y2) y3 y4
theorem Du.step{X:yO->aM->Option Sc->Prop}(q:Du C ρ G fo m s X Er)(k:Sub G G'):Du C ρ G' fo m (St s h t) X Er:=fun v l s' G2 val h2 t2 y1 y2 y3=>q v l s' G2 val h2 t2 y1 (k.trans y2) y3
theorem IT.step{Q:Bool->aM->Option Sc->Prop}{Qr:Bool->Shared->Prop}(q:IT C ρ G fo m s Q Qr)(k:Sub G G'):IT C ρ G' fo m (St s h t) Q Qr:=fun v l s' G2 h2 t2 y1 y2 y3=>q v l s' G2 h2 t2 y1 (k.trans y2) y3
theorem vH.step{X:yO->aM->Option Sc->Prop}(q:vH C ρ G fo s X Er)(k:Sub G G'):vH C ρ G' fo (St s h t) X Er:=fun v l s' G2 m2 val h2 t2 y1 y2 y3=>q v l s' G2 m2 val h2 t2 y1 (k.trans y2) y3
theorem vH.at{X:yO->aM->Option Sc->Prop}(q:vH C ρ G fo s X Er):Du C ρ G fo m s X Er:=fun x l s' G2=>q x l s' G2 m
theorem IU.step{loc:aM}{Q:V->Option Sc->Prop}{Qr:dQ}(q:IU C ρ G fo m loc s Q Qr)(k:Sub G G'):IU C ρ G' fo m loc (St s h t) Q Qr:=fun v s' G2 val h2 t2 y1 y2 y3 y4=>q v s' G2 val h2 t2 y1 (k.trans y2) y3 y4
end
@[irreducible] def EW(g:Gl)(D:Nat)(C:Cx)(ρ:dN)(X:yO->aM->Option Sc->Prop)(e:Expr)(loc:aM)(σ:Option Sc)(Q:V->aM->Option Sc->Prop):Prop:=
 iP g D C->∀G fo m s,cN C ρ G fo σ m loc s.heap->∀(Qr:dQ) (Er:dQ),
  IV C ρ G fo m s Q Qr->Du C ρ G fo m s X Er->
  wpAny (model g.prog g.w) C.A (eval e C.env) Qr Er s
theorem EW.of{g:Gl}{D:Nat}{C:Cx}{ρ:dN}{X:yO->aM->Option Sc->Prop}{loc:aM}{σ:Option Sc}{Q:V->aM->Option Sc->Prop}(h:
 iP g D C->∀G fo m s,cN C ρ G fo σ m loc s.heap->∀(Qr:dQ) (Er:dQ),
  IV C ρ G fo m s Q Qr->Du C ρ G fo m s X Er->
  wpAny (model g.prog g.w) C.A (eval e C.env) Qr Er s):EW g D C ρ X e loc σ Q:=by delta EW;exact h
theorem EW.out{g:Gl}{D:Nat}{C:Cx}{ρ:dN}{X:yO->aM->Option Sc->Prop}{loc:aM}{σ:Option Sc}{Q:V->aM->Option Sc->Prop}(h:EW g D C ρ X e loc σ Q):
 iP g D C->∀G fo m s,cN C ρ G fo σ m loc s.heap->∀(Qr:dQ) (Er:dQ),
  IV C ρ G fo m s Q Qr->Du C ρ G fo m s X Er->
  wpAny (model g.prog g.w) C.A (eval e C.env) Qr Er s:=by delta EW at h;exact h
inductive Fl where
 |next|brk|cont
 |ret(v:V)
noncomputable abbrev tU:=V->aM->Option Sc->Prop
noncomputable abbrev eM:=Fl->aM->Option Sc->Prop
noncomputable abbrev eZ:=yO->aM->Option Sc->Prop
noncomputable abbrev nX:=Bool->aM->Option Sc->Prop
noncomputable abbrev nA:=yO->Option Sc->Prop
noncomputable abbrev mF:=V->Option Sc->Prop
noncomputable abbrev bX:=Option Sc
inductive CA(ρ:dN)(G:cE):Fl->Flow->Prop
 |next:CA ρ G .next .next
 |brk:CA ρ G .brk .brk
 |cont:CA ρ G .cont .cont
 |ret{v val:_}:VR ρ G v val->CA ρ G (.ret v) (.ret val)
inductive Xs(f:Flow):Flow->Prop
 |eq:Xs f f
inductive CB(ρ:dN)(G:cE)(v:V):Flow->Prop
 |ret{val:_}(h:VR ρ G v val):CB ρ G v (.ret val)
def XM(ρ:dN)(G:cE)(f:Fl)(fv:Flow):Prop:=
 match f with
 |.next=>Xs .next fv
 |.brk=>Xs .brk fv
 |.cont=>Xs .cont fv
 |.ret v=>CB ρ G v fv
theorem CA.out{ρ:dN}{G:cE}{f:Fl}{fv:Flow}(h:CA ρ G f fv):XM ρ G f fv:=by
 induction h with
 |next=>exact .eq
 |brk=>exact .eq
 |cont=>exact .eq
 |ret a=>exact .ret a
def Ru(C:Cx)(ρ:dN)(G fo:cE)(s:Shared)(Q:eM)(Qr:Flow->Shared->Prop):Prop:=∀f aG bS G' m' fv h' bH,Q f aG bS->Sub G G'->CA ρ G' f fv->cN C ρ G' fo bS m' aG h'->Qr fv (St s h' bH)
theorem Ru.step{C:Cx}{ρ:dN}{G G' fo:cE}{s:Shared}{t:Tok}{Q:eM}{Qr:Flow->Shared->Prop}(q:Ru C ρ G fo s Q Qr)(k:Sub G G'):Ru C ρ G' fo (St s h t) Q Qr:=fun v l s' G2 m2 val h2 t2 y1 y2 y3 y4=>q v l s' G2 m2 val h2 t2 y1 (k.trans y2) y3 y4
@[irreducible] def Yg(g:Gl)(D:Nat)(C:Cx)(ρ:dN)(X:eZ)(t:Sem Flow)(loc:aM)(σ:bX)(Q:eM):Prop:=
 iP g D C->∀G fo m s,cN C ρ G fo σ m loc s.heap->∀(Qr:Flow->Shared->Prop) (Er:dQ),
  Ru C ρ G fo s Q Qr->vH C ρ G fo s X Er->
  wpAny (model g.prog g.w) C.A t Qr Er s
theorem Yg.of{g:Gl}{D:Nat}{C:Cx}{ρ:dN}{X:eZ}{t:Sem Flow}{loc:aM}{σ:bX}{Q:eM}(h:
 iP g D C->∀G fo m s,cN C ρ G fo σ m loc s.heap->∀(Qr:Flow->Shared->Prop) (Er:dQ),
  Ru C ρ G fo s Q Qr->vH C ρ G fo s X Er->
  wpAny (model g.prog g.w) C.A t Qr Er s):Yg g D C ρ X t loc σ Q:=by delta Yg;exact h
theorem Yg.out{g:Gl}{D:Nat}{C:Cx}{ρ:dN}{X:eZ}{t:Sem Flow}{loc:aM}{σ:bX}{Q:eM}(h:Yg g D C ρ X t loc σ Q):
 iP g D C->∀G fo m s,cN C ρ G fo σ m loc s.heap->∀(Qr:Flow->Shared->Prop) (Er:dQ),
  Ru C ρ G fo s Q Qr->vH C ρ G fo s X Er->
  wpAny (model g.prog g.w) C.A t Qr Er s:=by delta Yg at h;exact h
noncomputable abbrev kA(g:Gl)(D:Nat)(C:Cx)(ρ:dN)(X:eZ)(st:Stmt):=Yg g D C ρ X (exec st C.env)
noncomputable abbrev SW(g:Gl)(D:Nat)(C:Cx)(ρ:dN)(X:eZ)(b:List Stmt):=Yg g D C ρ X (execs b C.env)
@[irreducible] def Rf(g:Gl)(D:Nat)(ρ:dN)(X:nA)(f:Addr)(args:List V)(kws:List (Str×V))(σ:bX)(Q:mF):Prop:=
 ∀(C:Cx),iP g (D+1) C->C.A.handled=none->∀G fo m loc s vals eC,cN C ρ G fo σ m loc s.heap->cZ ρ G args vals->cZ ρ G (kws.map (·.2)) eC->∀(Qr:dQ) (Er:dQ),
  IU C ρ G fo m loc s Q Qr->ER C ρ G fo m loc s X Er->
  wpAny (model g.prog g.w) C.A (call (.ref f) vals ((kws.map (·.1)).zip eC)) Qr Er s
theorem Rf.of{g:Gl}{D:Nat}{ρ:dN}{X:nA}{args:List V}{kws:List (Str×V)}{σ:bX}{Q:mF}(h:
 ∀(C:Cx),iP g (D+1) C->C.A.handled=none->∀G fo m loc s vals eC,cN C ρ G fo σ m loc s.heap->cZ ρ G args vals->cZ ρ G (kws.map (·.2)) eC->∀(Qr:dQ) (Er:dQ),
  IU C ρ G fo m loc s Q Qr->ER C ρ G fo m loc s X Er->
  wpAny (model g.prog g.w) C.A (call (.ref f) vals ((kws.map (·.1)).zip eC)) Qr Er s):Rf g D ρ X f args kws σ Q:=by delta Rf;exact h
theorem Rf.out{g:Gl}{D:Nat}{ρ:dN}{X:nA}{args:List V}{kws:List (Str×V)}{σ:bX}{Q:mF}(h:Rf g D ρ X f args kws σ Q):
 ∀(C:Cx),iP g (D+1) C->C.A.handled=none->∀G fo m loc s vals eC,cN C ρ G fo σ m loc s.heap->cZ ρ G args vals->cZ ρ G (kws.map (·.2)) eC->∀(Qr:dQ) (Er:dQ),
  IU C ρ G fo m loc s Q Qr->ER C ρ G fo m loc s X Er->
  wpAny (model g.prog g.w) C.A (call (.ref f) vals ((kws.map (·.1)).zip eC)) Qr Er s:=by delta Rf at h;exact h
abbrev FW(g:Gl)(D:Nat)(ρ:dN)(X:nA)(f:Addr)(args:List V)(σ:bX)(Q:mF):Prop:=Rf g D ρ X f args [] σ Q
theorem cU.get{ρ:dN}{G:cE}{v:V}{loc:aM}{os:cE}(h:cU ρ G m loc os)(e:(x,LV.val v)∈loc):∃val,m x=some val/\VR ρ G v val:=by
 induction h with
 |nil=>exact(List.not_mem_nil e).elim
 |cons h _ ih=>
  rcases s8.mp e with q|e
  ·cases q;induction h.out with
   |val a b=>exact(fG _ a b)
  ·exact ih e
theorem uR.mono{ρ:dN}{G G':cE}{m:mZ}(k:Sub G G'){x:Str}{lv:LV}{o:cE}(h:uR ρ G m x lv o):uR ρ G' m x lv o:=by
 cases lv with
 |un=>exact h
 |val v=>induction h.out with|val a b=>exact .val a (b.mono k)
 |ml vs=>induction h.out with|ml a b=>exact .ml a (b.mono k)
theorem cU.mono{ρ:dN}{G G':cE}{m:mZ}(k:Sub G G'){loc:aM}{os:cE}(h:cU ρ G m loc os):cU ρ G' m loc os:=by
 induction h with
 |nil=>exact .nil
 |cons h _ ih=>exact .cons (h.mono k) ih
section rules
variable{g:Gl}{D:Nat}{C:Cx}{ρ:dN}{X:eZ}{loc:aM}{σ:bX}
theorem Xq{v:V}{Q:_}(hv:(x,LV.val v)∈loc)(h:Q v loc σ)(hx:(envX C.cn C.cs C.L C.a C.Qf C.cl).kindOf x=some .local)(hd:(x==("__debug__":Str))=false):
  EW g D C ρ X (.Name x pos) loc σ Q:=by
 refine .of fun ok G fo m s I Qr Er q _=>?_;obtain⟨ls,os,a,b,c,d⟩:=I.ex;refine bQ (b.get hv) fun val e1 e2=>?_;refine nameX_L I.fr e1 ?_ ok.kind hx hd;exact q v loc σ G val s.heap s.toks h (fun U z=>z) e2 I
theorem aQ{i:Int}{k:Nat}{Q:_}(h:Q (.int i) loc σ):EW g D C ρ X (.Constant (.int i) k pos) loc σ Q:=by
 refine .of fun ok G fo m s I Qr Er q _=>?_;exact wpAny_Constant_int (q _ loc σ G _ s.heap _ h (fun U z=>z) .int I)
theorem aB{k:Nat}{Q:_}(h:Q (.str x) loc σ):EW g D C ρ X (.Constant (.str x) k pos) loc σ Q:=by
 refine .of fun ok G fo m s I Qr Er q _=>?_;exact wpAny_Constant_str (q _ loc σ G _ s.heap _ h (fun U z=>z) .str I)
theorem bT{k:Nat}{Q:_}(h:Q .none loc σ):EW g D C ρ X (.Constant .none k pos) loc σ Q:=by
 refine .of fun ok G fo m s I Qr Er q _=>?_;exact wpAny_Constant_none (q _ loc σ G _ s.heap s.toks h (fun U z=>z) .none I)
theorem cC{b:Bool}{k:Nat}{Q:_}(h:Q (.bool b) loc σ):EW g D C ρ X (.Constant (.bool b) k pos) loc σ Q:=by
 refine .of fun ok G fo m s I Qr Er q _=>?_;exact wpAny_Constant_bool (q _ loc σ G _ s.heap s.toks h (fun U z=>z) .bool I)
theorem EW.mono{Q Q':tU}(h:EW g D C ρ X e loc σ Q)(k:∀v l s,Q v l s->Q' v l s):EW g D C ρ X e loc σ Q':=by
 refine .of fun ok G fo m s I Qr Er q qe=>?_;exact h.out ok G fo m s I Qr Er (fun v l' s' G' val h' bH z=>q v l' s' G' val h' bH (k _ _ _ z)) qe
end rules
end
variable{G:cE}{Q:tU}{G':cE}{ρ:dN}{vs:List V}{ws:List V}{os:cE}{X:V->V->Prop}{g:Gl}{σ:bX}{fo:cE}{aG:aM}{jF:List V}{ob:Ob}{ks:List (Int×lL)}{w:W2}{z:Z}{ρ':dN}{fd:FD}{Xw:V->V->Prop}{signs:List Sn}{row:List Pr}
section
section rules
variable{D:Nat}{C:Cx}{X:eZ}{loc:aM}
theorem bI(h:EW g D C ρ X e loc σ Q)(ok:iP g D C){G fo m s:_}(I:cN C ρ G fo σ m loc s.heap){t:dQ}
  (qe:Du C ρ G fo m s X Er)
  (k:∀v aG bS G' val h' bH,Q v aG bS->Sub G G'->VR ρ G' v val->cN C ρ G' fo bS m aG h'->
   Du C ρ G' fo m (St s h' bH) X Er->t val (St s h' bH)):
  wpAny (model g.prog g.w) C.A (eval e C.env) t Er s:=
 h.out ok G fo m s I _ _ (fun v aG bS G' val h' bH z1 z2 z3 z4=>k v aG bS G' val h' bH z1 z2 z3 z4 (qe.step z2)) qe
theorem jP{l r:Expr}{R:V->V->aM->bX->Prop}(h:EW g D C ρ X l loc σ (fun a dA jA=>EW g D C ρ X r dA jA (fun b cT lF=>R a b cT lF)))(ok:iP g D C){G fo m s:_}(I:cN C ρ G fo σ m loc s.heap)
  {t:Value->Value->Shared->Prop}
  (qe:Du C ρ G fo m s X Er)
  (k:∀a b aG bS G' av bv h' bH,R a b aG bS->Sub G G'->VR ρ G' a av->VR ρ G' b bv->cN C ρ G' fo bS m aG h'->
   Du C ρ G' fo m (St s h' bH) X Er->t av bv (St s h' bH)):
  wpAny (model g.prog g.w) C.A (eval l C.env) (fun av s1=>wpAny (model g.prog g.w) C.A (eval r C.env) (fun bv s2=>t av bv s2) Er s1) Er s:=by
 refine bI h ok I qe fun a dA jA G1 av h1 fN z1 z2 z3 z4 lO=>?_;refine bI z1 ok (s:=(St s h1 fN)) z4 lO fun b cT lF G2 bv h2 iC y1 y2 y3 y4 tO=>?_;exact k a b cT lF G2 av bv h2 iC y1 (fun p hp=>y2 p (z2 p hp)) (z3.mono y2) y3 y4 tO
theorem nY{l r:Expr}{op:Operator}
  (h:EW g D C ρ X l loc σ (fun a dA jA=>EW g D C ρ X r dA jA (fun b cT lF=>
   ∀(G:cE) (s:Shared) (av bv:Value),VR ρ G a av->VR ρ G b bv->∀(T:dQ) (E:dQ),(∀v val tk,Q v cT lF->VR ρ G v val->T val {s with toks:=tk})->wpAny (model g.prog g.w) C.A (binaryOp op av bv) T E s))):
  EW g D C ρ X (.BinOp l op r pos) loc σ Q:=by
 refine .of fun ok G fo m s I Qr Er q qe=>?_;refine wpAny_BinOp (jP h ok I qe fun a b aG bS G' av bv h' bH z1 z2 z3 z4 z5 U=>?_);exact z1 G' _ av bv z3 z4 _ _ fun v val tk y1 y2=>q v aG bS G' val h' tk y1 z2 y2 z5
inductive JZ(f:Int->Int->Int)(Q:tU)(a b:V)(l:aM)(s:bX):Prop
 |mk(i j:Int)(ha:a=.int i)(hb:b=.int j)(h:Q (.int (f i j)) l s)
noncomputable def Kp(g:Gl)(D:Nat)(C:Cx)(ρ:dN)(X:eZ)(r:Expr)(R:V->V->aM->bX->Prop):V->aM->bX->Prop:=fun a l s=>EW g D C ρ X r l s (R a)
theorem lG{l r:Expr}(h:EW g D C ρ X l loc σ (Kp g D C ρ X r (JZ (· + ·) Q))):
  EW g D C ρ X (.BinOp l .Add r pos) loc σ Q:=by
 refine nY (h.mono fun a l1 s1 z=>z.mono fun b l2 s2 z=>?_);obtain⟨i,j,rfl,rfl,zz⟩:=z;intro G s av bv ha hb T E k;induction ha.out;induction hb.out
 exact PyProof.Rows.add_int (k _ _ _ zz .int)
theorem tR{l r:Expr}(h:EW g D C ρ X l loc σ (Kp g D C ρ X r (JZ (· - ·) Q))):
  EW g D C ρ X (.BinOp l .Sub r pos) loc σ Q:=by
 refine nY (h.mono fun a l1 s1 z=>z.mono fun b l2 s2 z=>?_);obtain⟨i,j,rfl,rfl,zz⟩:=z;intro G s av bv ha hb T E k;induction ha.out;induction hb.out
 exact PyProof.Rows.sub_int (k _ _ _ zz .int)
def Se(Q:tU)(a b:V)(l:aM)(s:bX):Prop:=∀Ω:Prop,(∀(x y:Str) (ha:a=.str x) (hb:b=.str y) (hz:x.length+y.length<=sizeLine) (h:Q (.str (x++y)) l s),Ω)->Ω
theorem Se.mk{a b:V}{l:aM}{s:bX}(x y:Str)(ha:a=.str x)(hb:b=.str y)(hz:x.length+y.length<=sizeLine)(h:Q (.str (x++y)) l s):Se Q a b l s:=fun U φ=>φ x y ha hb hz h
theorem Bi{l r:Expr}(h:EW g D C ρ X l loc σ (Kp g D C ρ X r (Se Q))):
  EW g D C ρ X (.BinOp l .Add r pos) loc σ Q:=by
 refine nY (h.mono fun a l1 s1 z=>z.mono fun b l2 s2 z=>?_);refine z _ ?_;clear z
 rintro x y rfl rfl hz zz
 intro G s av bv ha hb T E k;induction ha.out;induction hb.out
 exact PyProof.Rows.add_str (fun t tk=>k _ _ _ zz .str) hz
theorem DR{l r:Expr}(hm:behindInMarks op r=false)
  (h:EW g D C ρ X l loc σ (fun a dA jA=>EW g D C ρ X r dA jA (fun b cT lF=>
   ∀(G:cE) (s:Shared) (av bv:Value),VR ρ G a av->VR ρ G b bv->∀(T:dQ) (E:dQ),(∀v val tk,Q v cT lF->VR ρ G v val->T val {s with toks:=tk})->wpAny (model g.prog g.w) C.A (compareOp op av bv) T E s))):
  EW g D C ρ X (.Compare l [op] [r] pos) loc σ Q:=by
 refine .of fun ok G fo m s I Qr Er q qe=>?_;refine wpAny_Compare1 (jP h ok I qe fun a b aG bS G' av bv h' bH z1 z2 z3 z4 z5 U=>?_) hm;exact z1 G' _ av bv z3 z4 _ _ fun v val tk y1 y2=>q v aG bS G' val h' tk y1 z2 y2 z5
@[irreducible] def BW(g:Gl)(D:Nat)(C:Cx)(ρ:dN)(X:eZ)(e:Expr)(loc:aM)(σ:bX)(Q:nX):Prop:=
 iP g D C->∀G fo m s fS,cN C ρ G fo σ m loc s.heap->fS=eval e C.env->∀(Qr:Bool->Shared->Prop) (Er:dQ),
  IT C ρ G fo m s Q Qr->Du C ρ G fo m s X Er->
  wpAny (model g.prog g.w) C.A (isTrue e C.env fS) Qr Er s
theorem BW.of{D:Nat}{C:Cx}{X:eZ}{loc:aM}{Q:nX}(h:
 iP g D C->∀G fo m s fS,cN C ρ G fo σ m loc s.heap->fS=eval e C.env->∀(Qr:Bool->Shared->Prop) (Er:dQ),
  IT C ρ G fo m s Q Qr->Du C ρ G fo m s X Er->
  wpAny (model g.prog g.w) C.A (isTrue e C.env fS) Qr Er s):BW g D C ρ X e loc σ Q:=by delta BW;exact h
theorem BW.out{D:Nat}{C:Cx}{X:eZ}{loc:aM}{Q:nX}(h:BW g D C ρ X e loc σ Q):
 iP g D C->∀G fo m s fS,cN C ρ G fo σ m loc s.heap->fS=eval e C.env->∀(Qr:Bool->Shared->Prop) (Er:dQ),
  IT C ρ G fo m s Q Qr->Du C ρ G fo m s X Er->
  wpAny (model g.prog g.w) C.A (isTrue e C.env fS) Qr Er s:=by delta BW at h;exact h
theorem BW.mono{Q Q':nX}(h:BW g D C ρ X e loc σ Q)(k:∀v l s,Q v l s->Q' v l s):BW g D C ρ X e loc σ Q':=by
 refine .of fun ok G fo m s w I e Qr Er q qe=>?_;exact h.out ok G fo m s w I e Qr Er (fun v l' s' G' h' bH z=>q v l' s' G' h' bH (k _ _ _ z)) qe
theorem Qs{l r:Expr}{Q:nX}(hm:behindInMarks op r=false)
  (h:EW g D C ρ X l loc σ (fun a dA jA=>EW g D C ρ X r dA jA (fun b cT lF=>
   ∀(G:cE) (s:Shared) (av bv:Value),VR ρ G a av->VR ρ G b bv->∀(T:dQ) (E:dQ),(∀c tk,Q c cT lF->T (.bool c) {s with toks:=tk})->wpAny (model g.prog g.w) C.A (compareOp op av bv) T E s))):
  BW g D C ρ X (.Compare l [op] [r] pos) loc σ Q:=by
 refine .of fun ok G fo m s w I _ Qr Er q qe=>?_;refine wpAny_isTrue_Compare1 (jP h ok I qe fun a b aG bS G' av bv h' bH z1 z2 z3 z4 z5 U=>?_) hm;exact z1 G' _ av bv z3 z4 _ _ fun c tk y1=>wpAny_truthy_bool (q c aG bS G' h' tk y1 z2 z5)
theorem gJ{Q:nX}(h:BW g D C ρ X e loc σ (fun b l s=>Q (!b) l s)):BW g D C ρ X (.UnaryOp .Not e pos) loc σ Q:=by
 refine .of fun ok G fo m s w I _ Qr Er q qe=>?_;show wpAny _ _ (do return !(←isTrue e C.env (eval e C.env))) _ _ _;refine q8 (h.out ok G fo m s _ I rfl _ _ (fun b aG bS G' h' bH z1 z2 z3=>?_) qe);exact wpAny_pure (q _ _ _ _ _ _ z1 z2 z3)
theorem eP{Q:nX}(h:BW g D C ρ X e loc σ Q):BW g D C ρ X (.BoolOp .And [e] pos) loc σ Q:=by
 refine .of fun ok G fo m s w I _ Qr Er q qe=>?_;show wpAny _ _ (do match BoolOp.And,←isTrue e C.env (eval e C.env) with|.And,false=>pure false|.Or,true=>pure true|_,_=>allTrue .And [] C.env) _ _ _
 refine q8 (h.out ok G fo m s _ I rfl _ _ (fun b aG bS G' h' bH z1 z2 z3=>?_) qe);induction b with
 |false=>exact wpAny_pure (q _ _ _ _ _ _ z1 z2 z3)
 |true=>exact wpAny_pure (q _ _ _ _ _ _ z1 z2 z3)
structure yQ(g:Gl)(D:Nat)(C:Cx)(ρ:dN)(X:eZ)(r:Expr)(Q:nX)(b:Bool)(l:aM)(s:bX):Prop where
 f:b=false->Q false l s
 t:b=true->BW g D C ρ X r l s Q
structure Bq(g:Gl)(D:Nat)(C:Cx)(ρ:dN)(X:eZ)(r:Expr)(Q:nX)(b:Bool)(l:aM)(s:bX):Prop where
 t:b=true->Q true l s
 f:b=false->BW g D C ρ X r l s Q
theorem cV{e':Expr}{r:List Expr}{Q:nX}(h:BW g D C ρ X e loc σ (yQ g D C ρ X (.BoolOp .And (e'::r) pos) Q)):
  BW g D C ρ X (.BoolOp .And (e::e'::r) pos) loc σ Q:=by
 refine .of fun ok G fo m s w I _ Qr Er q qe=>?_;show wpAny _ _ (do match BoolOp.And,←isTrue e C.env (eval e C.env) with|.And,false=>pure false|.Or,true=>pure true|_,_=>allTrue .And (e'::r) C.env) _ _ _
 refine q8 (h.out ok G fo m s _ I rfl _ _ (fun b aG bS G' h' bH z1 z2 z3=>?_) qe);induction b with
 |false=>exact wpAny_pure (q _ _ _ _ _ _ (z1.f rfl) z2 z3)
 |true=>exact(z1.t rfl).out ok G' fo m (St s h' bH) _ z3 rfl Qr Er (q.step z2) (qe.step z2)
theorem iS{Q:nX}(h:BW g D C ρ X e loc σ Q):BW g D C ρ X (.BoolOp .Or [e] pos) loc σ Q:=by
 refine .of fun ok G fo m s w I _ Qr Er q qe=>?_;show wpAny _ _ (do match BoolOp.Or,←isTrue e C.env (eval e C.env) with|.And,false=>pure false|.Or,true=>pure true|_,_=>allTrue .Or [] C.env) _ _ _
 refine q8 (h.out ok G fo m s _ I rfl _ _ (fun b aG bS G' h' bH z1 z2 z3=>?_) qe);induction b with
 |false=>exact wpAny_pure (q _ _ _ _ _ _ z1 z2 z3)
 |true=>exact wpAny_pure (q _ _ _ _ _ _ z1 z2 z3)
theorem gS{e':Expr}{r:List Expr}{Q:nX}(h:BW g D C ρ X e loc σ (Bq g D C ρ X (.BoolOp .Or (e'::r) pos) Q)):
  BW g D C ρ X (.BoolOp .Or (e::e'::r) pos) loc σ Q:=by
 refine .of fun ok G fo m s w I _ Qr Er q qe=>?_;show wpAny _ _ (do match BoolOp.Or,←isTrue e C.env (eval e C.env) with|.And,false=>pure false|.Or,true=>pure true|_,_=>allTrue .Or (e'::r) C.env) _ _ _
 refine q8 (h.out ok G fo m s _ I rfl _ _ (fun b aG bS G' h' bH z1 z2 z3=>?_) qe);induction b with
 |true=>exact wpAny_pure (q _ _ _ _ _ _ (z1.t rfl) z2 z3)
 |false=>exact(z1.f rfl).out ok G' fo m (St s h' bH) _ z3 rfl Qr Er (q.step z2) (qe.step z2)
theorem aC{Q:eM}(h:Q .next loc σ):SW g D C ρ X [] loc σ Q:=by
 refine .of fun ok G fo m s I Qr Er q _=>?_;exact wpAny_execs_nil (q .next loc σ G m .next s.heap s.toks h (fun U z=>z) .next I)
noncomputable def lQ(g:Gl)(D:Nat)(C:Cx)(ρ:dN)(X:eZ)(r:List Stmt)(Q:eM):Fl->aM->bX->Prop
 |.next,l,s=>SW g D C ρ X r l s Q
 |.brk,l,s=>Q .brk l s
 |.cont,l,s=>Q .cont l s
 |.ret v,l,s=>Q (.ret v) l s
theorem bW{st:Stmt}{r:List Stmt}{Q:eM}(h:kA g D C ρ X st loc σ (lQ g D C ρ X r Q)):SW g D C ρ X (st::r) loc σ Q:=by
 refine .of fun ok G fo m s I Qr Er q qe=>?_;refine wpAny_execs_cons (h.out ok G fo m s I _ _ (fun f aG bS G' m' fv h' bH z1 z2 z3 z4=>?_) qe);induction z3 with
 |next=>exact z1.out ok G' fo m' (St s h' bH) z4 Qr Er (q.step z2) (qe.step z2)
 |brk=>exact q .brk aG bS G' m' _ h' bH z1 z2 .brk z4
 |cont=>exact q .cont aG bS G' m' _ h' bH z1 z2 .cont z4
 |ret hv=>exact q (.ret _) aG bS G' m' _ h' bH z1 z2 (.ret hv) z4
structure yT(g:Gl)(D:Nat)(C:Cx)(ρ:dN)(X:eZ)(body orelse:List Stmt)(Q:eM)(b:Bool)(l:aM)(s:bX):Prop where
 t:b=true->SW g D C ρ X body l s Q
 f:b=false->SW g D C ρ X orelse l s Q
theorem kI{test:Expr}{orelse:List Stmt}{Q:eM}
  (h:BW g D C ρ X test loc σ (yT g D C ρ X body orelse Q)):kA g D C ρ X (.If test body orelse pos) loc σ Q:=by
 refine .of fun ok G fo m s I Qr Er q qe=>?_;refine wpAny_If (h.out ok G fo m s _ I rfl _ _ (fun b aG bS G' h' bH z1 z2 z3=>?_) qe.at);induction b with
 |true=>exact(z1.t rfl).out ok G' fo m (St s h' bH) z3 Qr Er (q.step z2) (qe.step z2)
 |false=>exact(z1.f rfl).out ok G' fo m (St s h' bH) z3 Qr Er (q.step z2) (qe.step z2)
noncomputable def RD(Q:eM):V->aM->bX->Prop:=fun v=>Q (.ret v)
theorem bV{Q:eM}(h:EW g D C ρ X e loc σ (RD Q)):kA g D C ρ X (.Return (some e) pos) loc σ Q:=by
 refine .of fun ok G fo m s I Qr Er q qe=>?_;exact wpAny_Return_some (h.out ok G fo m s I _ _ (fun v aG bS G' val h' bH z1 z2 z3 z4=>q (.ret v) aG bS G' m _ h' bH z1 z2 (.ret z3) z4) qe.at)
theorem Ku{Q:eM}(h:Q (.ret .none) loc σ):kA g D C ρ X (.Return none pos) loc σ Q:=by
 refine .of fun ok G fo m s I Qr Er q qe=>?_;exact wpAny_Return_none (q (.ret .none) loc σ G m _ s.heap s.toks h (.refl _) (.ret .none) I)
theorem tV{Q:eM}(h:Q .brk loc σ):kA g D C ρ X (.Break pos) loc σ Q:=by
 refine .of fun ok G fo m s I Qr Er q qe=>?_;exact wpAny_Break (q .brk loc σ G m _ s.heap s.toks h (.refl _) .brk I)
theorem OU{Q:eM}(h:Q .cont loc σ):kA g D C ρ X (.Continue pos) loc σ Q:=by
 refine .of fun ok G fo m s I Qr Er q qe=>?_;exact wpAny_Continue (q .cont loc σ G m _ s.heap s.toks h (.refl _) .cont I)
end rules
end
section
class inductive dW(x:Str)(lv:LV):aM->aM->Prop
 |head{v r:_}:dW x lv ((x,v)::r) ((x,lv)::r)
 |tail{y v r r':_}:dW x lv r r'->dW x lv ((y,v)::r) ((y,v)::r')
theorem dW.names{lv:LV}{l l':aM}(h:dW x lv l l'):l'.map (·.1)=l.map (·.1):=by
 induction h with
 |head=>rfl
 |tail _ ih=>exact congrArg (_:: ·) ih
theorem dW.mem{lv:LV}{l l':aM}(h:dW x lv l l'):x∈l.map (·.1):=by
 induction h with
 |head=>exact .head _
 |tail _ ih=>exact .tail _ ih
noncomputable abbrev sU(m:mZ)(x:Str)(v:Value):Str->Option Value:=fun y=>if y=x then some v else m y
theorem uR.other{m':mZ}(e:m' y=m y){lv:LV}{o:cE}(h:uR ρ G m y lv o):uR ρ G m' y lv o:=by
 cases lv with
 |un=>exact h
 |val v=>induction h.out with|val a b=>exact .val (e.trans a) b
 |ml vs=>induction h.out with|ml a b=>exact .ml (e.trans a) b
theorem cU.other{ρ:dN}{G:cE}{m m':mZ}{x:Str}(hm:∀y,y≠x->m' y=m y){loc:aM}{os:cE}(h:cU ρ G m loc os)(n:x∉loc.map (·.1)):cU ρ G m' loc os:=by
 induction h with
 |nil=>exact .nil
 |cons h _ ih=>exact .cons (h.other (hm _ fun z=>n (z▸ .head _))) (ih fun z=>n (.tail _ z))
theorem xW:∀y,y≠x->sU m x v y=m y:=fun y h=>if_neg h
theorem An:sU m x v x=some v:=if_pos rfl
def QV(ρ:dN)(G:cE)(m:mZ)(x:Str)(loc:aM)(os:cE)(v:LV):Prop:=∀Ω:Prop,(∀(l1 l2:aM) (o1 o o2:cE) (e:loc=l1++(x,v)::l2) (eo:os=o1++(o++o2)) (h1:cU ρ G m l1 o1) (h:uR ρ G m x v o) (h2:cU ρ G m l2 o2) (n1:x∉l1.map (·.1)) (n2:x∉l2.map (·.1)),Ω)->Ω
theorem QV.mk{loc:aM}{v:LV}(l1 l2:aM)(o1 o o2:cE)(e:loc=l1++(x,v)::l2)(eo:os=o1++(o++o2))(h1:cU ρ G m l1 o1)(h:uR ρ G m x v o)(h2:cU ρ G m l2 o2)(n1:x∉l1.map (·.1))(n2:x∉l2.map (·.1)):QV ρ G m x loc os v:=fun U φ=>φ l1 l2 o1 o o2 e eo h1 h h2 n1 n2
theorem cU.at{v:LV}{loc:aM}(h:cU ρ G m loc os)(e:(x,v)∈loc)(nd:(loc.map (·.1)).Nodup):QV ρ G m x loc os v:=by
 induction loc generalizing os with
 |nil=>cases e
 |cons p r ih=>
  refine h.IP _ ?_
  rintro o vO rfl hx k
  obtain⟨n1,n2⟩:=x6.mp nd
  rcases s8.mp e with q|e
  ·subst q;exact(.mk ([]) r ([]) o vO rfl rfl .nil hx k List.not_mem_nil n1)
  ·refine(ih k e n2) _ ?_
   rintro l1 l2 o1 o' o2 rfl rfl a b c d f
   exact(.mk (p::l1) l2 (o++o1) o' o2 rfl ((r7 ..).symm) (hx.cons a) b c (fun z=>(s8.mp z).elim (fun q=>n1 (q▸List.mem_map_of_mem (f:=(·.1)) e)) d) f)
theorem dW.k9{lv:LV}{l l':aM}(u:dW x lv l l'):∃v,(x,v)∈l:=by
 induction u with
 |head=>exact⟨_,.head _⟩
 |tail _ ih=>exact ih.imp fun U z=>.tail _ z
theorem dW.inv{lv:LV}{p:Str×LV}{l l':aM}(u:dW x lv (p::l) l'):(p.1=x/\l'=(x,lv)::l)\/∃l2,l'=p::l2/\dW x lv l l2:=by
 cases u with
 |head=>exact .inl ⟨rfl,rfl⟩
 |tail u=>exact .inr (fG _ rfl u)
theorem dW.at{lv v:LV}{l2:aM}(h2:x∉l2.map (·.1)){l1 l':aM}(u:dW x lv (l1++(x,v)::l2) l')(h:x∉l1.map (·.1)):l'=l1++(x,lv)::l2:=by
 induction l1 generalizing l' with
 |nil=>exact u.inv.elim (fun e=>e.2) fun⟨_,_,u⟩=>(h2 u.mem).elim
 |cons p l1 ih=>
  rcases u.inv with⟨e,_⟩|⟨l3,e,u⟩
  ·exact(h (e▸ .head _)).elim
  ·rw[e];exact congrArg _ (ih u fun z=>h (.tail _ z))
theorem cU.put{m':mZ}{lv:LV}{o':cE}(hm:∀y,y≠x->m' y=m y)(hv:uR ρ G m' x lv o'){loc:aM}(u:dW x lv loc aG)(h:cU ρ G m loc os)(nd:(loc.map (·.1)).Nodup):
  ∃o1 o o2,os=o1++(o++o2)/\cU ρ G m' aG (o1++(o'++o2)):=by
 obtain⟨w,hw⟩:=u.k9;refine(h.at hw nd) _ ?_
 rintro l1 l2 o1 o o2 rfl rfl h1 hx h2 n1 n2
 rw[u.at n2 n1];exact(EB o1 o o2 rfl ((h1.other hm n1).append (hv.cons (h2.other hm n2))))
theorem cU.Vz{v:V}{val:Value}(hv:VR ρ G v val){loc:aM}(u:dW x (.val v) loc aG)(h:cU ρ G m loc os)(nd:(loc.map (·.1)).Nodup):∃vO,cU ρ G (sU m x val) aG vO/\vO.Sublist os:=by
 refine Hp (h.put xW (.val An hv) u nd) fun o1 o o2 fE k=>?_;subst fE;exact(fG _ k ((List.Sublist.refl o1).append (List.sublist_append_right o o2)))
theorem dU{h₀:Heap}{L:Addr}{a b:cE}(N:News h₀ L h b)(s:∀p∈a,p∈b):News h₀ L h a:=fun p hp=>N p (s p hp)
theorem gP{a b:cE}(n:(b.map (·.1)).Nodup)(s:a.Sublist b):(a.map (·.1)).Nodup:=n.sublist (s.map _)
theorem cN.Vz{C:Cx}{ρ:dN}{G fo:cE}{σ:bX}{m:mZ}{loc aG:aM}{h h':Heap}{x:Str}{v:V}{val:Value}(I:cN C ρ G fo σ m loc h)(u:dW x (.val v) loc aG)(hv:VR ρ G v val)
  (F:Fr C.h₀ C.L h' (sU m x val)) (N:∀news,News C.h₀ C.L h news->News C.h₀ C.L h' news):cN C ρ G fo σ (sU m x val) aG h':=by
 obtain⟨⟨ls,os,a,b,c,d⟩,_,nd⟩:=I;refine bQ (b.Vz hv u nd) fun vO b' sb=>?_;have sl:(ls++(vO++(fo++G))).Sublist (ls++(os++(fo++G))):=(List.Sublist.refl _).append (sb.append (.refl _));exact⟨⟨ls,vO,a,b',N _ (dU c sl.subset),gP d sl⟩,F,by rw[u.names];exact nd⟩
section rules
variable{D:Nat}{C:Cx}{X:eZ}{loc:aM}
theorem gI(ok:iP g D C)(hx:(envX C.cn C.cs C.L C.a C.Qf C.cl).kindOf x=some .local){G fo m s:_}(I:cN C ρ G fo σ m loc s.heap){v:V}{val:Value}(hv:VR ρ G v val)(u:dW x (.val v) loc aG)
  {Q:Unit->Shared->Prop} {E:dQ} (k:∀h' bH,cN C ρ G fo σ (sU m x val) aG h'->Q () (St s h' bH)):wpAny (model g.prog g.w) C.A (storeName C.env x val) Q E s:=by
 obtain⟨ls,os,a,b,c,d⟩:=I.ex;refine wpAny_storeName_local hx I.fr.ns (fun h' hn hs=>?_) (by show(C.cs.kind==.class||(C.cs.kind==.module&&C.L !=mainGlobals))=false;rw[ok.kind];rfl);exact k h' _ (I.Vz u hv (I.fr.set hn hs) fun news N=>N.set hs)
inductive XP(x:Str)(Q:eM)(v:V)(l:aM)(s:bX):Prop
 |mk(l':aM)(u:dW x (.val v) l l')(h:Q .next l' s)
theorem aD{Q:eM}(hs:swapsWith e (some (.Name x p)) pos.line C.env=pure false)(hx:(envX C.cn C.cs C.L C.a C.Qf C.cl).kindOf x=some .local)
  (h:EW g D C ρ X e loc σ (XP x Q)):kA g D C ρ X (.Assign [.Name x p] e pos) loc σ Q:=by
 refine .of fun ok G fo m s I Qr Er q qe=>?_;refine wpAny_Assign_Name (h.out ok G fo m s I _ _ (fun v aG bS G' val h' bH z1 z2 z3 z4=>?_) qe.at) hs;obtain⟨l',u,z⟩:=z1;exact gI ok hx (s:=(St s h' bH)) z4 z3 u fun h2 t2 I2=>q .next l' bS G' _ .next h2 t2 z z2 .next I2
theorem Ic{op:Operator}{v:V}{Q:eM}(hx:(envX C.cn C.cs C.L C.a C.Qf C.cl).kindOf x=some .local)(hv:(x,LV.val v)∈loc)
  (h:EW g D C ρ X e loc σ (fun b l s=>∀(G:cE) (gE:Shared) (av bv:Value),VR ρ G v av->VR ρ G b bv->∀(T:dQ) (E:dQ),
   (∀r val tk,(∃l',dW x (.val r) l l'/\Q .next l' s)->VR ρ G r val->T val {gE with toks:=tk})->wpAny (model g.prog g.w) C.A (inplaceOp op av bv) T E gE)):kA g D C ρ X (.AugAssign (.Name x p) op e pos) loc σ Q:=by
 refine .of fun ok G fo m s I Qr Er q qe=>?_;obtain⟨ls,os,a,b,c,d⟩:=I.ex;refine bQ (b.get hv) fun av e1 e2=>?_;refine wpAny_AugAssign_Name (wpAny_loadName_local ok.kind hx I.fr.ns e1 ?_);refine h.out ok G fo m s I _ _ (fun b aG bS G' bv h' bH z1 z2 z3 z4=>?_) qe.at;refine z1 G' _ av bv (e2.mono z2) z3 _ _ fun r val tk y1 y2=>?_;refine bQ y1 fun l' u z=>?_;exact gI ok hx (s:=(St s h' tk)) z4 y2 u fun h2 t2 I2=>q .next l' bS G' _ .next h2 t2 z z2 .next I2
inductive KJ(x:Str)(f:Int->Int)(Q:eM)(b:V)(l:aM)(s:bX):Prop
 |mk(j:Int)(hb:b=.int j)(l':aM)(u:dW x (.val (.int (f j))) l l')(h:Q .next l' s)
theorem iD{i:Int}{Q:eM}(hx:(envX C.cn C.cs C.L C.a C.Qf C.cl).kindOf x=some .local)(hv:(x,LV.val (.int i))∈loc)
  (h:EW g D C ρ X e loc σ (KJ x (i+ ·) Q)):kA g D C ρ X (.AugAssign (.Name x p) .Add e pos) loc σ Q:=by
 refine Ic hx hv (h.mono fun b l s z=>?_);obtain⟨j,rfl,l2,u,z⟩:=z;intro G s av bv ha hb T E k;induction ha.out;induction hb.out
 exact PyProof.Rows.iadd_int (k _ _ _ (fG l2 u z) .int)
theorem nZ{i:Int}{Q:eM}(hx:(envX C.cn C.cs C.L C.a C.Qf C.cl).kindOf x=some .local)(hv:(x,LV.val (.int i))∈loc)
  (h:EW g D C ρ X e loc σ (KJ x (i- ·) Q)):kA g D C ρ X (.AugAssign (.Name x p) .Sub e pos) loc σ Q:=by
 refine Ic hx hv (h.mono fun b l s z=>?_);obtain⟨j,rfl,l2,u,z⟩:=z;intro G s av bv ha hb T E k;induction ha.out;induction hb.out
 exact PyProof.Rows.isub_int (k _ _ _ (fG l2 u z) .int)
noncomputable def V.small(v:V):Bool:=v.sel false true (fun U=>true) (fun U=>true) (fun U=>true)
def EN(P:Prop)(val:Value):Prop:=
 match val with
 |.ref _=>False
 |_=>P
theorem Dj{P:Prop}{v:V}{val:Value}(hu:v.small=true)(h:VR ρ G v val)(p:P):EN P val:=by
 cases v with
 |none=>induction h.out;exact p
 |bool b=>induction h.out;exact p
 |int i=>induction h.out;exact p
 |str s=>induction h.out;exact p
 |_=>exact(Bool.false_ne_true hu).elim
structure QC(Q:eM)(v:V)(l:aM)(s:bX):Prop where
 sm:v.small=true
 h:Q .next l s
theorem cJ{Q:eM}(hi:interactive C.env=false)(hs:swapsWith e none pos.line C.env=pure false)
  (h:EW g D C ρ X e loc σ (QC Q)):kA g D C ρ X (.Expr e pos) loc σ Q:=by
 refine .of fun ok G fo m s I Qr Er q qe=>?_;refine wpAny_Expr (h.out ok G fo m s I _ _ (fun v aG bS G' val h' bH z1 z2 z3 z4=>?_) qe.at) hi hs;exact Dj z1.sm z3 (q .next aG bS G' m _ h' bH z1.h z2 .next z4)
end rules
end
def DW(g:Gl)(f:Addr)(qual:Str)(params:Arguments)(body:List Stmt)(scope:Scope)(dV fW:Value):Prop:=∀Ω:Prop,(∀(oc od name kV doc pm an ct uI:_) (e:g.K.lookup f=some ⟨oc,od,.func (fnOf name qual params body scope dV kV doc pm an fW ct),uI⟩),Ω)->Ω
theorem DW.mk{params:Arguments}(oc od name kV doc pm an ct uI:_)(e:g.K.lookup f=some ⟨oc,od,.func (fnOf name qual params body scope dV kV doc pm an fW ct),uI⟩):DW g f qual params body scope dV fW:=fun U φ=>φ oc od name kV doc pm an ct uI e
structure Eh(g:Gl)(f:Addr)(qual:Str)(params:Arguments)(body:List Stmt)(scope:Scope)(dV fW:Value):Prop where
 lk:DW g f qual params body scope dV fW
 cd:codeIn g.K fW qual=true
 co:scope.isCoroutine=false
 gen:scope.isGenerator=false
 kd:scope.kind=.function
 cell:∀x∈scope.names,x.2≠ .cell
noncomputable def iQ:List Str->List V->List Str->aM
 |[],_,r=>r.map fun n=>(n,.un)
 |n::ns,vs,r=>
  match vs with
  |v::vs=>(n,.val v)::iQ ns vs r
  |[]=>r.map fun n=>(n,.un)
theorem qV{r:List Str}(h:ns.length=vs.length):(iQ ns vs r).map (·.1)=ns++r:=by
 induction ns generalizing vs with
 |nil=>
  show(r.map fun n=>(n,LV.un)).map (·.1)=r;rw[List.map_map];exact List.map_id r
 |cons n ns ih=>
  induction vs with
  |nil=>cases h
  |cons v vs=>exact congrArg (n:: ·) (ih (Nat.succ.inj h))
theorem Lv:∀r:List Str,cU ρ G m (r.map fun n=>(n,LV.un)) []:=by
 intro eN;induction eN with
 |nil=>
  exact .nil
 |cons _ r ih=>
  exact .un (ih)
theorem Ai{vals:List Value}{r:List Str}(a:cZ ρ G vs vals)(h:ns.length=vs.length)(k:∀p∈ns.zip vals,m p.1=some p.2):cU ρ G m (iQ ns vs r) []:=by
 induction ns generalizing vs vals with
 |nil=>exact Lv r
 |cons n ns ih=>
  induction vs with
  |nil=>exact Lv r
  |cons v vs=>induction a.out with|cons x y=>exact .val (k (n,_) (.head _)) x (ih y (Nat.succ.inj h) fun p hp=>k p (.tail _ hp))
theorem kU{l:List (Str×Value)}(n:(l.map (·.1)).Nodup)(h:(x,v)∈l):l.lookup x=some v:=by
 induction l with
 |nil=>cases h
 |cons p r ih=>
  rw[List.lookup_cons]
  rcases s8.mp h with q|q
  ·rw[←q];simp only[beq_self_eq_true]
  ·have hx:¬x=p.1:=fun z=>(x6.mp n).1 (List.mem_map.mpr ⟨_,q,z⟩);rw[beq_eq_false_iff_ne.mpr hx];exact ih (x6.mp n).2 q
theorem lU{vals:List Value}(h:ns.length=vals.length):(ns.zip vals).map (·.1)=ns:=List.map_fst_zip (r9 h)
noncomputable def oB(C:Cx)(qual:Str)(scope:Scope)(L' f:Addr)(fW:Value)(h:Heap):Cx:=
 {cn:=qual,cs:=scope,L:=L',a:=f,Qf:=fW,cl:=[],h₀:=h,base:=C.base,outer:=C.env::C.outer,A₀:=C.A,A:=C.A.deeper (envOf qual scope L' f fW)}
section
variable{D:Nat}
theorem iP.mono{D D':Nat}{C:Cx}(h:iP g D' C)(le:D<=D'):iP g D C:=⟨h.below,h.kB,h.top,h.kind,h.frames,by have:=h.dep;exact v9 (t9 le _) this,by have:=h.OH;exact v9 (t9 (Nat.mul_le_mul_left 8 le) _) this⟩
theorem zW{C:Cx}{L':Addr}(ok:iP g (D+1) C)(B:Below C.A C.base (C.env::C.outer) h)(X:g.K.In h)(T:Top g.p g.loose g.AQ g.mg g.mb h)(hk:scope.kind=.function):
  iP g D (oB C qual scope L' f fW h):=by
 refine⟨B,X,T,hk,Around.frames_deeper ok.frames,?_,?_⟩
 ·show C.A.depth+1+D<_;have:=ok.dep;exact v9 (r9 (Nat.add_right_comm ..)) this
 ·show C.A.units+3+8 * D<_;have:=ok.OH;exact v9 (q5 (r9 (Nat.add_right_comm ..)) (t9 (by decide:3<=8) _)) this
theorem AM{C:Cx}{L':Addr}{m':mZ}{loc:aM}{x:yO}{ev:Value}{s:Shared}{E:dQ}{Q:Unit->Shared->Prop}
  (hA:C.A.frames=some (C.env::C.outer)) (F:Fr C.h₀ C.L h m) (hl:cU ρ G m loc os) (nd:(loc.map (·.1)).Nodup)
  (y:Et (oB C qual scope L' f fW h) ρ G (os++fo) σ m' aG x ev s.heap)
  (k:∀h' bH,Et C ρ G fo σ m loc x ev h'->Q () (St s h' bH)):
  wpAny M (C.A.deeper (envOf qual scope L' f fW)) (leaving (envOf qual scope L' f fW) ev) Q E s:=by
 obtain⟨⟨e,dx,a0,es,n,vals,ls,vO,B,rfl,hd,he,hv,hs,Lo,hn,hB,hq,fl⟩,up,ns,Mb⟩:=y;refine jL (P:=Bo B (C.env::C.outer) e (.ref x.cls) a0 s.heap) (Df _ _) hd (fun k=>?_) fun h' p' CQ=>?_
 ·unfold leaving;refine q8 (xZ (L:=L') (Around.frames_deeper hA) rfl fl fun h1 YE up1=>?_);exact wpAny_landsW (s:={s with heap:=h1}) YE fun h' CR j9=>k h' ⟨⟨CR.1,CR.2.1,CR.2.2.1.2.2,CR.2.2.2⟩,up1.trans j9⟩
 refine k h' s.toks ⟨⟨e,dx,a0,es,n,vals,ls,os,B,rfl,CQ,he,hv,hs,hl,?_,hB,?_,.inl p'.1⟩,?_,?_,nd⟩
 ·refine hn.sublist (List.Sublist.map _ (List.Sublist.cons₂ _ ((List.Sublist.refl _).append ?_)));rw[←r7 os fo G];exact List.sublist_append_right vO _
 ·intro q JB;have hm:q∈(dx,dictOf es n)::(ls++(vO++((os++fo)++G))):=by
   simp only[s8,List.mem_append] at JB⊢
   rcases JB with h|h|h|h|h<;>simp[h]
  refine lZ (hq q hm) fun b1 b2 b3=>?_;have b2:h.get? q.1=none:=b2;refine⟨b1,?_,fun z=>?_⟩
  ·cases e1:C.h₀.get? q.1 with
   |none=>rfl
   |some o=>rw[F.keep _ _ e1] at b2;cases b2
  ·refine Hp F.ns fun oL U U hL U=>?_;rw[z,hL] at b2;cases b2
 ·exact(Heap.UpToSlots.of_keeps F.keep).trans ((show h.UpToSlots s.heap from up).trans p'.2)
 ·exact p'.2.ns ((show h.UpToSlots s.heap from up).ns F.ns)
noncomputable def iU(Q:mF):Fl->aM->bX->Prop
 |.ret v,_,s=>Q v s
 |.next,_,s=>Q .none s
 |.brk,_,_=>False
 |.cont,_,_=>False
theorem iP.room{D:Nat}{C:Cx}(ok:iP g D C):C.A.depth<recursionLimit:=v9 (x7 _ _) ok.dep
theorem Nb{X:nA}{args:List V}{kws:List (Str×V)}{Q:mF}{params:Arguments}{names others:List Str}{cY:List Value}
  (fn:Eh g f qual params body scope dV fW) (hn:(names++others).Nodup) (hlen:names.length=((args++kws.map (·.2))++jF).length) (Dv:∀ρ G,cZ ρ G jF cY)
  (hb:∀(vals eC:List Value),vals.length=args.length->eC.length=kws.length->∀s:Shared,g.K.In s.heap->∀name kV doc pm an ct,BindsTo s (fnOf name qual params body scope dV kV doc pm an fW ct) ⟨vals,(kws.map (·.1)).zip eC⟩ (names.zip ((vals++eC)++cY)))
  (Cm:∀x∈names,scope.names.lookup x=some .local)
  (h:∀(C':Cx),C'.cs=scope->C'.cl=[]->C'.cn=qual->C'.a=f->C'.Qf=fW->C'.A.handled=none->SW g D C' ρ (fun x U s=>X x s) body (iQ names ((args++kws.map (·.2))++jF) others) σ (iU Q)):
  Rf g D ρ X f args kws σ Q:=by
 refine .of fun C ok hh G fo m loc s Ds eC I Ul VY Qr Er q qe=>?_;obtain⟨vals,CV⟩:∃vals,vals=Ds++eC:=⟨_,rfl⟩;have uY:cZ ρ G (args++kws.map (·.2)) vals:=CV▸Ul.append VY;obtain⟨⟨ls,os,a,b,c,d⟩,F,nd⟩:=I;refine fn.lk _ fun oc od name kV doc pm an ct uI lk=>?_;have Fu:=uY.length;have hz:names.length=(vals++cY).length:=by
  rw[hlen,q6,q6 (as:=vals),Fu,(Dv ρ G).length]
 refine wpAny_call (code_def ok.below F ok.kB c ok.top ok.frames rfl ok.kind lk fn.cd ok.room (show BindsTo s (fnOf name qual params body scope dV kV doc pm an fW ct) ⟨Ds,(kws.map (·.1)).zip eC⟩ (names.zip (vals++cY)) from by rw[CV];exact hb Ds eC Ul.length (by rw[VY.length,t7]) s (ok.kB.keeps F.keep) name kV doc pm an ct) (fun y hy=>Cm _ ?_) (fun hp L' oV Fg F' N' B' X' T'=>?_) fn.co fn.gen fn.kd fn.cell)
 ·have:=List.mem_map_of_mem (f:=(·.1)) hy
  rwa [lU hz] at this
 ·have SS:names.Nodup:=(List.nodup_append.mp hn).1;have AN:∀p∈names.zip (vals++cY),(names.zip (vals++cY)).reverse.lookup p.1=some p.2:=fun p hp=>kU (by
   rw[List.map_reverse,lU hz];exact List.pairwise_reverse.mpr (SS.imp fun h=>h.symm)) (List.mem_reverse.mpr hp)
  have I':cN (oB C qual scope L' f fW hp) ρ G (os++fo) σ (fun y=>(names.zip (vals++cY)).reverse.lookup y) (iQ names ((args++kws.map (·.2))++jF) others) oV:=by
   refine⟨⟨ls,[],a,Ai (uY.append (Dv ρ G)) hlen AN,?_,?_⟩,F',?_⟩
   ·rw[List.nil_append,r7];exact N'
   ·rw[List.nil_append,r7];exact d
   ·rw[qV hlen];exact hn
  refine(h (oB C qual scope L' f fW hp) rfl rfl rfl rfl rfl hh).out (zW ok B' X' T' fn.kd) G (os++fo) _ _ I' _ _ (fun fl aG bS G' m' fv h' bH z1 z2 z3 z4=>?_) (fun x aG bS G' m' ev h' bH z1 z2 z3=>?_)
  ·obtain⟨⟨PR,vO,a',b',c',d'⟩,F2,Mb⟩:=z4;have sl:(PR++(os++(fo++G'))).Sublist (PR++(vO++((os++fo)++G'))):=(List.Sublist.refl _).append (by rw[r7 os fo G'];exact List.sublist_append_right vO _);have key:∀v val,Q v bS->VR ρ G' v val->LeaveK C.h₀ C.L m hp (fun r s'=>match r with|.ok (.ret v)=>Qr v s'|.ok _=>False|.error e=>Er e s') val (St s h' bH):=fun v val hq hv=>
    ⟨L',m',PR++(os++(fo++G')),F2,dU c' sl.subset,fun kF kN=>q v bS G' val h' bH hq z2 hv ⟨⟨PR,os,a',b.mono z2,kN,gP d' sl⟩,kF,nd⟩⟩
   induction z3 with
   |next=>exact key .none .none z1 .none
   |brk=>exact z1.elim
   |cont=>exact z1.elim
   |ret hv=>exact key _ _ z1 hv
  ·exact AM (s:=(St s h' bH)) (G:=G') ok.frames Fg (b.mono z2) nd z3 (fun RX IJ y=>qe x bS G' ev RX IJ z1 z2 y)
end
theorem xO{n:Str}{t:Tok}:Value.isStr (.str n t) n=true:=by simp[Value.isStr]
theorem xN{n name:Str}{t:Tok}(h:n≠name):Value.isStr (.str n t) name=false:=by simpa[Value.isStr] using h
theorem BI{e:DictEntry}{n:Str}{t:Tok}(hk:e.key=.str n t):(e::es).any (·.refKey)=es.any (·.refKey):=by
 rw[List.any_cons,show e.refKey=false from by simp[DictEntry.refKey,hk]];rfl
theorem Ad{e:DictEntry}{n name:Str}{t:Tok}(hk:e.key=.str n t)(hn:n≠name):getL name (e::es)=getL name es:=by
 unfold getL;rw[List.find?_cons,hk,xN hn,BI hk]
theorem Oi{e:DictEntry}{n:Str}{t:Tok}(hk:e.key=.str n t):getL n (e::es)=some (some e.val):=by
 unfold getL;rw[List.find?_cons,hk,xO]
theorem mM{name:Str}{vals:List Value}(h:fT es ns vals)(nd:ns.Nodup)(hm:(name,v)∈ns.zip vals):getL name es=some (some v):=by
 induction h with
 |nil=>cases hm
 |cons t hk r ih=>
  obtain⟨n1,n2⟩:=x6.mp nd
  rcases s8.mp hm with q|q
  ·cases q;exact Oi hk
  ·exact(Ad hk fun z=>n1 (z▸(List.of_mem_zip q).1)).trans (ih n2 q)
theorem jI{name:Str}{vals:List Value}(h:fT es ns vals)(hm:name∉ns):getL name es=some none:=by
 induction h with
 |nil=>rfl
 |cons t hk r ih=>exact(Ad hk fun z=>hm (z▸ .head _)).trans (ih fun z=>hm (.tail _ z))
structure tT(g:Gl)(C:Addr)(name:Str)(f:Addr):Prop where
 pg:plainGet g.K C name=true
 fi:findIn g.K (.ref C) name=some (some (.ref f))
 fn:isFn g.K (.ref f)=true
 kp:keepIn g.K (.ref f)=true
noncomputable def gC(sc:Sc):List V:=[.str "<unicode string>",.none,.int 0,.bool true,.str sc.buf,.int sc.ptr,.none,.none,.none,.int sc.index,.int sc.line,.int sc.col,.bool sc.done,.int sc.aH,.toks,.int sc.taken,.int sc.indent,.oW,.bool sc.allow]
theorem gQ:aJ.Nodup:=by decide+kernel
def wR(ρ:dN)(G:cE)(sc:Sc)(h:Heap):Prop:=∀Ω:Prop,(∀(es:List DictEntry) (n:Nat) (vals:List Value) (IA:InstAt h ρ.aS (instObj 1048 ρ.dS) 1048 (some (dictOf es n))) (hE:fT es aJ vals) (hV:cZ ρ G (Ax sc sc.dF) vals),Ω)->Ω
theorem wR.mk{sc:Sc}(es:List DictEntry)(n:Nat)(vals:List Value)(IA:InstAt h ρ.aS (instObj 1048 ρ.dS) 1048 (some (dictOf es n)))(hE:fT es aJ vals)(hV:cZ ρ G (Ax sc sc.dF) vals):wR ρ G sc h:=fun U φ=>φ es n vals IA hE hV
theorem cN.view{C:Cx}{sc:Sc}{loc:aM}(I:cN C ρ G fo (some sc) m loc h):wR ρ G sc h:=by
 obtain⟨ls,os,a,b,c,d⟩:=I.ex;refine a _ ?_;clear a
 rintro es n vals vT nT nI aK eK nK tI rfl hS hE hI hT hK hV
 have e:=hK.ea;subst e;exact(.mk es n vals (InstAt.of_news c (q7 _ (q7 _ (q7 _ hS))) (.head _)) hE hV)
def EL(o:Expr)(name:Str)(apos pos:Pos)(args:List Expr)(env:Env):Prop:=∃pl,eval (.Call (.Attribute o name apos) args [] pos) env=(do
   let ov←eval o env
   standAt apos.atName
   let (f,first)←holding [ov] (getMethod ov name pl)
   callWith pos f first (backTo pos (starEach args env)) [])
noncomputable def noStar:List Expr->Bool
 |[]=>true
 |e::r=>e.ctorIdx !=22&&noStar r
noncomputable def Jh(e:Expr):Bool:=e.ctorIdx !=16
noncomputable def WN(o:Expr)(apos pos:Pos)(args:List Expr):Option Nat:=bif Jh o&&(apos.endLine==pos.line&&(noStar args&&Nat.blt args.length 30)) then some 0 else none
def dJ(o:Expr)(name:Str)(apos pos:Pos)(args:List Expr)(env:Env):Prop:=∃n,WN o apos pos args=some n
def bA(pos:Pos)(args:List Expr)(env:Env):Prop:=noStar args=true
theorem Wd{r:List Expr}{env:Env}(h:(e.ctorIdx !=22)=true):starEach (e::r) env=(false,eval e env)::starEach r env:=by
 cases e<;>first|rfl|exact nomatch h
theorem vD:∀{args:List Expr} {env:Env},noStar args=true->starEach args env=args.map fun e=>(false,eval e env)
 |[],_,_=>rfl
 |e::r,env,h=>
  have h:=(q9 _ _).mp h
  (Wd h.1).trans (congrArg (_:: ·) (vD h.2))
theorem bA.eq{env:Env}(h:bA pos args env):backTo pos (starEach args env)=args.map fun e=>(false,eval e env):=by
 rw[vD h];unfold backTo;rw[List.map_map]
 rfl
theorem Im{name:Str}{env:Env}{m:Sem Value}(h:Jh o=true):attributeBase o name env m=m:=by
 cases o<;>first|rfl|exact nomatch h
theorem dJ.eq{o:Expr}{name:Str}{apos pos:Pos}{args:List Expr}{env:Env}(h:dJ o name apos pos args env):EL o name apos pos args env:=by
 obtain⟨n,h⟩:=h;unfold WN at h;cases e:(Jh o&&(apos.endLine==pos.line&&(noStar args&&Nat.blt args.length 30))) with
 |false=>rw[e] at h;cases h
 |true=>
 obtain⟨h1,e⟩:=(q9 _ _).mp e;obtain⟨h2,e⟩:=(q9 _ _).mp e;obtain⟨h3,h4⟩:=(q9 _ _).mp e;refine⟨do return (←importBound o env).getD true,?_⟩;have hs:=bA.eq (pos:=pos) (env:=env) h3;have GQ:(backTo pos (starEach args env)).all (!·.1)=true:=by
  rw[hs,List.all_map];exact u5.mpr fun U U=>rfl
 have hn:args.length+0+0<30:=Nat.le_of_ble_eq_true h4;have hf:methodCallForm (args.length+0) (backTo pos (starEach args env)) []=true:=by
  unfold methodCallForm;rw[GQ];exact u7 hn
 rw[arm_eval_Call,Im h1];unfold methodCall methodCallPos calleeOf;show(do
  let ov←eval o env
  standAt apos.atName
  let (f,first)←holding [ov] (if methodCallForm (args.length+0) (backTo pos (starEach args env)) [] then getMethod ov name (do return (←importBound o env).getD true) else do pure (←getAttr ov name true,[]))
  let Bx←(if !methodCallForm (args.length+0) (backTo pos (starEach args env)) []||apos.endLine==pos.line then pure pos else _)
  callWith Bx f first (backTo pos (starEach args env)) [])=_
 rw[hf,h2]
 rfl
section
variable{D:Nat}{C:Cx}{X:eZ}{loc:aM}
noncomputable def AW(g:Gl)(D:Nat)(C:Cx)(ρ:dN)(X:eZ):List Expr->aM->bX->(List V->aM->bX->Prop)->Prop
 |[],loc,σ,Q=>Q [] loc σ
 |e::r,loc,σ,Q=>EW g D C ρ X e loc σ (fun v l s=>AW g D C ρ X r l s (fun vs=>Q (v::vs)))
theorem iR{loc:aM}{Q:List V->aM->bX->Prop}(h:AW g D C ρ X args loc σ Q)(ok:iP g D C){G fo m s:_}(I:cN C ρ G fo σ m loc s.heap){t:List Value->Shared->Prop}
  (qe:Du C ρ G fo m s X Er)
  (k:∀vs aG bS G' vals h' bH,Q vs aG bS->Sub G G'->cZ ρ G' vs vals->cN C ρ G' fo bS m aG h'->
   Du C ρ G' fo m (St s h' bH) X Er->t vals (St s h' bH)):
  wpAny (model g.prog g.w) C.A (spliced (args.map fun e=>(false,eval e C.env))) t Er s:=by
 induction args generalizing loc σ Q G s t with
 |nil=>exact spliced_nil (k [] loc σ G [] s.heap s.toks h (.refl _) .nil I qe)
 |cons e r ih=>
  refine spliced_cons (bI h ok I qe fun v dA jA G1 val h1 fN z1 z2 z3 z4 lO=>?_);refine ih z1 (s:=(St s h1 fN)) z4 lO fun vs cT lF G2 vals h2 iC y1 y2 y3 y4 tO=>?_;exact k (v::vs) cT lF G2 (val::vals) h2 iC y1 (z2.trans y2) (.cons (z3.mono y2) y3) y4 tO
theorem gK{f:Value}{first:List Value}{Q:dQ}{E:dQ}{s:Shared}(hs:bA pos args C.env)(hk:keepIn g.K f=true)
  (h:wpAny (model g.prog g.w) C.A (spliced (args.map fun e=>(false,eval e C.env))) (fun vals gE=>g.K.In gE.heap/\wpAny (model g.prog g.w) C.A (call f (first++vals)) Q E gE) E s):
  wpAny (model g.prog g.w) C.A (callWith pos f first (backTo pos (starEach args C.env)) []) Q E s:=by
 have hs:=hs.eq;rw[hs];refine callWith_of (P:=g.K.In) ?_ (keeps_K hk) ?_
 ·induction args with
  |nil=>rfl
  |cons e r ih=>
   simp[List.any_map,Function.comp_def]
 ·induction args with
  |nil=>
   unfold evalArgs;show wpAny _ _ (spliced []>>=_) _ _ _;refine q8 (wpAny_mono h (fun vs gE z=>?_) fun U U z=>z);refine q8 (wpAny_pure ?_);refine wpAny_holding ?_;simp only[List.all_nil,if_true,List.map_nil,List.filterMap_nil];refine q8 (wpAny_evalAll_nil ?_);exact q8 (wpAny_pure (wpAny_pure z))
  |cons e r=>exact evalArgs_plain h
theorem uQ{D':Nat}{name:Str}(hh:C.A.handled=Option.none)(hm:tT g 1048 name f)(hn:name∉aJ)(hD:D'+1<=D)(he:dJ o name apos pos args C.env)(hs:bA pos args C.env)
  (h:EW g D C ρ X o loc σ (fun v l s=>v=.self/\s.isSome/\AW g D C ρ X args l s (fun vs l' s'=>FW g D' ρ (fun x s=>X x l' s) f (.self::vs) s' (fun r s2=>Q r l' s2)))):
  EW g D C ρ X (.Call (.Attribute o name apos) args [] pos) loc σ Q:=by
 refine .of fun ok G fo m s I Qr Er q qe=>?_;obtain⟨pl,he⟩:=he.eq;refine MethodCall_ (bI h ok I qe fun v dA jA G1 val h1 fN z1 z2 z3 z4 lO=>?_) he;obtain⟨rfl,xM,z⟩:=z1;induction z3.out
 obtain⟨sc,rfl⟩:=Option.isSome_iff_exists.mp xM;refine z4.view _ ?_
 rintro es n vals IA hE-
 refine method_inst (s:=(St s h1 fN)) z4.fr ok.kB IA hm.pg hm.fi hm.fn (jI hE hn) ?_;refine gK hs hm.kp ?_;refine iR z ok (s:=(St s h1 fN)) z4 lO fun vs cT lF G2 vals2 h2 iC y1 y2 y3 y4 tO=>?_;refine⟨ok.kB.keeps y4.fr.keep,?_⟩;exact y1.out C (ok.mono hD) hh G2 fo m cT (St s h2 iC) _ [] y4 (.cons .self y3) .nil Qr Er
  (fun v bS G' val h' bH w1 w2 w3 w4=>q v cT bS G' val h' bH w1 (fun p hp=>w2 p (y2 p (z2 p hp))) w3 w4)
  (fun x bS G' ev h' bH w1 w2 w3=>tO x cT bS G' ev h' bH w1 w2 w3)
end
noncomputable def Ar(K:Frag)(C:Addr):Bool:=findIn K (.ref C) "__getattribute__"==some (some (.builtin "BaseException.__getattribute__"))&&(findIn K (.ref C) "__getattr__"==some Option.none&&mroIn K C (.type "BaseException")==some true)
section
variable{prog:Program}{w:World}{A:Around}{E:dQ}{s:Shared}{K:Frag}{x C:Addr}{ox:Obj}{od:Option Obj}{name:Str}{expr:Bool}{Q:dQ}
theorem Zt(X:K.In s.heap)(I:InstAt s.heap x ox C od)(hb:mroIn K C (.type "BaseException")=some true)(hf:findObj K C od name=some (.value v)){tk:Tok}{R:Result->Shared->Prop}(h:R (.ok (.ret v)) s):
  codeAny (model prog w) A (.call (.builtin "BaseException.__getattribute__") ⟨[.ref x,.str name tk],[]⟩) R s:=by
 have L0:=I.type (M:=model prog w);have L1:=looks_find (M:=model prog w) X I hf;refine codeAny_call_builtin F.attr_Exception.ga.plain F.entry_bexc_ga ?_;have hk:builtinKind "BaseException.__getattribute__"=some .slot:=by decide+kernel
 have GZ:splitId "BaseException.__getattribute__"=some ("BaseException","__getattribute__"):=by decide+kernel
 have SD:=looks_mroIn (M:=model prog w) X hb;have ha:=F.args_bexc_ga (.ref x) (.str name tk);simp only[checkBuiltinCall,hk,GZ];refine q8 ?_;unfold isInstance;refine q8 (L0.here (SD.here ?_));obtain⟨hh,g,d,t,os⟩:=s;rw[if_neg (by decide)];unfold Builtin.«object.__getattribute__»
 repeat (first|(with_reducible refine L0.here ?_)|(with_reducible refine L1.here ?_)|wp_step)
 exact h
theorem Jb(X:K.In s.heap)(I:InstAt s.heap x ox C od)(hp:Ar K C=true)(hf:findObj K C od name=some (.value v))(hh:handedIn v=true)(h:Q v {s with toks:=s.toks+1}):wpAny (model prog w) A (getAttr (.ref x) name expr) Q E s:=by
 obtain⟨h1,hp⟩:=(q9 _ _).mp hp;obtain⟨h2,hp⟩:=(q9 _ _).mp hp;have L0:=I.type (M:=model prog w);have L1:=looks_findIn (M:=model prog w) X (beq_iff_eq.mp h1);have L2:=looks_findIn (M:=model prog w) X (beq_iff_eq.mp h2);obtain⟨ZC,g,d,t,os⟩:=s;unfold getAttr getAttrBy;refine q8 (wpAny_mkText (wpAny_holding (q8 (L0.at (q8 (L1.at ?_))))));dsimp only;rw[if_neg (by show¬(true&&(Value.builtin "BaseException.__getattribute__"==Value.builtin "object.__getattribute__"))=true;decide+kernel)];unfold getAttrByItsOwn hookBefore callGetattribute boundAndCalled;rw[if_pos (show onTheHeap (Value.ref C)=true from rfl)];refine q8 (L2.at (q8 (wpAny_attempt (wpAny_holding ?_))));rw[if_neg (by show¬(expr&&false)=true;rw[Bool.and_false];decide)];refine q8 (wpAny_of_eq (F.attr_Exception.ga.bind _) ?_);refine wpAny_call (Zt (s:=⟨ZC,g,d,t+1,os⟩) X I (beq_iff_eq.mp hp) hf ?_);dsimp only;rw[handedOut_of hh];exact wpAny_pure h
noncomputable def Jm(K:Frag)(C:Addr)(name:Str):Bool:=plainGet K C name||Ar K C
theorem oG{h₀:Heap}{L:Addr}{n:Nat}{attr:Option Value}(F:Fr h₀ L s.heap m)(KP:K.In h₀)(I:InstAt s.heap x ox C (some (dictOf es n)))(hg:Jm K C name=true)(hh:hasDictIn K C=true)
  (ha:findIn K (.ref C) name=some attr) (hn:noGet K attr=true) (hl:getL name es=some (some v)) (hv:handedIn v=true) (h:Q v {s with toks:=s.toks+1}):
  wpAny (model prog w) A (getAttr (.ref x) name expr) Q E s:=
 ((Bool.or_eq_true _ _).mp hg).elim (fun hg=>get_own F KP I hg hh ha hn hl hv h) fun hg=>Jb (KP.keeps F.keep) I hg (findObj_own hh ha hn hl) hv h
end
noncomputable def V.plain(v:V):Bool:=V.casesOn v true (fun U=>true) (fun U=>true) (fun U=>true) (fun U=>false) (fun U U U=>true) (fun U=>true) (fun U=>true) (fun U U U U=>false) true true true false
theorem VR.handed{v:V}{val:Value}(h:VR ρ G v val)(hp:v.plain=true):handedIn val=true:=by
 cases v with
 |glob _=>exact(Bool.false_ne_true hp).elim
 |Cr=>exact(Bool.false_ne_true hp).elim
 |_=>induction h.out<;>rfl
theorem cZ.zip{name:Str}{v:V}{vals:List Value}(x:cZ ρ G vs vals)(h:(name,v)∈ns.zip vs):∃val,(name,val)∈ns.zip vals/\VR ρ G v val:=by
 induction vs generalizing vals ns with
 |nil=>rw[List.zip_nil_right] at h;cases h
 |cons u vs ih=>
  induction ns with
  |nil=>cases h
  |cons n ns=>
   induction x.out with
   |cons a b=>
    rcases s8.mp h with q|q
    ·cases q;exact(fG _ (.head _) a)
    ·refine bQ (ih b q) fun val h1 h2=>?_;exact(fG val (.tail _ h1) h2)
theorem cZ.set{v:V}{val:Value}(hv:VR ρ G v val){vals:List Value}(i:Nat)(h:cZ ρ G vs vals):cZ ρ G (vs.set i v) (vals.set i val):=by
 induction vs generalizing vals i with
 |nil=>induction h.out;exact .nil
 |cons u vs ih=>
  induction h.out with
  |cons a b=>
   induction i with
   |zero=>exact .cons hv b
   |succ i=>exact .cons a (ih i b)
theorem fT.length{vals:List Value}(h:fT es ns vals):es.length=ns.length/\vals.length=ns.length:=by
 induction h with
 |nil=>exact⟨rfl,rfl⟩
 |cons _ _ _ ih=>exact⟨congrArg (· +1) ih.1,congrArg (· +1) ih.2⟩
theorem fT.put{hsh:Int}{key:Value}{name:Str}{vals:List Value}(h:fT es ns vals):∀{i:Nat},ns.Nodup->ns[i]?=some name->fT (putL name hsh key v es) ns (vals.set i v):=by
 induction h with
 |nil=>intro i _ hi;cases hi
 | @cons e es n ns vs t hk r ih=>
  intro i nd hi;unfold putL;rw[hk];induction i with
  |zero=>
   cases hi;rw[xO,if_pos rfl];exact .cons t rfl r
  |succ i=>
   have hi:=(List.getElem?_cons_succ).symm.trans hi;have hn:n≠name:=fun z=>(x6.mp nd).1 (z▸List.mem_of_getElem? hi);rw[xN hn,if_neg Bool.false_ne_true];exact .cons t hk (ih (x6.mp nd).2 hi)
structure iK(g:Gl)(C:Addr)(name:Str):Prop where
 pg:Jm g.K C name=true
 hd:hasDictIn g.K C=true
 fi:∃attr,findIn g.K (.ref C) name=some attr/\noGet g.K attr=true
structure qT(g:Gl)(C:Addr):Prop where
 fi:findIn g.K (.ref C) "__setattr__"=some (some (.builtin "object.__setattr__"))
 po:plainOver g.K C=true
 hd:hasDictIn g.K C=true
section
variable{D:Nat}{C:Cx}{X:eZ}{loc:aM}
theorem NZ(sc:Sc)(aK:Addr):Ax sc aK=gC sc++[V.glob (.ref aK)]:=rfl
theorem Hf{α β:Type}{p:α×β}{n:α}{b:β}{ns:List α}{vs:List β}(h:p∈ns.zip vs):p∈ns.zip (vs++[b]):=by
 induction vs generalizing ns with
 |nil=>rw[List.zip_nil_right] at h;cases h
 |cons v vs ih=>
  induction ns with
  |nil=>cases h
  |cons n ns=>
   exact s8.mpr ((s8.mp h).imp id ih)
theorem Mn{name:Str}{u:V}{i:Nat}(h:ns[i]?=some name)(h':vs[i]?=some u):(name,u)∈ns.zip vs:=by
 induction ns generalizing vs i with
 |nil=>cases h
 |cons n ns ih=>
  induction vs with
  |nil=>cases h'
  |cons v vs=>
   induction i with
   |zero=>cases h;cases h';exact .head _
   |succ i=>exact .tail _ (ih h h')
def Sb(ρ:dN)(G:cE)(name:Str)(u:V)(h:Heap):Prop:=∀Ω:Prop,(∀(es:List DictEntry) (n:Nat) (val:Value) (IA:InstAt h ρ.aS (instObj 1048 ρ.dS) 1048 (some (dictOf es n))) (hg:getL name es=some (some val)) (hv:VR ρ G u val),Ω)->Ω
theorem Sb.mk{name:Str}{u:V}(es:List DictEntry)(n:Nat)(val:Value)(IA:InstAt h ρ.aS (instObj 1048 ρ.dS) 1048 (some (dictOf es n)))(hg:getL name es=some (some val))(hv:VR ρ G u val):Sb ρ G name u h:=fun U φ=>φ es n val IA hg hv
theorem wR.fld{sc:Sc}{name:Str}{u:V}(w:wR ρ G sc h)(hu:(name,u)∈aJ.zip (Ax sc sc.dF)):Sb ρ G name u h:=by
 refine w _ fun es n vals IA hE hV=>?_;refine bQ (cZ.zip hV hu) fun val m1 m2=>?_;exact(.mk es n val IA (mM hE gQ m1) m2)
theorem Ef{name:Str}(hm:iK g 1048 name)
  (he:eval (.Attribute o name pos) C.env=(do
   let ov←eval o C.env
   standAt pos.atName
   let r←holding [ov] (getAttr ov name true)
   letTemporaryGo o ov r
   pure r))
  (h:EW g D C ρ X o loc σ (fun v l s=>v=.self/\∃sc u,s=some sc/\(name,u)∈aJ.zip (gC sc)/\u.plain=true/\Q u l s)):
  EW g D C ρ X (.Attribute o name pos) loc σ Q:=by
 refine .of fun ok G fo m s I Qr Er q qe=>?_;refine Attribute_any_ (bI h ok I qe fun v dA jA G1 val h1 fN z1 z2 z3 z4 lO=>?_) he;obtain⟨rfl,sc,u,rfl,hu,hp,z⟩:=z1;induction z3.out
 refine(z4.view.fld (Hf (n:=name) hu)) _ fun es n val IA hg hv=>?_;refine bQ hm.fi fun attr f1 f2=>?_;exact oG (s:=(St s h1 fN)) z4.fr ok.kB IA hm.pg hm.hd f1 f2 hg (hv.handed hp) (q u dA _ G1 val h1 _ z z2 hv z4)
theorem Ec(hm:iK g 1048 "possible_simple_keys")
  (he:eval (.Attribute o "possible_simple_keys" pos) C.env=(do
   let ov←eval o C.env
   standAt pos.atName
   let r←holding [ov] (getAttr ov "possible_simple_keys" true)
   letTemporaryGo o ov r
   pure r))
  (h:EW g D C ρ X o loc σ (fun v l s=>v=.self/\∃sc,s=some sc/\Q (.glob (.ref sc.dF)) l s)):
  EW g D C ρ X (.Attribute o "possible_simple_keys" pos) loc σ Q:=by
 refine .of fun ok G fo m s I Qr Er q qe=>?_;refine Attribute_any_ (bI h ok I qe fun v dA jA G1 val h1 fN z1 z2 z3 z4 lO=>?_) he;obtain⟨rfl,sc,rfl,z⟩:=z1;induction z3.out
 refine(z4.view.fld (name:="possible_simple_keys") (u:=.glob (.ref sc.dF)) (Mn (i:=19) rfl rfl)) _ fun es n val IA hg hv=>?_;refine bQ hm.fi fun attr f1 f2=>?_;induction hv.out
 exact oG (s:=(St s h1 fN)) z4.fr ok.kB IA hm.pg hm.hd f1 f2 hg rfl (q _ dA _ G1 _ h1 _ z z2 .glob z4)
theorem Hd{d:Addr}{o o':Obj}{r:cE}(n:(((d,o)::r).map (·.1)).Nodup):Upd d o o' ((d,o)::r) ((d,o')::r):=.head fun p hp z=>(x6.mp n).1 (z▸List.mem_map_of_mem (f:=(·.1)) hp)
theorem cN.Di{sc kD:Sc}{loc:aM}{s:Shared}{name:Str}{i:Nat}{v:V}{val:Value}{Q:Unit->Shared->Prop}{E:dQ}(ok:iP g D C)(so:qT g 1048)(tk:takerIn g.K 1048 name=some none)
  (I:cN C ρ G fo (some sc) m loc s.heap) (hv:VR ρ G v val) (hi:aJ[i]?=some name) (Ww:i<19) (e1:gC kD=(gC sc).set i v) (e2:kD.tokens=sc.tokens) (e3:kD.aO=sc.aO) (e4:kD.keys=sc.keys/\kD.dF=sc.dF/\kD.kM=sc.kM)
  (k:∀h' bH,cN C ρ G fo (some kD) m loc h'->Q () (St s h' bH)):wpAny (model g.prog g.w) C.A (setAttr (.ref ρ.aS) name val) Q E s:=by
 obtain⟨⟨ls,os,a,b,c,d⟩,F,nd⟩:=I;refine a _ ?_;clear a
 rintro es n vals vT nT nI aK eK nK tI rfl hS hE h5 h6 h7 hV
 have IA:InstAt s.heap ρ.aS (instObj 1048 ρ.dS) 1048 (some (dictOf es n)):=InstAt.of_news c (by simp[hS]) (by simp);have Hh:=fT.put (hsh:=PyData.keyHash g.w.params name) (key:=.str name (s.toks+1)) (v:=val) hE gQ hi;have MG:name∈aJ:=List.mem_of_getElem? hi;have gs:(getL name es).isSome=true:=by
  by_cases q:∃w,(name,w)∈aJ.zip vals
  ·obtain⟨w,hw⟩:=q;rw[mM hE gQ hw];rfl
  ·exfalso
   apply q
   have hl:=hE.length.2;have:i<vals.length:=by rw[hl];exact(List.getElem?_eq_some_iff.mp hi).1
   refine⟨vals[i],?_⟩;rw[List.mem_iff_getElem?];exact⟨i,by rw[List.getElem?_zip_eq_some];exact⟨hi,List.getElem?_eq_getElem this⟩⟩
 refine set_dict F ok.kB c IA rfl so.fi so.po tk so.hd gs rfl (Hd d) (by rw[Hh.length.1];decide+kernel) fun h' F' N'=>?_;refine k h' _ ⟨⟨(ρ.dS,dictOf (putL name (PyData.keyHash g.w.params name) (.str name (s.toks+1)) val es) (putN name es n))::[(ρ.aT,W.listOf vT.toArray nT),(ρ.aI,W.listOf tI.toArray nI),(aK,eK)],os,(.mk (putL name (PyData.keyHash g.w.params name) (.str name (s.toks+1)) val es) (putN name es n) (vals.set i val) vT nT nI aK eK nK tI rfl hS Hh (by rw[e3];exact h5) (by rw[e2];exact h6) (by rw[e4.1,e4.2.1,e4.2.2];exact h7) ?_),b,N',d⟩,F',nd⟩;have:=hV.set hv i;have e:((gC sc++[V.glob (.ref aK)]).set i v)=gC kD++[V.glob (.ref aK)]:=by
  rw[e1,List.set_append_left _ _ Ww]
 show cZ ρ G (gC kD++[V.glob (.ref aK)]) _;rw[←e];exact this
theorem oR{name:Str}{i:Nat}{Q:eM}(so:qT g 1048)(tk:takerIn g.K 1048 name=some none)(hs:swapsWith e (some (.Attribute o name p)) pos.line C.env=pure false)(hi:aJ[i]?=some name)(Ww:i<19)
  (h:EW g D C ρ X e loc σ (fun v l s=>EW g D C ρ X o l s (fun u l s=>u=.self/\∃sc kD,s=some sc/\gC kD=(gC sc).set i v/\kD.tokens=sc.tokens/\kD.aO=sc.aO/\(kD.keys=sc.keys/\kD.dF=sc.dF/\kD.kM=sc.kM)/\Q .next l (some kD)))):
  kA g D C ρ X (.Assign [.Attribute o name p] e pos) loc σ Q:=by
 refine .of fun ok G fo m s I Qr Er q qe=>?_;refine plainObj_wpAny_Assign_Attribute (jP h ok I (qe.at) fun a b aG bS G' av bv h' bH z1 z2 z3 z4 z5 U=>?_) hs;obtain⟨rfl,sc,kD,rfl,e1,e2,e3,e4,z⟩:=z1;induction z4.out
 exact cN.Di (s:=(St s h' bH)) ok so tk z5 z3 hi Ww e1 e2 e3 e4 fun h2 t2 I2=>q .next aG _ G' m .next h2 t2 z z2 .next I2
theorem wO{op:Operator}{name:Str}{i:Nat}{Q:eM}(ZL:op=.Add\/op=.Sub)(hm:iK g 1048 name)(so:qT g 1048)(tk:takerIn g.K 1048 name=some none)(hi:aJ[i]?=some name)(Ww:i<19)
  (h:EW g D C ρ X o loc σ (fun u l s=>u=.self/\∃sc a,s=some sc/\(name,V.int a)∈aJ.zip (gC sc)/\EW g D C ρ X e l s (fun v l' s'=>s'=s/\∃b kD,v=.int b/\gC kD=(gC sc).set i (.int (if op=.Add then a+b else a-b))/\kD.tokens=sc.tokens/\kD.aO=sc.aO/\(kD.keys=sc.keys/\kD.dF=sc.dF/\kD.kM=sc.kM)/\Q .next l' (some kD)))):
  kA g D C ρ X (.AugAssign (.Attribute o name p) op e pos) loc σ Q:=by
 refine .of fun ok G fo m s I Qr Er q qe=>?_;refine wpAny_AugAssign_AttributeAny (bI h ok I (qe.at) fun v dA jA G1 val h1 fN z1 z2 z3 z4 lO=>?_);obtain⟨rfl,sc,a,rfl,hu,z⟩:=z1;induction z3.out
 refine(z4.view.fld (Hf (n:=name) hu)) _ fun es n val IA hg hv=>?_;refine bQ hm.fi fun attr f1 f2=>?_;induction hv.out
 refine oG (s:=(St s h1 fN)) z4.fr ok.kB IA hm.pg hm.hd f1 f2 hg rfl ?_;refine bI z ok (s:=(St s h1 (fN+1))) z4 lO fun v cT lF G2 bv h2 iC y1 y2 y3 y4 tO=>?_;obtain⟨rfl,b,kD,rfl,e1,e2,e3,e4,y⟩:=y1;induction y3.out
 rcases ZL with rfl|rfl
 ·refine PyProof.Rows.iadd_int ?_;exact cN.Di (s:=(St s h2 (iC+1))) ok so tk y4 (.int (t:=iC)) hi Ww (by simpa using e1) e2 e3 e4 fun h3 t3 I3=>q .next cT _ G2 m .next h3 t3 y (z2.trans y2) .next I3
 ·refine PyProof.Rows.isub_int ?_;exact cN.Di (s:=(St s h2 (iC+1))) ok so tk y4 (.int (t:=iC)) hi Ww (by simpa using e1) e2 e3 e4 fun h3 t3 I3=>q .next cT _ G2 m .next h3 t3 y (z2.trans y2) .next I3
end
theorem qK.mono{ρ:dN}{G G':cE}(k:Sub G G'){es:List (Int×Value)}{r:List (Int×V)}(h:qK ρ G es r):qK ρ G' es r:=by
 induction h with
 |nil=>exact .nil
 |cons a _ ih=>exact .cons (a.mono k) ih
theorem Ro.mono{ρ:dN}{G G':cE}(k:Sub G G'){ka aK ko oK kvs ks:_}(h:Ro ρ G ka aK ko oK kvs ks):Ro ρ G' ka aK ko oK kvs ks:=⟨h.ea,h.eo,h.sm,h.dk,h.kv.mono k⟩
theorem Yk.mono{ρ:dN}{G G':cE}(k:Sub G G'){σ:bX}{ls:cE}(h:Yk ρ G σ ls):Yk ρ G' σ ls:=by
 induction σ with
 |none=>exact h
 |some sc=>
  refine h _ fun es n vals vT nT nI aK eK nK tI h1 h2 h3 h4 h5 h6 h7=>?_;exact(.mk es n vals vT nT nI aK eK nK tI h1 (k _ h2) h3 (h4.mono k) (h5.mono k) (h6.mono k) (h7.mono k))
theorem Ji{ad ls:cE}(h:((ad++(ls++(os++(fo++G)))).map (·.1)).Nodup):((ls++(os++(fo++(ad++G)))).map (·.1)).Nodup:=by
 refine(List.Perm.nodup_iff (List.Perm.map _ ?_)).mp h;have p:∀(x y z:cE),(x++(y++z)).Perm (y++(x++z)):=fun x y z=>by
  rw[←r7,←r7];exact List.perm_append_comm.append_right z
 exact(p ad ls _).trans ((List.Perm.refl ls).append ((p ad os _).trans ((List.Perm.refl os).append (p ad fo G))))
theorem cN.more{C:Cx}{ad ls:cE}{loc:aM}{h':Heap}(a:Yk ρ G σ ls)(b:cU ρ G m loc os)(nd:(loc.map (·.1)).Nodup)
  (N:News C.h₀ C.L h' (ad++(ls++(os++(fo++G))))) (d:((ad++(ls++(os++(fo++G)))).map (·.1)).Nodup) (F:Fr C.h₀ C.L h' m):cN C ρ (ad++G) fo σ m loc h':=by
 have k:∀p∈G,p∈ad++G:=fun p hp=>q7 _ hp;refine⟨⟨ls,os,a.mono k,b.mono k,dU N fun p hp=>?_,Ji d⟩,F,nd⟩
 rcases List.mem_append.mp hp with h|hp
 ·exact q7 _ (List.mem_append_left _ h)
 rcases List.mem_append.mp hp with h|hp
 ·exact q7 _ (q7 _ (List.mem_append_left _ h))
 rcases List.mem_append.mp hp with h|hp
 ·exact q7 _ (q7 _ (q7 _ (List.mem_append_left _ h)))
 rcases List.mem_append.mp hp with h|h
 ·exact List.mem_append_left _ h
 ·exact q7 _ (q7 _ (q7 _ (q7 _ h)))
theorem sW{a b:Addr}{oa ob:Obj}{l:cE}(n:(l.map (·.1)).Nodup)(hl:∀p∈l,p.1<b)(hb:b<a):((((a,oa)::(b,ob)::l)).map (·.1)).Nodup:=by
 simp only[List.map_cons,x6,s8,List.mem_map,not_or,not_exists,not_and];refine⟨⟨Nat.ne_of_gt hb,fun p hp e=>?_⟩,fun p hp e=>?_,n⟩
 ·have:p.1<b:=hl p hp;rw[e] at this;exact absurd (Nat.lt_trans this hb) (Nat.lt_irrefl _)
 ·have:p.1<b:=hl p hp;rw[e] at this;exact absurd this (Nat.lt_irrefl _)
theorem dP{a:Addr}{oa:Obj}{l:cE}(n:(l.map (·.1)).Nodup)(hl:∀p∈l,p.1<a):((((a,oa)::l)).map (·.1)).Nodup:=by
 simp only[List.map_cons,x6,List.mem_map,not_exists,not_and];refine⟨fun p hp e=>?_,n⟩;have:p.1<a:=hl p hp;rw[e] at this;exact absurd this (Nat.lt_irrefl _)
theorem fT.snoc{hsh:Int}{name:Str}{t:Tok}{vals:List Value}(h:fT es ns vals)(hm:name∉ns):fT (putL name hsh (.str name t) v es) (ns++[name]) (vals++[v]):=by
 induction h with
 |nil=>exact .cons t rfl .nil
 | @cons e es n ns vs u hk r ih=>
  have hn:n≠name:=fun z=>hm (z▸ .head _);unfold putL;rw[hk,xN hn,if_neg Bool.false_ne_true];exact .cons u hk (ih fun z=>hm (.tail _ z))
class inductive kG(self:Str):List Stmt->List (Str×Str)->Prop
 |nil:kG self [] []
 |cons{p1 p2 p3 p4 a n b l:_}:kG self b l->kG self (.Assign [.Attribute (.Name self p1) a p2] (.Name n p3) p4::b) ((a,n)::l)
structure UU(g:Gl)(f:Addr)(qual:Str)(params:Arguments)(body:List Stmt)(scope:Scope)(dV fW:Value):Prop extends Eh g f qual params body scope dV fW
theorem Vy{A A':Around}{h₀:Heap}{L:Addr}{C:Addr}{self:Str}(kB:g.K.In h₀)(so:qT g C)(hk:scope.kind=.function)(Uj:scope.names.lookup self=some .local)(TG:(self==("__debug__":Str))=false){x:Addr}(hx:m self=some (.ref x)){news:cE}
  (nd:((((x,instObj C dx)::(dx,dictOf [] 0)::news)).map (·.1)).Nodup)
  (I:kG self body l):∀{ns:List Str} {vals gW:List Value} {es:List DictEntry} {n:Nat} {s:Shared} {Q:Flow->Shared->Prop} {E:dQ},
   fT es ns vals->(∀a∈l.map (·.1),a∉ns)->(l.map (·.1)).Nodup->ns.length+l.length<=1000->(∀a∈l.map (·.1),takerIn g.K C a=some none)->(∀a∈l.map (·.2),scope.names.lookup a=some .local/\(a==("__debug__":Str))=false)->
   l.length=gW.length->(∀p∈(l.map (·.2)).zip gW,m p.1=some p.2)->
   Fr h₀ L s.heap m->News h₀ L s.heap ((x,instObj C dx)::(dx,dictOf es n)::news)->
   (∀yW n' h' bH,fT yW (ns++l.map (·.1)) (vals++gW)->Fr h₀ L h' m->News h₀ L h' ((x,instObj C dx)::(dx,dictOf yW n')::news)->Q .next (St s h' bH))->
   wpAny (model g.prog g.w) A' (execs body (envOf qual scope L f fW)) Q E s:=by
 induction I with
 |nil=>
  intro ns vals gW es n s Q E hE h1 h2 h3 h4 h5 h6 h7 F N k;induction gW with
  |cons _ _=>simp at h6
  |nil=>exact wpAny_execs_nil (k es n s.heap s.toks (by simpa using hE) F N)
 | @cons p1 p2 p3 p4 a nm b l hb ih=>
  intro ns vals gW es n s Q E hE h1 h2 h3 h4 h5 h6 h7 F N k;induction gW with
  |nil=>simp at h6
  |cons pv gW=>
   have ha:a∉ns:=h1 a (by simp);have lo:=h5 nm (by simp);have hv:m nm=some pv:=h7 (nm,pv) (by simp);refine wpAny_execs_cons (plainObj_wpAny_Assign_Attribute ?_ rfl);refine nameX_L (cl:=[]) F hv ?_ hk lo.1 lo.2;refine nameX_L (cl:=[]) F hx ?_ hk Uj TG;have IA:InstAt s.heap x (instObj C dx) C (some (dictOf es n)):=InstAt.of_news N (.head _) (.tail _ (.head _));have Hh:=fT.snoc (hsh:=PyData.keyHash g.w.params a) (v:=pv) (t:=s.toks+1) hE ha;have Mb:=nd;simp only[List.map_cons,x6,s8,not_or] at Mb;refine set_dict F kB N IA rfl so.fi so.po (h4 a (by simp)) so.hd (by rw[jI hE ha];rfl) rfl
    (.tail (fun z=>Mb.1.1 z) (.head fun p hp z=>Mb.2.1 (z▸List.mem_map_of_mem (f:=(·.1)) hp))) (by rw[Hh.length.1];simp only[q6,List.length_cons,List.length_nil] at h3⊢;exact v9 (x7 _ _) h3) fun h' F' N'=>?_
   refine ih (s:=(St s h' (s.toks+2))) Hh (fun b zA hm=>?_) (x6.mp h2).2 (by simp only[q6,List.length_cons,List.length_nil] at h3⊢;exact q5 (r9 (Nat.add_right_comm ..)) h3) (fun b zA=>h4 b (by simp only[List.map_cons,s8];exact .inr zA)) (fun b zA=>h5 b (by simp only[List.map_cons,s8];exact .inr zA)) (Nat.succ.inj h6) (fun p hp=>h7 p (by simp only[List.map_cons,List.zip_cons_cons,s8];exact .inr hp)) F' N' fun yW n' h2 t2 e2 F2 N2=>?_
   ·rcases List.mem_append.mp hm with q|q
    ·exact h1 b (by simp only[List.map_cons,s8];exact .inr zA) q
    ·rw[List.mem_singleton.mp q] at zA;exact(x6.mp h2).1 zA
   ·exact k yW n' h2 t2 (by simpa using e2) F2 N2
structure uO(g:Gl)(Cl fI:Addr)(qual:Str)(params:Arguments)(body:List Stmt)(scope:Scope)(dV fW:Value)(sf:Str)(l:List (Str×Str)):Prop where
 TS:makesIn g.K Cl=true
 MS:findIn g.K (.ref Cl) "__init__"=some (some (.ref fI))
 MT:isFn g.K (.ref fI)=true
 kp:keepIn g.K (.ref Cl)=true
 fn:Eh g fI qual params body scope dV fW
 so:qT g Cl
 init:kG sf body l
 tk:∀a∈l.map (·.1),takerIn g.K Cl a=some none
 loc:∀a∈sf::l.map (·.2),scope.names.lookup a=some .local/\(a==("__debug__":Str))=false
 JI:(l.map (·.1)).Nodup
 TU:(sf::l.map (·.2)).Nodup
 len:l.length<=1000
section
variable{D:Nat}{C:Cx}
theorem uA{params:Arguments}{sf:Str}(co:uO g Cl fI qual params body scope dV fW sf l)(ok:iP g (D+2) C)
  {loc:aM} {s:Shared} (I:cN C ρ G fo σ m loc s.heap) {vals hO:List Value} {kw:List (Str×Value)} {as:List V} (hv:cZ ρ G as hO) (hl:l.length=as.length)
  (hb:∀(x:Addr) (s:Shared),g.K.In s.heap->∀name kV doc pm an ct,BindsTo s (fnOf name qual params body scope dV kV doc pm an fW ct) ⟨.ref x::vals,kw⟩ ((sf::l.map (·.2)).zip (.ref x::hO)))
  {Qr:dQ} (k:∀G' val h' bH,Sub G G'->VR ρ G' (.inst Cl (l.map (·.1)) as) val->cN C ρ G' fo σ m loc h'->Qr val (St s h' bH)):
  wpAny (model g.prog g.w) C.A (call (.ref Cl) vals kw) Qr Er s:=by
 obtain⟨⟨ls,os,a,b,c,d⟩,F,nd⟩:=I;refine call_cls F ok.kB c co.TS co.MS co.MT fun x dx h' F' N' oH hx=>?_;refine co.fn.lk _ fun oc od name kV doc pm an ct uI lk=>?_;have Wu:l.length=hO.length:=by rw[hl,hv.length]
 have dd:=sW (oa:=instObj Cl dx) (ob:=dictOf [] 0) d oH hx;have dep:(C.A.under (.builtin "type.__call__" ⟨.ref Cl::vals,kw⟩)).depth<recursionLimit:=by
  have:=ok.dep;show C.A.depth+1<_;exact v9 (t9 (Nat.succ_le_succ (Nat.zero_le _)) _) this
 have MQ:(sf::l.map (·.2)).length=(Value.ref x::hO).length:=by simp[Wu]
 refine code_def (A:=C.A.under (.builtin "type.__call__" ⟨.ref Cl::vals,kw⟩)) ok.below F' ok.kB N' ok.top ok.frames rfl ok.kind lk co.fn.cd dep
  (hb x {s with heap:=h'} (ok.kB.keeps F'.keep) name kV doc pm an ct) (fun y hy=>(co.loc _ ?_).1) (fun hp L' oV Fg F2 N2 B2 X2 T2=>?_) co.fn.co co.fn.gen co.fn.kd co.fn.cell
 ·have:=List.mem_map_of_mem (f:=(·.1)) hy
  rwa [lU MQ] at this
 ·have AN:∀p∈(sf::l.map (·.2)).zip (Value.ref x::hO),((sf::l.map (·.2)).zip (Value.ref x::hO)).reverse.lookup p.1=some p.2:=fun p hp=>kU (by
   rw[List.map_reverse,lU MQ];exact List.pairwise_reverse.mpr (co.TU.imp fun h=>h.symm)) (List.mem_reverse.mpr hp)
  refine Vy (A:=C.A) (news:=ls++(os++(fo++G))) X2 co.so co.fn.kd (co.loc sf (.head _)).1 (co.loc sf (.head _)).2 (AN (sf,.ref x) (.head _)) dd co.init (ns:=[]) (vals:=[]) (gW:=hO) (es:=[]) (n:=0) .nil (fun U U h=>nomatch h) co.JI (by simpa using co.len) co.tk
   (fun a ha=>co.loc a (.tail _ ha)) Wu (fun p hp=>AN p (.tail _ hp)) F2 N2 fun yW n' h2 t2 e2 F3 N3=>?_
  refine⟨L',_,_,F3,N3,fun kF kN=>?_⟩;have d3:((((x,instObj Cl dx)::(dx,dictOf yW n')::(ls++(os++(fo++G))))).map (·.1)).Nodup:=by simpa using dd
  refine⟨rfl,k ((x,instObj Cl dx)::(dx,dictOf yW n')::G) (.ref x) h2 t2 (fun p hp=>.tail _ (.tail _ hp)) (.inst (.head _) (.tail _ (.head _)) (by simpa using e2) (hv.mono fun p hp=>.tail _ (.tail _ hp))) ?_⟩;exact cN.more (ad:=[(x,instObj Cl dx),(dx,dictOf yW n')]) a b nd kN d3 kF
variable{X:eZ}{loc:aM}
theorem cR{Q:_}(e:nsIn g.K mainGlobals x=some (some v))(hx:C.cs.names.lookup x=some .globalImplicit)(hd:(x==("__debug__":Str))=false)(h:Q (.glob v) loc σ):EW g D C ρ X (.Name x pos) loc σ Q:=by
 refine .of fun ok G fo m s I Qr Er q _=>?_;have t:=topRead_of ok.top;exact nameX_K I.fr ok.kB t e (q _ loc σ G v s.heap s.toks h (.refl _) .glob I) ok.kind hx hd
theorem EW.mk{params:Arguments}{sf:Str}{cY:List Value}
  (co:uO g Cl fI qual params body scope dV fW sf l) (hD:2<=D) (hs:bA pos args C.env) (Dv:∀ρ G,cZ ρ G jF cY) (hlen:l.length=args.length+jF.length)
  (hb:∀(vals:List Value),vals.length=args.length->∀(x:Addr) (s:Shared),g.K.In s.heap->∀name kV doc pm an ct,BindsTo s (fnOf name qual params body scope dV kV doc pm an fW ct) ⟨.ref x::vals,[]⟩ ((sf::l.map (·.2)).zip (.ref x::(vals++cY))))
  (h:EW g D C ρ X (.Name x np) loc σ (fun v l1 s=>v=.glob (.ref Cl)/\AW g D C ρ X args l1 s (fun vs l2 s=>vs.length=args.length/\Q (.inst Cl (l.map (·.1)) (vs++jF)) l2 s))):
  EW g D C ρ X (.Call (.Name x np) args [] pos) loc σ Q:=by
 refine .of fun ok G fo m s I Qr Er q qe=>?_;refine wpAny_Call_ofName (bI h ok I qe fun v dA jA G1 val h1 fN z1 z2 z3 z4 lO=>?_);obtain⟨rfl,z⟩:=z1;induction z3.out
 refine gK (first:=[]) hs co.kp ?_;refine iR z ok (s:=(St s h1 fN)) z4 lO fun vs cT lF G2 vals2 h2 iC y1 y2 y3 y4 tO=>?_;refine⟨ok.kB.keeps y4.fr.keep,?_⟩;have Fu:=y3.length;refine uA (D:=D-2) co (ok.mono (r9 (Nat.sub_add_cancel hD))) (s:=(St s h2 iC)) y4 (as:=vs++jF) (hO:=vals2++cY) (y3.append (Dv ρ G2)) (by rw[hlen,q6,y1.1]) (hb vals2 (by rw[Fu,y1.1])) fun G' val h' bH w1 w2 w3=>?_;exact q _ cT lF G' val h' bH y1.2 (fun p hp=>w1 p (y2 p (z2 p hp))) w2 w3
end
def KW(op:CmpOp)(i j:Int)(k:Bool->Prop):Prop:=
 CmpOp.casesOn op (k (i==j)) (k (i !=j)) (k (decide (i<j))) (k (decide (i<=j))) (k (decide (j<i))) (k (decide (j<=i))) False False False False
def KY(op:CmpOp)(x y:Str)(k:Bool->Prop):Prop:=
 CmpOp.casesOn op (k (x==y)) (k (x !=y)) False (k (!(y.cps.toList<x.cps.toList))) False False False False (k (Txt.contains y x)) (k (!Txt.contains y x))
noncomputable def V.isNone(v:V):Option Bool:=v.sel Option.none (some true) (fun U=>some false) (fun U=>some false) (fun U=>some false) (fun U=>Option.none) (fun U U U=>some false) (fun U=>some false) (fun U=>some false)
def FR(op:CmpOp)(a:V)(k:Bool->Prop):Prop:=
 Option.casesOn a.isNone False fun b=>CmpOp.casesOn op False False False False False False (k b) (k (!b)) False False
def sG(op:CmpOp)(a b:V)(k:Bool->Prop):Prop:=
 b.sel False (FR op a k) (i:=fun j=>a.sel False (i:=fun i=>KW op i j k)) (s:=fun y=>a.sel False (s:=fun x=>KY op x y k))
def Kd(v:V)(k:Bool->Prop):Prop:=
 v.sel False (k false) k (fun i=>k (i !=0)) (fun x=>x.length<=sizeLine/\k ((x.length:Int) !=0)) (l:=fun vs=>vs.length<=sizeLine/\k (!vs.isEmpty))
theorem kQ:(sizeLine:Int)<2 ^ 62:=by decide+kernel
section
variable{D:Nat}{C:Cx}{X:eZ}{loc:aM}
theorem sP{a:V}{b:Bool}(h:a.isNone=some b){av:Value}(ha:VR ρ G a av):(av==Value.none)=b:=by
 cases a<;>first|(cases h;induction ha.out<;>rfl)|cases h
theorem lW{a b:V}{k:Bool->Prop}(h:sG op a b k){s:Shared}{av bv:Value}(ha:VR ρ G a av)(hb:VR ρ G b bv){A:Around}{T:dQ}{E:dQ}
  (q:∀c tk,k c->T (.bool c) {s with toks:=tk}):wpAny (model g.prog g.w) A (compareOp op av bv) T E s:=by
 cases b with
 |int j=>
  cases a with
  |int i=>
   have h:KW op i j k:=h;induction ha.out;induction hb.out
   induction op with
   |Eq=>exact PyProof.Rows.eq_int (q _ s.toks h)
   |NotEq=>exact PyProof.Rows.ne_int (q _ s.toks h)
   |Lt=>exact PyProof.Rows.lt_int (q _ s.toks h)
   |LtE=>exact PyProof.Rows.le_int (q _ s.toks h)
   |Gt=>exact PyProof.Rows.gt_int (q _ s.toks h)
   |GtE=>exact PyProof.Rows.ge_int (q _ s.toks h)
   |Is=>exact h.elim
   |IsNot=>exact h.elim
   |In=>exact h.elim
   |NotIn=>exact h.elim
  |_=>exact h.elim
 |str y=>
  cases a with
  |str x=>
   have h:KY op x y k:=h;induction ha.out;induction hb.out
   induction op with
   |Eq=>exact PyProof.Rows.eq_str (q _ s.toks h)
   |NotEq=>exact PyProof.Rows.ne_str (q _ s.toks h)
   |LtE=>exact PySem.P.le_str (q _ s.toks h)
   |In=>exact PyProof.Rows.in_str (q _ s.toks h)
   |NotIn=>exact PyProof.Rows.notIn_str (q _ s.toks h)
   |Lt=>exact h.elim
   |Gt=>exact h.elim
   |GtE=>exact h.elim
   |Is=>exact h.elim
   |IsNot=>exact h.elim
  |_=>exact h.elim
 |none=>
  have h:FR op a k:=h;unfold FR at h;induction hb.out
  cases e:a.isNone with
  |none=>rw[e] at h;exact h.elim
  |some b=>
   rw[e] at h;have e:=sP e ha;induction op with
   |Is=>exact PyProof.Rows.is_none_gen (q _ s.toks (by rw[e];exact h))
   |IsNot=>exact PyProof.Rows.isnot_none_gen (q _ s.toks (by rw[e];exact h))
   |_=>exact h.elim
 |_=>exact h.elim
set_option tactic.hygienic true in
theorem pZ{v:V}{k:Bool->Prop}(h:Kd v k){s:Shared}{val:Value}(hv:VR ρ G v val)(I:cN C ρ G fo σ m loc s.heap){A:Around}{T:Bool->Shared->Prop}{E:dQ}
  (q:∀c tk,k c->T c {s with toks:=tk}):wpAny (model g.prog g.w) A (truthy val) T E s:=by
 have hs:=kQ;cases v with
 |none=>induction hv.out;exact PyProof.Rows.truthy_none (q _ s.toks h)
 |bool b=>induction hv.out;exact wpAny_truthy_bool (q _ s.toks h)
 |int i=>induction hv.out;exact PyProof.Rows.truthy_int (q _ s.toks h)
 |str x=>
  induction hv.out
  obtain⟨h1,h2⟩:=h;exact PySem.P.truthy_str (Int.not_le.mpr (Int.lt_trans (Int.lt_of_le_of_lt (Int.ofNat_le.mpr h1) hs) (by decide))) (q _ _ h2)
 |lst vs=>
  induction hv.out
  rename_i al vals n hm uY
  obtain⟨h1,h2⟩:=h;obtain⟨ls,os,a,b,c,d⟩:=I.ex;have hl:=uY.length;refine wpAny_truthy_list (items:=vals.toArray) ⟨W.listOf vals.toArray n,(c (al,W.listOf vals.toArray n) (by simp[hm])).1,rfl,⟨n,rfl⟩⟩ ?_ ?_
  ·rw[v8,hl];exact Int.lt_trans (Int.lt_of_le_of_lt (Int.ofNat_le.mpr h1) hs) (by decide)
  ·have e:(!vals.toArray.isEmpty)=(!vs.isEmpty):=by
    cases uY<;>rfl
   rw[e];exact q _ _ h2
 |_=>exact h.elim
def Xg(op:CmpOp)(Q:nX)(a b:V)(l:aM)(s:bX):Prop:=sG op a b (fun c=>Q c l s)
noncomputable def XI(Q:tU):Bool->aM->bX->Prop:=fun c=>Q (.bool c)
def Sh(Q:nX)(v:V)(l:aM)(s:bX):Prop:=Kd v (fun c=>Q c l s)
theorem oN{l r:Expr}(hm:behindInMarks op r=false)
  (h:EW g D C ρ X l loc σ (Kp g D C ρ X r (Xg op (XI Q)))):
  EW g D C ρ X (.Compare l [op] [r] pos) loc σ Q:=
 DR hm (h.mono fun a l1 s1 z=>z.mono fun b l2 s2 z G s av bv ha hb T E k=>lW z ha hb fun c tk hc=>k (.bool c) _ tk hc .bool)
theorem aL{l r:Expr}{Q:nX}(hm:behindInMarks op r=false)
  (h:EW g D C ρ X l loc σ (Kp g D C ρ X r (Xg op Q))):
  BW g D C ρ X (.Compare l [op] [r] pos) loc σ Q:=
 Qs hm (h.mono fun a l1 s1 z=>z.mono fun b l2 s2 z G s av bv ha hb T E k=>lW z ha hb fun c tk hc=>k c tk hc)
structure JP(g:Gl)(D:Nat)(C:Cx)(ρ:dN)(X:eZ)(r':Expr)(zF:CmpOp)(b:V)(Q:nX)(c:Bool)(l:aM)(s:bX):Prop where
 f:c=false->Q false l s
 t:c=true->EW g D C ρ X r' l s (Xg zF Q b)
theorem Xf{l r r':Expr}{zF:CmpOp}{Q:nX}(hm:behindInMarks zF r'=false)
  (h:EW g D C ρ X l loc σ (Kp g D C ρ X r (fun a b=>Xg op (JP g D C ρ X r' zF b Q) a b))):
  BW g D C ρ X (.Compare l [op,zF] [r,r'] pos) loc σ Q:=by
 refine .of fun ok G fo m s w I _ Qr Er q qe=>?_;have mk:markedEach [op,zF] [r,r'] (evalEach [r,r'] C.env)=[eval r C.env,eval r' C.env]:=by
  show[eval r C.env,markedBehindIn zF r' (eval r' C.env)]=_;rw[markedBehindIn_of_false hm]
 show wpAny _ _ (do testChain pos (←eval l C.env) [op,zF] (markedEach [op,zF] [r,r'] (evalEach [r,r'] C.env))) _ _ _;rw[mk];refine q8 (bI h ok I qe fun a dA jA G1 av h1 fN z1 z2 z3 z4 lO=>?_);show wpAny _ _ (do
  let rv←holding [av] (eval r C.env)
  standAt pos
  let c←holding [av,rv] (compareOp op av rv)
  release [av,rv] [c]
  if←holding [c,rv] (truthy c) then testChain pos rv [zF] [eval r' C.env] else pure false) _ _ _
 refine q8 (wpAny_holding (bI z1 ok (s:=(St s h1 fN)) z4 lO fun b cT lF G2 bv h2 iC y1 y2 y3 y4 tO=>?_));refine q8 (wpAny_standAt ?_);refine q8 (wpAny_holding (lW y1 (z3.mono y2) y3 fun c tk hc=>?_));refine q8 (wpAny_release ?_);refine q8 (wpAny_holding (wpAny_truthy_bool ?_));induction c with
 |false=>exact wpAny_pure (q false cT lF G2 h2 tk (hc.f rfl) (fun p hp=>y2 p (z2 p hp)) y4)
 |true=>
  show wpAny _ _ (do
   let rv←holding [bv] (eval r' C.env)
   standAt pos
   let c←operate [bv,rv] (compareOp zF bv rv)
   holding [c] (truthy c)) _ _ _
  refine q8 (wpAny_holding (bI (hc.t rfl) ok (s:=(St s h2 tk)) y4 tO fun d pR Mo G3 dv h3 Kb x1 x2 x3 x4 UO=>?_));refine q8 (wpAny_standAt ?_);refine q8 (wpAny_operating (lW x1 (y3.mono x2) x3 fun c tk hc=>?_));exact wpAny_holding (wpAny_truthy_bool (q c pR Mo G3 h3 tk hc (fun p hp=>x2 p (y2 p (z2 p hp))) x4))
theorem bZ{Q:nX}(he:∀fS,isTrue e C.env fS=(do let v←fS;standAt e.pos;holding [v] (truthy v)))
  (h:EW g D C ρ X e loc σ (Sh Q)):BW g D C ρ X e loc σ Q:=by
 refine .of fun ok G fo m s w I hw Qr Er q qe=>?_;subst hw;refine wpAny_isTrue_value (bI (e:=e) h ok I qe fun v aG bS G' val h' bH z1 z2 z3 z4 U=>?_) (he _);exact pZ z1 z3 (s:=(St s h' bH)) z4 fun c tk hc=>q c aG bS G' h' tk hc z2 z4
theorem wD{op:BoolOp}(h:EW g D C ρ X e loc σ Q):EW g D C ρ X (.BoolOp op [e] pos) loc σ Q:=.of h.out
structure Hm(g:Gl)(D:Nat)(C:Cx)(ρ:dN)(X:eZ)(op:BoolOp)(r:Expr)(Q:tU)(v:V)(l:aM)(s:bX)(b:Bool):Prop where
 o:b=(op==.Or)->Q v l s
 a:b=(op==.And)->EW g D C ρ X r l s Q
def DM(g:Gl)(D:Nat)(C:Cx)(ρ:dN)(X:eZ)(op:BoolOp)(r:Expr)(Q:tU)(v:V)(l:aM)(s:bX):Prop:=Kd v (Hm g D C ρ X op r Q v l s)
theorem mA{op:BoolOp}{e':Expr}{r:List Expr}
  (h:EW g D C ρ X e loc σ (DM g D C ρ X op (.BoolOp op (e'::r) pos) Q)):
  EW g D C ρ X (.BoolOp op (e::e'::r) pos) loc σ Q:=by
 refine .of fun ok G fo m s I Qr Er q qe=>?_;show wpAny _ _ (do
  let v←eval e C.env
  standAt pos
  let t←holding [v] (truthy v)
  match op,t with
  |.And,false|.Or,true=>pure v
  |_,_=>boolOp pos op (evalEach (e'::r) C.env)) _ _ _
 refine q8 (bI h ok I qe fun v dA jA G1 val h1 fN z1 z2 z3 z4 lO=>?_);refine q8 (wpAny_standAt ?_);refine q8 (wpAny_holding (pZ z1 z3 (s:=(St s h1 fN)) z4 fun c tk hc=>?_));have go:EW g D C ρ X (.BoolOp op (e'::r) pos) dA jA Q->wpAny (model g.prog g.w) C.A (boolOp pos op (evalEach (e'::r) C.env)) Qr Er (St s h1 tk):=fun H=>
  H.out ok G1 fo m (St s h1 tk) z4 Qr Er (q.step z2) lO
 have stop:Q v dA jA->Qr val (St s h1 tk):=fun H=>q v dA jA G1 val h1 tk H z2 z3 z4;induction op<;>induction c
 ·exact wpAny_pure (stop (hc.o rfl))
 ·exact go (hc.a rfl)
 ·exact go (hc.a rfl)
 ·exact wpAny_pure (stop (hc.o rfl))
theorem Hu(h:EW g D C ρ X e loc σ (Sh (fun b=>Q (.bool (!b))))):EW g D C ρ X (.UnaryOp .Not e pos) loc σ Q:=by
 refine .of fun ok G fo m s I Qr Er q qe=>?_;refine wpAny_UnaryOp (bI h ok I qe fun v dA jA G1 val h1 fN z1 z2 z3 z4 lO=>?_);refine wpAny_holding ?_;show wpAny _ _ (do return Value.bool (!(←truthy val))) _ _ _;exact q8 (pZ z1 z3 (s:=(St s h1 fN)) z4 fun c tk hc=>wpAny_pure (q _ dA jA G1 _ h1 tk hc z2 .bool z4))
structure ED(g:Gl)(D:Nat)(C:Cx)(ρ:dN)(X:eZ)(body orelse:Expr)(Q:tU)(b:Bool)(l:aM)(s:bX):Prop where
 t:b=true->EW g D C ρ X body l s Q
 f:b=false->EW g D C ρ X orelse l s Q
theorem mB{test body orelse:Expr}(h:BW g D C ρ X test loc σ (ED g D C ρ X body orelse Q)):EW g D C ρ X (.IfExp test body orelse pos) loc σ Q:=by
 refine .of fun ok G fo m s I Qr Er q qe=>?_;refine wpAny_IfExp (h.out ok G fo m s _ I rfl _ _ (fun b aG bS G' h' bH z1 z2 z3=>?_) qe);have go:∀e,EW g D C ρ X e aG bS Q->wpAny (model g.prog g.w) C.A (eval e C.env) Qr Er (St s h' bH):=fun e H=>
  H.out ok G' fo m (St s h' bH) z3 Qr Er (q.step z2) (qe.step z2)
 induction b with
 |true=>exact go _ (z1.t rfl)
 |false=>exact go _ (z1.f rfl)
theorem mC{value slice:Expr}
  (hs:∀x t i u,subscripted slice false (.str x t) (.int i u)=operate [.str x t,.int i u] (getItem (.str x t) (.int i u))) (ht:∀x t r,letTemporaryGo value (.str x t) r=pure ())
  (h:EW g D C ρ X value loc σ (fun a l s=>EW g D C ρ X slice l s (fun b l s=>∃(x:Str) (i:Int),a=.str x/\b=.int i/\fitsSsize i=true/\-(x.length:Int)<=i/\i<x.length/\Q (.str (Txt.item x i)) l s))):
  EW g D C ρ X (.Subscript value slice pos) loc σ Q:=by
 refine .of fun ok G fo m s I Qr Er q qe=>?_;refine Subscript_ (jP h ok I qe fun a b aG bS G' av bv h' bH z1 z2 z3 z4 z5 U=>?_);refine Mt z1 fun x i fE qR f1 f2 f3 z=>?_;subst fE qR;induction z3.out;induction z4.out
 exact item_str f1 f2 f3 (fun U=>q _ aG bS G' _ h' _ z z2 .str z5) (hs _ _ _ _) (ht _ _)
end
def Slot(C:Cx)(ρ:dN)(G fo:cE)(m:mZ)(h:Heap)(Dl:Addr)(vs:List V)(F:List V->aM->bX->Prop):Prop:=∀Ω:Prop,(∀(pre post:cE) (vals:List Value) (n:Nat) (N:News C.h₀ C.L h (pre++(Dl,W.listOf vals.toArray n)::post)) (fr:Fr C.h₀ C.L h m) (s1:∀p∈pre,p.1≠Dl) (s2:∀p∈post,p.1≠Dl) (hv:cZ ρ G vs vals) (hG:∀p∈G,p∈post) (z:∀h' Bc iB n' aG bS,cZ ρ G Bc iB->News C.h₀ C.L h' (pre++(Dl,W.listOf (iB:List Value).toArray n')::post)->Fr C.h₀ C.L h' m->F Bc aG bS->cN C ρ G fo bS m aG h'),Ω)->Ω
theorem Slot.mk{C:Cx}{F:List V->aM->bX->Prop}(pre post:cE)(vals:List Value)(n:Nat)(N:News C.h₀ C.L h (pre++(Dl,W.listOf vals.toArray n)::post))(fr:Fr C.h₀ C.L h m)(s1:∀p∈pre,p.1≠Dl)(s2:∀p∈post,p.1≠Dl)(hv:cZ ρ G vs vals)(hG:∀p∈G,p∈post)(z:∀h' Bc iB n' aG bS,cZ ρ G Bc iB->News C.h₀ C.L h' (pre++(Dl,W.listOf (iB:List Value).toArray n')::post)->Fr C.h₀ C.L h' m->F Bc aG bS->cN C ρ G fo bS m aG h'):Slot C ρ G fo m h Dl vs F:=fun U φ=>φ pre post vals n N fr s1 s2 hv hG z
theorem gH{pre post:cE}{o:Obj}(n:((pre++(Dl,o)::post).map (·.1)).Nodup):(∀p∈pre,p.1≠Dl)/\(∀p∈post,p.1≠Dl):=by
 rw[u6,List.map_cons] at n;refine lZ (List.nodup_append.mp n) fun U n2 n3=>?_;exact⟨fun p hp=>n3 _ (List.mem_map_of_mem (f:=(·.1)) hp) _ (.head _),fun p hp e=>(x6.mp n2).1 (e▸List.mem_map_of_mem (f:=(·.1)) hp)⟩
theorem lY{pre post:cE}{o o':Obj}(a:∀p∈pre,p.1≠Dl)(b:∀p∈post,p.1≠Dl):Upd Dl o o' (pre++(Dl,o)::post) (pre++(Dl,o')::post):=by
 induction pre with
 |nil=>exact .head b
 |cons p pre ih=>exact .tail (a p (.head _)) (ih fun q hq=>a q (.tail _ hq))
theorem iZ{pre post:cE}{o o':Obj}(n:((pre++(Dl,o)::post).map (·.1)).Nodup):((pre++(Dl,o')::post).map (·.1)).Nodup:=by
 rw[u6,List.map_cons] at n⊢;exact n
theorem cN.tD{C:Cx}{sc:Sc}{loc:aM}(I:cN C ρ G fo (some sc) m loc h):
  Slot C ρ G fo m h ρ.aT sc.tokens (fun vs l s=>l=loc/\s=some {sc with tokens:=vs}):=by
 obtain⟨⟨ls,os,a,b,c,d⟩,F,nd⟩:=I;refine a _ ?_;clear a
 rintro es n vals vT nT nI aK eK nK tI rfl hS hE h5 h6 h7 hV
 have c':News C.h₀ C.L h ([(ρ.dS,dictOf es n)]++(ρ.aT,W.listOf vT.toArray nT)::([(ρ.aI,W.listOf tI.toArray nI),(aK,eK)]++(os++(fo++G)))):=c;have d':(([(ρ.dS,dictOf es n)]++(ρ.aT,W.listOf vT.toArray nT)::([(ρ.aI,W.listOf tI.toArray nI),(aK,eK)]++(os++(fo++G)))).map (·.1)).Nodup:=d;obtain⟨s1,s2⟩:=gH d';refine(.mk _ _ vT nT c' F s1 s2 h6 (fun p hp=>by simp[hp]) (fun h' Bc iB n' aG bS q1 q2 q3 q4=>?_));obtain⟨rfl,rfl⟩:=q4;exact⟨⟨[(ρ.dS,dictOf es n),(ρ.aT,W.listOf iB.toArray n'),(ρ.aI,W.listOf tI.toArray nI),(aK,eK)],os,(.mk es n vals iB n' nI aK eK nK tI rfl hS hE h5 q1 h7 hV),b,q2,iZ d'⟩,q3,nd⟩
theorem cN.Gr{C:Cx}{sc:Sc}{loc:aM}(I:cN C ρ G fo (some sc) m loc h):
  Slot C ρ G fo m h ρ.aI (sc.aO.map V.int) (fun vs l s=>l=loc/\∃is,vs=is.map V.int/\s=some {sc with aO:=is}):=by
 obtain⟨⟨ls,os,a,b,c,d⟩,F,nd⟩:=I;refine a _ ?_;clear a
 rintro es n vals vT nT nI aK eK nK tI rfl hS hE h5 h6 h7 hV
 have c':News C.h₀ C.L h ([(ρ.dS,dictOf es n),(ρ.aT,W.listOf vT.toArray nT)]++(ρ.aI,W.listOf tI.toArray nI)::([(aK,eK)]++(os++(fo++G)))):=c;have d':(([(ρ.dS,dictOf es n),(ρ.aT,W.listOf vT.toArray nT)]++(ρ.aI,W.listOf tI.toArray nI)::([(aK,eK)]++(os++(fo++G)))).map (·.1)).Nodup:=d;obtain⟨s1,s2⟩:=gH d';refine(.mk _ _ tI nI c' F s1 s2 h5 (fun p hp=>by simp[hp]) (fun h' Bc iB n' aG bS q1 q2 q3 q4=>?_));obtain⟨rfl,is,rfl,rfl⟩:=q4;exact⟨⟨[(ρ.dS,dictOf es n),(ρ.aT,W.listOf vT.toArray nT),(ρ.aI,W.listOf iB.toArray n'),(aK,eK)],os,(.mk es n vals vT nT n' aK eK nK iB rfl hS hE q1 h6 h7 hV),b,q2,iZ d'⟩,q3,nd⟩
theorem cU.own{loc:aM}(h:cU ρ G m loc os)(hx:(x,LV.ml vs)∈loc)(nd:(loc.map (·.1)).Nodup):
  ∃vZ a vals n qX,os=vZ++(a,W.listOf (vals:List Value).toArray n)::qX/\m x=some (.ref a)/\cZ ρ G vs vals/\
   ∀Bc iB n' aG,dW x (.ml Bc) loc aG->cZ ρ G Bc iB->cU ρ G m aG (vZ++(a,W.listOf (iB:List Value).toArray n')::qX):=by
 refine(h.at hx nd) _ ?_
 rintro l1 l2 o1 o o2 rfl rfl h1 hv h2 n1 n2
 induction hv.out with
 |ml hm JE=>
  refine(oP o1 _ _ _ o2 rfl hm JE (fun Bc iB n' aG u ZS=>?_));rw[u.at n2 n1];exact h1.append (.ml hm ZS h2)
theorem cN.nJ{C:Cx}{loc:aM}(I:cN C ρ G fo σ m loc h)(hx:(x,LV.ml vs)∈loc):
  ∃a,m x=some (.ref a)/\Slot C ρ G fo m h a vs (fun Bc l s=>dW x (.ml Bc) loc l/\s=σ):=by
 obtain⟨⟨ls,os,a,b,c,d⟩,F,nd⟩:=I;refine Mu (b.own hx nd) fun vZ ad vals n qX fE e2 e3 e4=>?_;subst fE;refine(fG ad e2 ?_);have re:∀o:Obj,ls++((vZ++(ad,o)::qX)++(fo++G))=(ls++vZ)++(ad,o)::(qX++(fo++G)):=fun o=>by simp
 rw[re] at c d;obtain⟨s1,s2⟩:=gH d;refine(.mk _ _ vals n c F s1 s2 e3 (fun p hp=>by simp[hp]) (fun h' Bc iB n' aG bS q1 q2 q3 q4=>?_));obtain⟨u,rfl⟩:=q4;exact⟨⟨ls,vZ++(ad,W.listOf iB.toArray n')::qX,a,e4 Bc iB n' aG u q1,by rw[re];exact q2,by rw[re];exact iZ d⟩,q3,by rw[u.names];exact nd⟩
theorem cZ.split{vals:List Value}(h:cZ ρ G (vs++ws) vals):∃a b,vals=a++b/\cZ ρ G vs a/\cZ ρ G ws b:=by
 induction vs generalizing vals with
 |nil=>exact(Rk ([]) vals rfl .nil h)
 |cons v vs ih=>
  induction h.out with
  |cons x y=>
   refine Ms (ih y) fun a b e1 e2 e3=>?_;exact(Rk (_::a) b (by rw[e1];rfl) (.cons x e2) e3)
theorem cZ.take{vals:List Value}(k:Nat)(x:cZ ρ G vs vals):cZ ρ G (vs.take k) (vals.take k):=by
 induction vs generalizing vals k with
 |nil=>induction x.out;rw[List.take_nil,List.take_nil];exact .nil
 |cons v vs ih=>
  induction x.out with
  |cons a b=>
   induction k with
   |zero=>exact .nil
   |succ k=>exact .cons a (ih k b)
theorem cZ.drop{vals:List Value}(k:Nat)(x:cZ ρ G vs vals):cZ ρ G (vs.drop k) (vals.drop k):=by
 induction vs generalizing vals k with
 |nil=>induction x.out;rw[List.drop_nil,List.drop_nil];exact .nil
 |cons v vs ih=>
  induction k with
  |zero=>exact x
  |succ k=>induction x.out with|cons a b=>exact ih k b
section
variable{D:Nat}{C:Cx}{X:eZ}{loc:aM}{s:Shared}{F:List V->aM->bX->Prop}{A:Around}{Q:dQ}{E:dQ}
theorem Slot.append(S:Slot C ρ G fo m s.heap Dl vs F){v:V}{val:Value}(hv:VR ρ G v val)(iX:vs.length<=sizeLine)
  (k:∀h',(∀aG bS,F (vs++[v]) aG bS->cN C ρ G fo bS m aG h')->Q .none {s with heap:=h'}):wpAny (model g.prog g.w) A (call (.builtin "list.append") [.ref Dl,val]) Q E s:=by
 refine S _ fun pre post vals n N Fg a b e hG z=>?_;have e':=e.append (.cons hv .nil);refine append_K Fg N (lY a b) (fun h' F' N'=>k h' fun aG bS f=>z h' _ (vals++[val]) (n+1) aG bS e' ?_ F' f) (by rw[v8,e.length];exact iX);rw[List.push_toArray] at N';exact N'
theorem Slot.UJ(S:Slot C ρ G fo m s.heap Dl vs F){v:V}{r:List V}{t:Tok}(uY:vs=v::r)(iX:vs.length<=sizeLine)
  (k:∀h' val,VR ρ G v val->(∀aG bS,F r aG bS->cN C ρ G fo bS m aG h')->Q val {s with heap:=h'}):wpAny (model g.prog g.w) A (call (.builtin "list.pop") [.ref Dl,.int 0 t]) Q E s:=by
 refine S _ fun pre post vals n N Fg a b e hG z=>?_;subst uY;induction e.out with
 | @cons val vals h1 h2=>
  refine kl_popAt (k:=0) (p:=[]) (q:=vals) (y:=val) Fg N (by decide+kernel) ?_ rfl (lY a b) (by simpa[h2.length] using iX) fun h' F' N'=>k h' val h1 fun aG bS f=>z h' r vals (n+1) aG bS h2 N' F' f;rw[v8];simp[seqIndex?]
set_option tactic.hygienic true in
theorem Slot.pop(S:Slot C ρ G fo m s.heap Dl vs F){v:V}{r:List V}(uY:vs=r++[v])(iX:vs.length<=sizeLine)
  (k:∀h' val,VR ρ G v val->(∀aG bS,F r aG bS->cN C ρ G fo bS m aG h')->Q val {s with heap:=h'}):wpAny (model g.prog g.w) A (call (.builtin "list.pop") [.ref Dl]) Q E s:=by
 refine S _ fun pre post vals n N Fg a b e hG z=>?_;subst uY;have hl:=e.length;refine Ms e.split fun p q fE e1 e2=>?_;subst fE;induction e2.out with
 |cons h1 h2=>
  cases h2.out
  rename_i val
  have kl:∀p:List Value,kl_last (p++[val])=some (p,val):=by
   intro p;induction p with
   |nil=>rfl
   |cons x p ih=>show kl_last (x::(p++[val]))=_;unfold kl_last;rw[ih]
  refine kl_pop (p:=p) (y:=val) Fg N (kl p) (lY a b) (by show(p++[val]).length<=_;rw[hl];exact iX) fun h' F' N'=>k h' val h1 fun aG bS f=>z h' r p (n+1) aG bS e1 N' F' f
theorem Slot.insert(S:Slot C ρ G fo m s.heap Dl vs F){v:V}{val:Value}{i:Int}{t:Tok}(hv:VR ρ G v val)(hi:0<=i)(Wx:i.toNat<=vs.length)(iX:vs.length<=sizeLine)
  (k:∀h',(∀aG bS,F (vs.take i.toNat++v::vs.drop i.toNat) aG bS->cN C ρ G fo bS m aG h')->Q .none {s with heap:=h'}):wpAny (model g.prog g.w) A (call (.builtin "list.insert") [.ref Dl,.int i t,val]) Q E s:=by
 refine S _ fun pre post vals n N Fg a b e hG z=>?_;have hl:=e.length;have e':cZ ρ G (vs.take i.toNat++v::vs.drop i.toNat) (vals.take i.toNat++val::vals.drop i.toNat):=(e.take _).append (.cons hv (e.drop _));have hs:=kQ;refine kl_insert (l:=vals.take i.toNat++val::vals.drop i.toNat) Fg N ?_ ?_ (lY a b) (by rw[hl];exact iX) fun h' F' N'=>k h' fun aG bS f=>z h' _ _ (n+1) aG bS e' N' F' f
 ·have h1:i<2 ^ 62:=Int.lt_of_le_of_lt (Int.toNat_le.mp (q5 Wx iX)) hs;unfold Builtin.List.listFitsIndex
  simp
  exact⟨Int.le_trans (aR rfl) hi,Int.lt_trans h1 (aR rfl)⟩
 ·show kl_ins vals i val=_;unfold kl_ins;rw[if_neg (Int.not_lt.mpr hi),Nat.min_eq_left (q5 Wx (r9 hl.symm))]
set_option tactic.hygienic true in
theorem Slot.extend(S:Slot C ρ G fo m s.heap Dl vs F){us:List V}{val:Value}(hv:VR ρ G (.lst us) val)(iX:vs.length+us.length<=sizeLine)
  (k:∀h',(∀aG bS,F (vs++us) aG bS->cN C ρ G fo bS m aG h')->Q .none {s with heap:=h'}):wpAny (model g.prog g.w) A (call (.builtin "list.extend") [.ref Dl,val]) Q E s:=by
 refine S _ fun pre post vals n N Fg a b e hG z=>?_;induction hv.out with
 |lst hm hu=>
  rename_i bd mW n2
  refine extend_in (its2:=mW.toArray) (n2:=n2) Fg N a b (N _ (q7 _ (.tail _ (hG _ hm)))).1 (fun h' n' F' N'=>k h' fun aG bS f=>z h' _ (vals++mW) n' aG bS (e.append hu) N' F' f) (by rw[v8,e.length,hu.length];exact iX)
end
def aF(C:Cx)(x:Str):Prop:=(envX C.cn C.cs C.L C.a C.Qf C.cl).kindOf x=some .local/\(x==("__debug__":Str))=false
section
variable{D:Nat}{C:Cx}{X:eZ}{loc:aM}
theorem bY{v:V}{Q:_}(hx:aF C x)(hv:(x,LV.val v)∈loc)(h:Q v loc σ):EW g D C ρ X (.Name x pos) loc σ Q:=Xq hv h hx.1 hx.2
theorem jQ{id:String}{first:List Value}{Q:dQ}{E:dQ}{s:Shared}(hs:bA pos args C.env)
  (h:wpAny (model g.prog g.w) C.A (spliced (args.map fun e=>(false,eval e C.env))) (fun vals gE=>wpAny (model g.prog g.w) C.A (call (.builtin id) (first++vals)) Q E gE) E s):
  wpAny (model g.prog g.w) C.A (callWith pos (.builtin id) first (backTo pos (starEach args C.env)) []) Q E s:=by
 have hs:=hs.eq;rw[hs];refine callWith_of (P:=fun U=>True) ?_ (fun h U=>(fG .machine (.inr (.inl rfl)) (Looks.of_pure rfl))) ?_
 ·induction args with
  |nil=>rfl
  |cons e r ih=>simp[List.any_map,Function.comp_def]
 ·induction args with
  |nil=>
   unfold evalArgs;show wpAny _ _ (spliced []>>=_) _ _ _;refine q8 (wpAny_mono h (fun vs gE z=>?_) fun U U z=>z);refine q8 (wpAny_pure ?_);refine wpAny_holding ?_;simp only[List.all_nil,if_true,List.map_nil,List.filterMap_nil];refine q8 (wpAny_evalAll_nil ?_);exact q8 (wpAny_pure (wpAny_pure ⟨trivial,z⟩))
  |cons e r=>exact evalArgs_plain (wpAny_mono h (fun U U z=>⟨trivial,z⟩) fun U U z=>z)
theorem jU{name:Str}{id:String}{pl:Sem Bool}{its:Array Value}{n:Nat}{h₀:Heap}{L:Addr}{news:cE}{Q:dQ}{E:dQ}{s:Shared}
  (N:News h₀ L s.heap news) (hm:(Dl,W.listOf its n)∈news) (slot:PySem.Slot "list" name id) (HD:typeOf (.builtin id)=pure (.type "method_descriptor")) (hs:bA pos args C.env)
  (h:wpAny (model g.prog g.w) C.A (spliced (args.map fun e=>(false,eval e C.env))) (fun vals gE=>wpAny (model g.prog g.w) C.A (call (.builtin id) (.ref Dl::vals)) Q E gE) E s):
  wpAny (model g.prog g.w) C.A (getMethod (.ref Dl) name pl) (fun fx UR=>wpAny (model g.prog g.w) C.A (callWith pos fx.1 fx.2 (backTo pos (starEach args C.env)) []) Q E UR) E s:=
 kl_method N hm slot HD (jQ hs h)
theorem Slot.mem{F:List V->aM->bX->Prop}(S:Slot C ρ G fo m h Dl vs F):∃news its n,News C.h₀ C.L h news/\(Dl,W.listOf its n)∈news:=by
 refine S _ fun pre post vals n N U U U U U U=>?_;exact(EB _ _ n N (q7 _ (.head _)))
theorem rD{name:Str}{id:String}(slot:PySem.Slot "list" name id)(HD:typeOf (.builtin id)=pure (.type "method_descriptor"))(he:dJ o name apos pos args C.env)(hs:bA pos args C.env)
  (h:EW g D C ρ X o loc σ (fun v l s=>v=.toks/\s.isSome/\AW g D C ρ X args l s (fun vs l' s'=>∃sc,s'=some sc/\
   ∀(G fo:cE) (m:mZ) (gE:Shared) (vals:List Value),Slot C ρ G fo m gE.heap ρ.aT sc.tokens (fun vs l s=>l=l'/\s=some {sc with tokens:=vs})->cZ ρ G vs vals->∀(T E:dQ),
    (∀r val kD h',Q r l' (some kD)->VR ρ G r val->cN C ρ G fo (some kD) m l' h'->T val {gE with heap:=h'})->wpAny (model g.prog g.w) C.A (call (.builtin id) (.ref ρ.aT::vals)) T E gE))):
  EW g D C ρ X (.Call (.Attribute o name apos) args [] pos) loc σ Q:=by
 refine .of fun ok G fo m s I Qr Er q qe=>?_;obtain⟨pl,he⟩:=he.eq;refine MethodCall_ (bI h ok I qe fun v dA jA G1 val h1 fN z1 z2 z3 z4 lO=>?_) he;refine lZ z1 fun fE xM z=>?_;subst fE;induction z3.out
 obtain⟨sc,rfl⟩:=Option.isSome_iff_exists.mp xM;refine Hp z4.tD.mem fun news its n N hm=>?_;refine jU (s:=(St s h1 fN)) N hm slot HD hs ?_;refine iR z ok (s:=(St s h1 fN)) z4 lO fun vs cT lF G2 vals2 h2 iC y1 y2 y3 y4 tO=>?_;refine bQ y1 fun j5 fE y=>?_;subst fE;exact y G2 fo m (St s h2 iC) vals2 y4.tD y3 _ _ fun r val kD h' w1 w2 w3=>q r cT (some kD) G2 val h' iC w1 (z2.trans y2) w2 w3
theorem Bm(he:dJ o "append" apos pos [e] C.env)(hs:bA pos [e] C.env)
  (h:EW g D C ρ X o loc σ (fun v l s=>v=.toks/\s.isSome/\EW g D C ρ X e l s (fun v l' s'=>∃sc,s'=some sc/\sc.tokens.length<=sizeLine/\Q .none l' (some {sc with tokens:=sc.tokens++[v]})))):
  EW g D C ρ X (.Call (.Attribute o "append" apos) [e] [] pos) loc σ Q:=by
 refine rD PySem.F.slot_list_append PySem.F.type_list_append he hs (h.mono fun v l s z=>(fH z.1 z.2.1 (z.2.2.mono fun v l' s' z=>?_)));refine jM z ?_;try clear z;intro sc fE iX z;subst fE;refine⟨sc,rfl,fun G fo m gE vals S hv T E k=>?_⟩;induction hv.out with
 |cons h1 hn=>induction hn.out;exact S.append h1 iX fun h' F=>k .none .none _ h' z .none (F _ _ ⟨rfl,rfl⟩)
theorem Bn{ei:Expr}(he:dJ o "insert" apos pos [ei,e] C.env)(hs:bA pos [ei,e] C.env)
  (h:EW g D C ρ X o loc σ (fun v l s=>v=.toks/\s.isSome/\EW g D C ρ X ei l s (fun iv l s=>EW g D C ρ X e l s (fun v l' s'=>∃sc i,s'=some sc/\iv=.int i/\0<=i/\i.toNat<=sc.tokens.length/\sc.tokens.length<=sizeLine/\Q .none l' (some {sc with tokens:=sc.tokens.take i.toNat++v::sc.tokens.drop i.toNat}))))):
  EW g D C ρ X (.Call (.Attribute o "insert" apos) [ei,e] [] pos) loc σ Q:=by
 refine rD PySem.F.slot_list_insert PySem.F.type_list_insert he hs (h.mono fun v l s z=>(fH z.1 z.2.1 (z.2.2.mono fun iv l s z=>z.mono fun v l' s' z=>?_)));obtain⟨sc,i,rfl,rfl,h1,h2,iX,z⟩:=z;refine⟨sc,rfl,fun G fo m gE vals S hv T E k=>?_⟩;induction hv.out with
 |cons hi hw=>
  induction hi.out
  induction hw.out with
  |cons h3 hn=>induction hn.out;exact S.insert h3 h1 h2 iX fun h' F=>k .none .none _ h' z .none (F _ _ ⟨rfl,rfl⟩)
theorem Hw{ei:Expr}(he:dJ o "pop" apos pos [ei] C.env)(hs:bA pos [ei] C.env)
  (h:EW g D C ρ X o loc σ (fun v l s=>v=.toks/\s.isSome/\EW g D C ρ X ei l s (fun iv l' s'=>∃sc t r,s'=some sc/\iv=.int 0/\sc.tokens=t::r/\sc.tokens.length<=sizeLine/\Q t l' (some {sc with tokens:=r})))):
  EW g D C ρ X (.Call (.Attribute o "pop" apos) [ei] [] pos) loc σ Q:=by
 refine rD PySem.F.slot_list_pop PySem.F.type_list_pop he hs (h.mono fun v l s z=>(fH z.1 z.2.1 (z.2.2.mono fun iv l' s' z=>?_)));refine Xj z ?_;try clear z;intro sc t r fE qR ht iX z;subst fE qR;refine⟨sc,rfl,fun G fo m gE vals S hv T E k=>?_⟩;induction hv.out with
 |cons hi hn=>induction hn.out;induction hi.out;exact S.UJ ht iX fun h' val hv F=>k t val _ h' z hv (F _ _ ⟨rfl,rfl⟩)
theorem wF{name:Str}{id:String}(slot:PySem.Slot "list" name id)(HD:typeOf (.builtin id)=pure (.type "method_descriptor"))(he:dJ o name apos pos args C.env)(hs:bA pos args C.env)
  (h:EW g D C ρ X o loc σ (fun v l s=>v=.oW/\s.isSome/\AW g D C ρ X args l s (fun vs l' s'=>∃sc,s'=some sc/\
   ∀(G fo:cE) (m:mZ) (gE:Shared) (vals:List Value),Slot C ρ G fo m gE.heap ρ.aI (sc.aO.map V.int) (fun vs l s=>l=l'/\∃is,vs=is.map V.int/\s=some {sc with aO:=is})->cZ ρ G vs vals->∀(T E:dQ),
    (∀r val kD h',Q r l' (some kD)->VR ρ G r val->cN C ρ G fo (some kD) m l' h'->T val {gE with heap:=h'})->wpAny (model g.prog g.w) C.A (call (.builtin id) (.ref ρ.aI::vals)) T E gE))):
  EW g D C ρ X (.Call (.Attribute o name apos) args [] pos) loc σ Q:=by
 refine .of fun ok G fo m s I Qr Er q qe=>?_;obtain⟨pl,he⟩:=he.eq;refine MethodCall_ (bI h ok I qe fun v dA jA G1 val h1 fN z1 z2 z3 z4 lO=>?_) he;refine lZ z1 fun fE xM z=>?_;subst fE;induction z3.out
 obtain⟨sc,rfl⟩:=Option.isSome_iff_exists.mp xM;refine Hp z4.Gr.mem fun news its n N hm=>?_;refine jU (s:=(St s h1 fN)) N hm slot HD hs ?_;refine iR z ok (s:=(St s h1 fN)) z4 lO fun vs cT lF G2 vals2 h2 iC y1 y2 y3 y4 tO=>?_;refine bQ y1 fun j5 fE y=>?_;subst fE;exact y G2 fo m (St s h2 iC) vals2 y4.Gr y3 _ _ fun r val kD h' w1 w2 w3=>q r cT (some kD) G2 val h' iC w1 (z2.trans y2) w2 w3
theorem Bk(he:dJ o "append" apos pos [e] C.env)(hs:bA pos [e] C.env)
  (h:EW g D C ρ X o loc σ (fun v l s=>v=.oW/\s.isSome/\EW g D C ρ X e l s (fun v l' s'=>∃sc i,s'=some sc/\v=.int i/\sc.aO.length<=sizeLine/\Q .none l' (some {sc with aO:=sc.aO++[i]})))):
  EW g D C ρ X (.Call (.Attribute o "append" apos) [e] [] pos) loc σ Q:=by
 refine wF PySem.F.slot_list_append PySem.F.type_list_append he hs (h.mono fun v l s z=>(fH z.1 z.2.1 (z.2.2.mono fun v l' s' z=>?_)));refine Xh z ?_;try clear z;intro sc i fE qR iX z;subst fE qR;refine⟨sc,rfl,fun G fo m gE vals S hv T E k=>?_⟩;induction hv.out with
 |cons h1 hn=>induction hn.out;exact S.append h1 (by simpa using iX) fun h' F=>k .none .none _ h' z .none (F _ _ ⟨rfl,_,by simp,rfl⟩)
theorem My(he:dJ o "pop" apos pos [] C.env)(hs:bA pos [] C.env)
  (h:EW g D C ρ X o loc σ (fun v l s=>v=.oW/\∃sc i r,s=some sc/\sc.aO=r++[i]/\sc.aO.length<=sizeLine/\Q (.int i) l (some {sc with aO:=r}))):
  EW g D C ρ X (.Call (.Attribute o "pop" apos) [] [] pos) loc σ Q:=by
 refine wF PySem.F.slot_list_pop PySem.F.type_list_pop he hs (h.mono fun v l s z=>?_);obtain⟨rfl,sc,i,r,rfl,hr,iX,z⟩:=z;refine⟨rfl,rfl,sc,rfl,fun G fo m gE vals S hv T E k=>?_⟩;induction hv.out
 exact S.pop (v:=.int i) (r:=r.map V.int) (by rw[hr];simp) (by simpa using iX) fun h' val hv F=>k _ val _ h' z hv (F _ _ ⟨rfl,_,rfl,rfl⟩)
theorem wI{name:Str}{id:String}{He:List V}(hx:aF C x)(h0:(x,LV.ml He)∈loc)(slot:PySem.Slot "list" name id)(HD:typeOf (.builtin id)=pure (.type "method_descriptor"))
  (he:dJ (.Name x np) name apos pos args C.env) (hs:bA pos args C.env)
  (h:AW g D C ρ X args loc σ (fun vs l' s'=>∃ws,(x,LV.ml ws)∈l'/\
   ∀(G fo:cE) (m:mZ) (gE:Shared) (vals:List Value) (Dl:Addr),Slot C ρ G fo m gE.heap Dl ws (fun vs l s=>dW x (.ml vs) l' l/\s=s')->cZ ρ G vs vals->∀(T E:dQ),
    (∀r val l2 h',Q r l2 s'->VR ρ G r val->cN C ρ G fo s' m l2 h'->T val {gE with heap:=h'})->wpAny (model g.prog g.w) C.A (call (.builtin id) (.ref Dl::vals)) T E gE)):
  EW g D C ρ X (.Call (.Attribute (.Name x np) name apos) args [] pos) loc σ Q:=by
 refine .of fun ok G fo m s I Qr Er q qe=>?_;obtain⟨pl,he⟩:=he.eq;refine bQ (I.nJ h0) fun Dl PD S=>?_;refine Hp S.mem fun news its n N hm=>?_;refine MethodCall_ (nameX_L I.fr PD ?_ ok.kind hx.1 hx.2) he;refine jU N hm slot HD hs ?_;refine iR h ok I qe fun vs cT lF G2 vals2 h2 iC y1 y2 y3 y4 tO=>?_;refine bQ y1 fun ws y0 y=>?_;refine bQ (y4.nJ y0) fun D2 VJ S2=>?_;rw[PD] at VJ;cases VJ;exact y G2 fo m (St s h2 iC) vals2 Dl S2 y3 _ _ fun r val l2 h' w1 w2 w3=>q r l2 lF G2 val h' iC w1 y2 w2 w3
theorem cF{He:List V}(hx:aF C x)(h0:(x,LV.ml He)∈loc)(he:dJ (.Name x np) "append" apos pos [e] C.env)(hs:bA pos [e] C.env)
  (h:EW g D C ρ X e loc σ (fun v l s=>∃ws l',(x,LV.ml ws)∈l/\ws.length<=sizeLine/\dW x (.ml (ws++[v])) l l'/\Q .none l' s)):
  EW g D C ρ X (.Call (.Attribute (.Name x np) "append" apos) [e] [] pos) loc σ Q:=by
 refine wI hx h0 PySem.F.slot_list_append PySem.F.type_list_append he hs (EW.mono h fun v l s z=>?_);refine Xh z fun ws l' h1 iX u z=>?_;refine⟨ws,h1,fun G fo m gE vals Dl S hv T E k=>?_⟩;induction hv.out with
 |cons h1 hn=>induction hn.out;exact S.append h1 iX fun h' F=>k .none .none _ h' z .none (F _ _ ⟨u,rfl⟩)
theorem jO{He:List V}(hx:aF C x)(h0:(x,LV.ml He)∈loc)(he:dJ (.Name x np) "extend" apos pos [e] C.env)(hs:bA pos [e] C.env)
  (h:EW g D C ρ X e loc σ (fun v l s=>∃us ws l',v=.lst us/\(x,LV.ml ws)∈l/\ws.length+us.length<=sizeLine/\dW x (.ml (ws++us)) l l'/\Q .none l' s)):
  EW g D C ρ X (.Call (.Attribute (.Name x np) "extend" apos) [e] [] pos) loc σ Q:=by
 refine wI hx h0 PySem.F.slot_list_extend PySem.F.type_list_extend he hs (EW.mono h fun v l s z=>?_);refine Xj z ?_;try clear z;intro us ws l' fE h1 iX u z;subst fE;refine⟨ws,h1,fun G fo m gE vals Dl S hv T E k=>?_⟩;induction hv.out with
 |cons h1 hn=>induction hn.out;exact S.extend h1 iX fun h' F=>k .none .none _ h' z .none (F _ _ ⟨u,rfl⟩)
end
theorem cU.setM{vals:List Value}{a:Addr}{n:Nat}(hv:cZ ρ G vs vals){loc:aM}(u:dW x (.ml vs) loc aG)(h:cU ρ G m loc os)(nd:(loc.map (·.1)).Nodup):
  ∃vZ qX,cU ρ G (sU m x (.ref a)) aG (vZ++(a,W.listOf vals.toArray n)::qX)/\(vZ++qX).Sublist os:=by
 obtain⟨o1,o,o2,rfl,k⟩:=h.put (m':=sU m x (.ref a)) xW (.ml (n:=n) An hv) u nd;exact(Xy o1 o2 k ((List.Sublist.refl o1).append (List.sublist_append_right o o2)))
theorem cU.freeze{loc:aM}(h:cU ρ G m loc os)(hx:(x,LV.ml vs)∈loc)(u:dW x (.val (.lst vs)) loc aG)(nd:(loc.map (·.1)).Nodup):
  ∃vZ a vals n qX,os=vZ++(a,W.listOf (vals:List Value).toArray n)::qX/\m x=some (.ref a)/\cZ ρ G vs vals/\∀G',Sub G G'->(a,W.listOf (vals:List Value).toArray n)∈G'->cU ρ G' m aG (vZ++qX):=by
 refine(h.at hx nd) _ ?_
 rintro l1 l2 o1 o o2 rfl rfl h1 hv h2 n1 n2
 induction hv.out with
 |ml hm JE=>
  refine(oP o1 _ _ _ o2 rfl hm JE (fun G' k1 k2=>?_));rw[u.at n2 n1];exact(h1.mono k1).append (.val hm (.lst k2 (JE.mono k1)) (h2.mono k1))
theorem cN.freeze{C:Cx}{ρ:dN}{G fo:cE}{σ:bX}{m:mZ}{loc aG:aM}{h:Heap}{x:Str}{vs:List V}(I:cN C ρ G fo σ m loc h)(hx:(x,LV.ml vs)∈loc)(u:dW x (.val (.lst vs)) loc aG):
  ∃a p,m x=some (.ref a)/\VR ρ (p::G) (.lst vs) (.ref a)/\cN C ρ (p::G) fo σ m aG h:=by
 obtain⟨⟨ls,os,a,b,c,d⟩,F,nd⟩:=I;refine Mu (b.freeze hx u nd) fun vZ ad vals n qX fE e2 e3 e4=>?_;subst fE;have k:∀p∈G,p∈(ad,W.listOf vals.toArray n)::G:=fun p hp=>.tail _ hp;have pm:(ls++((vZ++(ad,W.listOf vals.toArray n)::qX)++(fo++G))).Perm (ls++((vZ++qX)++(fo++((ad,W.listOf vals.toArray n)::G)))):=by
  refine(List.Perm.refl ls).append ?_;rw[r7,r7,List.cons_append];refine(List.Perm.refl vZ).append ?_;rw[←r7 qX,←r7 qX];exact List.perm_middle.symm
 refine⟨ad,(ad,W.listOf vals.toArray n),e2,.lst (.head _) (e3.mono k),⟨ls,vZ++qX,a.mono k,e4 _ k (.head _),dU c fun p hp=>pm.symm.subset hp,?_⟩,F,by rw[u.names];exact nd⟩;exact(List.Perm.nodup_iff (pm.map _)).mp d
section
variable{D:Nat}{C:Cx}{X:eZ}{loc:aM}
theorem jC(hx:aF C x)(h0:(x,LV.ml ws)∈loc)(u:dW x (.val (.lst ws)) loc aG)(h:Q (.lst ws) aG σ):EW g D C ρ X (.Name x pos) loc σ Q:=by
 refine .of fun ok G fo m s I Qr Er q qe=>?_;refine Ms (I.freeze h0 u) fun a p hm hv I'=>?_;exact nameX_L I.fr hm (q _ aG σ _ _ s.heap s.toks h (fun p hp=>.tail _ hp) hv I') ok.kind hx.1 hx.2
theorem Qv{Q:nX}(hx:aF C x)(h0:(x,LV.ml ws)∈loc)(iX:ws.length<=sizeLine)(h:Q (!ws.isEmpty) loc σ):BW g D C ρ X (.Name x pos) loc σ Q:=by
 refine .of fun ok G fo m s w I hw Qr Er q qe=>?_;subst hw;obtain⟨a,hm,q_⟩:=I.nJ h0;refine q_ _ fun pre post vals n N F s1 s2 e hG z=>?_;have hs:=kQ;refine wpAny_isTrue_value (nameX_L I.fr hm ?_ ok.kind hx.1 hx.2) rfl;refine wpAny_truthy_list (items:=vals.toArray) ⟨_,(N _ (q7 _ (.head _))).1,rfl,⟨n,rfl⟩⟩ ?_ ?_
 ·rw[v8,e.length];exact Int.lt_trans (Int.lt_of_le_of_lt (Int.ofNat_le.mpr iX) hs) (aR rfl)
 ·have e:(!vals.toArray.isEmpty)=(!ws.isEmpty):=by cases e<;>rfl
  rw[e];exact q _ loc σ G s.heap _ h (.refl _) I
theorem Bg{Q:nX}(he:∀fS,isTrue e C.env fS=(do let v←fS;standAt e.pos;holding [v] (truthy v)))
  (h:EW g D C ρ X e loc σ (fun v l s=>v=.toks/\∃sc,s=some sc/\sc.tokens.length<=sizeLine/\Q (!sc.tokens.isEmpty) l s)):BW g D C ρ X e loc σ Q:=by
 refine .of fun ok G fo m s w I hw Qr Er q qe=>?_;subst hw;refine wpAny_isTrue_value (bI (e:=e) h ok I qe fun v aG bS G' val h' bH z1 z2 z3 z4 U=>?_) (he _);obtain⟨rfl,sc,rfl,iX,z⟩:=z1;induction z3.out
 refine z4.tD _ fun pre post vals n N F s1 s2 e hG zz=>?_;have hs:=kQ;refine wpAny_truthy_list (items:=vals.toArray) ⟨_,(N _ (q7 _ (.head _))).1,rfl,⟨n,rfl⟩⟩ ?_ ?_
 ·rw[v8,e.length];exact Int.lt_trans (Int.lt_of_le_of_lt (Int.ofNat_le.mpr iX) hs) (aR rfl)
 ·have e:(!vals.toArray.isEmpty)=(!sc.tokens.isEmpty):=by
   generalize sc.tokens=ts at e;cases e<;>rfl
  rw[e];exact q _ aG _ G' h' _ z z2 z4
theorem tZ(hs:bA pos args C.env){P:List (Bool×Sem Value)->Prop}(h:P (args.map fun e=>(false,eval e C.env))):P (backTo pos (starEach args C.env)):=by
 have hs:=hs.eq;rw[hs];exact h
theorem cO{lp:Pos}{Q:eM}(hx:aF C x)(hs:bA lp args C.env)
  (h:AW g D C ρ X args loc σ (fun vs l s=>vs.length<=sizeLine/\∃l',dW x (.ml vs) l l'/\Q .next l' s)):kA g D C ρ X (.Assign [.Name x p] (.List args lp) pos) loc σ Q:=by
 refine .of fun ok G fo m s I Qr Er q qe=>?_;refine wpAny_Assign_Name (List_ (tZ hs (P:=fun t=>wpAny _ _ (spliced t) _ _ _) (iR h ok I (qe.at) fun vs aG bS G' vals h' bH z1 z2 z3 z4 U=>?_))) rfl;obtain⟨iX,l',u,z⟩:=z1;obtain⟨⟨ls,os,a,b,c,d⟩,F,nd⟩:=z4;refine newList_K (s:=(St s h' bH)) F c (fun al h2 F2 N2 lt=>?_) (by rw[z3.length];exact iX);refine Mr (b.setM (a:=al) (n:=0) z3 u nd) fun vZ qX b' sb=>?_;refine wpAny_storeName_local hx.1 F2.ns (fun h3 hn MK=>?_) (by show(C.cs.kind==.class||(C.cs.kind==.module&&C.L !=mainGlobals))=false;rw[ok.kind];rfl);have N3:News C.h₀ C.L h3 ((al,W.listOf vals.toArray 0)::(ls++(os++(fo++G')))):=N2.set MK;have sub:(ls++((vZ++qX)++(fo++G'))).Sublist (ls++(os++(fo++G'))):=(List.Sublist.refl _).append (sb.append (.refl _));have pm:((al,W.listOf vals.toArray 0)::(ls++((vZ++qX)++(fo++G')))).Perm (ls++((vZ++(al,W.listOf vals.toArray 0)::qX)++(fo++G'))):=by
  refine List.perm_middle.symm.trans ((List.Perm.refl ls).append ?_);rw[r7,r7,List.cons_append];exact List.perm_middle.symm
 have dd:=dP (oa:=W.listOf vals.toArray 0) d lt;refine q .next l' bS G' _ .next h3 _ z z2 .next ⟨⟨ls,vZ++(al,W.listOf vals.toArray 0)::qX,a,b',?_,?_⟩,F2.set hn MK,by rw[u.names];exact nd⟩
 ·exact dU N3 fun p hp=>(List.Sublist.cons₂ _ sub).subset (pm.symm.subset hp)
 ·exact(List.Perm.nodup_iff (pm.map _)).mp (gP dd (List.Sublist.cons₂ _ sub))
theorem eW{elts:List Expr}{k:Nat}(hs:bA pos elts C.env)(h:AW g D C ρ X elts loc σ (fun vs l s=>vs.length<=sizeLine/\Q (.tup vs) l s)):EW g D C ρ X (.Tuple elts k pos) loc σ Q:=by
 refine .of fun ok G fo m s I Qr Er q qe=>?_;refine Tuple_ (tZ hs (P:=fun t=>wpAny _ _ (spliced t) _ _ _) (iR h ok I qe fun vs aG bS G' vals h' bH z1 z2 z3 z4 U=>?_));obtain⟨⟨ls,os,a,b,c,d⟩,F,nd⟩:=z4;refine newTuple_N (s:=(St s h' bH)) F c (fun h2 F2 N2=>?_) (by rw[z3.length];exact z1.1);have dd:=dP (oa:=rY vals) d (fun p hp=>Heap.lt_size (c p hp).1);have k1:∀p∈G',p∈[((h'.objs.size:Addr),rY vals)]++G':=fun p hp=>.tail _ hp;exact q _ aG bS ([((h'.objs.size:Addr),rY vals)]++G') _ h2 _ z1.2 (z2.trans k1) (.tup (.head _) (z3.mono k1)) (cN.more a b nd N2 dd F2)
theorem sF{elts:List Expr}(hs:bA pos elts C.env)(h:AW g D C ρ X elts loc σ (fun vs l s=>vs.length<=sizeLine/\Q (.lst vs) l s)):EW g D C ρ X (.List elts pos) loc σ Q:=by
 refine .of fun ok G fo m s I Qr Er q qe=>?_;refine List_ (tZ hs (P:=fun t=>wpAny _ _ (spliced t) _ _ _) (iR h ok I qe fun vs aG bS G' vals h' bH z1 z2 z3 z4 U=>?_));obtain⟨⟨ls,os,a,b,c,d⟩,F,nd⟩:=z4;refine newList_K (s:=(St s h' bH)) F c (fun al h2 F2 N2 lt=>?_) (by rw[z3.length];exact z1.1);have dd:=dP (oa:=W.listOf vals.toArray 0) d lt;have k1:∀p∈G',p∈[(al,W.listOf vals.toArray 0)]++G':=fun p hp=>.tail _ hp;exact q _ aG bS ([(al,W.listOf vals.toArray 0)]++G') _ h2 _ z1.2 (z2.trans k1) (.lst (.head _) (z3.mono k1)) (cN.more a b nd N2 dd F2)
set_option tactic.hygienic true in
theorem jD{name:Str}
  (he:eval (.Attribute o name pos) C.env=(do
   let ov←eval o C.env
   standAt pos.atName
   let r←holding [ov] (getAttr ov name true)
   letTemporaryGo o ov r
   pure r))
  (h:EW g D C ρ X o loc σ (fun v l s=>∃Cl ns vs u,v=.inst Cl ns vs/\iK g Cl name/\ns.Nodup/\(name,u)∈ns.zip vs/\u.plain=true/\Q u l s)):
  EW g D C ρ X (.Attribute o name pos) loc σ Q:=by
 refine .of fun ok G fo m s I Qr Er q qe=>?_;refine Attribute_any_ (bI h ok I qe fun v dA jA G1 val h1 fN z1 z2 z3 z4 lO=>?_) he;refine QH z1 fun Cl ns vs u fE hm Lp hu hp z=>?_;subst fE;induction z3.out with
 |inst h1 h2 h3 h4=>
  rename_i x dx es n vals
  obtain⟨ls,os,a,b,c,d⟩:=z4.ex;have IA:InstAt _ x (instObj Cl dx) Cl (some (dictOf es n)):=InstAt.of_news c (by simp[h1]) (by simp[h2]);refine bQ (cZ.zip h4 hu) fun val m1 m2=>?_;refine bQ hm.fi fun attr f1 f2=>?_;refine oG (s:=(St s _ fN)) z4.fr ok.kB IA hm.pg hm.hd f1 f2 (mM h3 Lp m1) (m2.handed hp) ?_;exact q u dA _ G1 val _ _ z z2 m2 z4
 |Ir h1 h2 h3 h4=>
  rename_i x dx es n vals ws sl
  obtain⟨ls,os,a,b,c,d⟩:=z4.ex;have IA:InstAt _ x ({cls:=.ref Cl,dict:=some dx,data:=.fields ws,slots:=sl}:Obj) Cl (some (dictOf es n)):=⟨(c (x,({cls:=.ref Cl,dict:=some dx,data:=.fields ws,slots:=sl}:Obj)) (by simp[h1])).1,rfl,rfl,(c (dx,dictOf es n) (by simp[h2])).1⟩;refine bQ (cZ.zip h4 hu) fun val m1 m2=>?_;refine bQ hm.fi fun attr f1 f2=>?_;refine oG (s:=(St s _ fN)) z4.fr ok.kB IA hm.pg hm.hd f1 f2 (mM h3 Lp m1) (m2.handed hp) ?_;exact q u dA _ G1 val _ _ z z2 m2 z4
set_option tactic.hygienic true in
theorem Hs{name:Str}
  (he:eval (.Attribute o name pos) C.env=(do
   let ov←eval o C.env
   standAt pos.atName
   let r←holding [ov] (getAttr ov name true)
   letTemporaryGo o ov r
   pure r))
  (h:EW g D C ρ X o loc σ (fun v l s=>∃Cl ns vs a t,v=.inst Cl ns vs/\plainGet g.K Cl name=true/\hasDictIn g.K Cl=true/\findIn g.K (.ref Cl) name=some (some (Value.str a t))/\specialIn g.K (Value.str a t) "__get__"=some Option.none/\copiedNames.contains name=false/\name∉ns/\Q (.str a) l s)):
  EW g D C ρ X (.Attribute o name pos) loc σ Q:=by
 refine .of fun ok G fo m s I Qr Er q qe=>?_;refine Attribute_any_ (bI h ok I qe fun v dA jA G1 val h1 fN z1 z2 z3 z4 lO=>?_) he;refine QJ z1 fun Cl ns vs a t fE f1 f2 f3 f4 f5 f6 z=>?_;subst fE;induction z3.out with
 |inst h1 h2 h3 h4=>
  rename_i x dx es n vals
  obtain⟨ls,os,a',b,c,d⟩:=z4.ex;have IA:InstAt _ x (instObj Cl dx) Cl (some (dictOf es n)):=InstAt.of_news c (by simp[h1]) (by simp[h2]);refine get_cls (s:=(St s _ fN)) z4.fr ok.kB IA f1 f2 f3 f4 rfl f5 (jI h3 f6) ?_;exact q _ dA _ G1 _ _ _ z z2 .str z4
 |Ir h1 h2 h3 h4=>
  rename_i x dx es n vals ws sl
  obtain⟨ls,os,a',b,c,d⟩:=z4.ex;have IA:InstAt _ x ({cls:=.ref Cl,dict:=some dx,data:=.fields ws,slots:=sl}:Obj) Cl (some (dictOf es n)):=⟨(c (x,({cls:=.ref Cl,dict:=some dx,data:=.fields ws,slots:=sl}:Obj)) (by simp[h1])).1,rfl,rfl,(c (dx,dictOf es n) (by simp[h2])).1⟩;refine get_cls (s:=(St s _ fN)) z4.fr ok.kB IA f1 f2 f3 f4 rfl f5 (jI h3 f6) ?_;exact q _ dA _ G1 _ _ _ z z2 .str z4
theorem Eg{value lo up:Expr}
  (hs:∀x t a,subscripted (.Slice (some lo) (some up) Option.none p) false (.str x t) (.ref a)=operate [.ref a,.str x t] (getItem (.str x t) (.ref a))) (ht:∀x t r,letTemporaryGo value (.str x t) r=pure ())
  (h:EW g D C ρ X value loc σ (fun a l s=>EW g D C ρ X lo l s (fun b l s=>EW g D C ρ X up l s (fun c l s=>∃(x:Str) (i j:Int),a=.str x/\b=.int i/\c=.int j/\x.length<=sizeLine/\Q (.str (Txt.slice x (some i) (some j))) l s)))):
  EW g D C ρ X (.Subscript value (.Slice (some lo) (some up) Option.none p) pos) loc σ Q:=by
 refine .of fun ok G fo m s I Qr Er q qe=>?_;refine Subscript_ (bI h ok I qe fun a dA jA G1 av h1 fN z1 z2 z3 z4 lO=>?_);refine wpAny_Slice ?_;refine bI z1 ok (s:=(St s h1 fN)) z4 lO fun b cT lF G2 bv h2 iC y1 y2 y3 y4 tO=>?_;refine bI y1 ok (s:=(St s h2 iC)) y4 tO fun c pR Mo G3 cv h3 Kb x1 x2 x3 x4 UO=>?_;refine evalPart_none_step ?_;refine Xj x1 fun x i j fE qR Hg iX w=>?_;subst fE qR Hg;induction z3.out;induction y3.out;induction x3.out
 obtain⟨⟨ls,os,a',b',c',d'⟩,F,nd⟩:=x4;refine slice_strN_ss (s:=(St s h3 Kb)) F c' (fun h' t' k F' N'=>?_) (hs _ _ _) (ht _ _) iX;exact q _ pR Mo G3 _ h' k w (fun p hp=>x2 p (y2 p (z2 p hp))) .str ⟨⟨ls,os,a',b',N',d'⟩,F',nd⟩
theorem Wj{ys:List Str}{vals:List Value}(h:cZ ρ G (ys.map V.str) vals):StrsAre vals ys:=by
 induction ys generalizing vals with
 |nil=>induction h.out;exact .nil
 |cons y ys ih=>induction h.out with|cons h1 h2=>induction h1.out;exact .cons _ _ (ih h2)
theorem Uo{sep:Str}{t:Tok}{ys:List Str}{F:List V->aM->bX->Prop}{s:Shared}(S:Slot C ρ G fo m s.heap Dl ws F)(hw:ws=ys.map V.str)(GY:sep.length<=16)(iX:(ys.map (·.length)).sum+ys.length<=1048576)
  {A:Around} {Q:dQ} {E:dQ} (q:∀t' k,Q (.str (Txt.join sep ys) t') {s with toks:=k}):wpAny (model g.prog g.w) A (call (.builtin "str.join") [.str sep t,.ref Dl]) Q E s:=by
 refine S _ fun pre post vals n N F s1 s2 e hG z=>?_;subst hw;exact join_listW (D:=Dl) (items:=vals.toArray) ⟨_,(N _ (q7 _ (.head _))).1,rfl,⟨n,rfl⟩⟩ (Wj e) GY iX q
theorem Ht{sep:Str}{k:Nat}{sp:Pos}{ys:List Str}(hx:aF C x)(h0:(x,LV.ml ws)∈loc)(hw:ws=ys.map V.str)(GY:sep.length<=16)(iX:(ys.map (·.length)).sum+ys.length<=1048576)
  (he:dJ (.Constant (.str sep) k sp) "join" apos pos [.Name x np] C.env) (hs:bA pos [.Name x np] C.env) (h:Q (.str (Txt.join sep ys)) loc σ):
  EW g D C ρ X (.Call (.Attribute (.Constant (.str sep) k sp) "join" apos) [.Name x np] [] pos) loc σ Q:=by
 refine .of fun ok G fo m s I Qr Er q qe=>?_;obtain⟨pl,he⟩:=he.eq;refine @MethodCall_ _ _ _ _ _ _ _ _ _ _ _ _ ?_ he;refine wpAny_Constant_str ?_;refine GM.join ?_;refine jQ hs ?_;refine bQ (I.nJ h0) fun a hm S=>?_;refine spliced_cons (nameX_L (s:={s with toks:=s.toks+1}) I.fr hm ?_ ok.kind hx.1 hx.2)
 refine spliced_nil ?_;exact Uo (s:={s with toks:=s.toks+1}) S hw GY iX fun t' k=>q _ loc σ G _ s.heap k h (.refl _) .str I
theorem pE{yp:Pos}{us:List V}(hx:aF C x)(hy:aF C y)(h0:(x,LV.ml ws)∈loc)(h1:(y,LV.ml us)∈loc)
  (he:dJ (.Name x np) "extend" apos pos [.Name y yp] C.env) (hs:bA pos [.Name y yp] C.env) (iX:ws.length+us.length<=sizeLine) (u:dW x (.ml (ws++us)) loc aG) (h:Q .none aG σ):
  EW g D C ρ X (.Call (.Attribute (.Name x np) "extend" apos) [.Name y yp] [] pos) loc σ Q:=by
 refine .of fun ok G fo m s I Qr Er q qe=>?_;obtain⟨pl,he⟩:=he.eq;refine bQ (I.nJ h0) fun Dl PD S=>?_;refine Hp S.mem fun news its n N hm=>?_;obtain⟨Dy,YJ,q_⟩:=I.nJ h1;refine q_ _ fun j2 WY mW ny Ny Fy U U ey U U=>?_;refine MethodCall_ (nameX_L I.fr PD ?_ ok.kind hx.1 hx.2) he;refine jU N hm PySem.F.slot_list_extend PySem.F.type_list_extend hs ?_;refine spliced_cons (nameX_L I.fr YJ ?_ ok.kind hy.1 hy.2);refine spliced_nil ?_;refine S _ fun pre post vals n N Fg a b e hG z=>?_;refine extend_in (its2:=mW.toArray) (n2:=ny) Fg N a b (Ny _ (q7 _ (.head _))).1 (fun h' n' F' N'=>?_) (by rw[v8,e.length,ey.length];exact iX);exact q _ aG σ G _ h' s.toks h (.refl _) .none (z h' _ (vals++mW) n' aG σ (e.append ey) N' F' ⟨u,rfl⟩)
theorem yV{sc:Sc}{s:Shared}(I:cN C ρ G fo (some sc) m loc s.heap)(iX:sc.tokens.length<=sizeLine){A:Around}{Q:dQ}{E:dQ}(h:∀t tk,Q (.int sc.tokens.length t) {s with toks:=tk}):
  wpAny (model g.prog g.w) A (call (.builtin "len") [.ref ρ.aT]) Q E s:=by
 refine I.tD _ fun pre post vals n N F s1 s2 e hG zz=>?_;have hs:=kQ;refine PyProof.Rows.len_list (items:=vals.toArray) ⟨_,(N _ (q7 _ (.head _))).1,rfl,⟨n,rfl⟩⟩ (by rw[v8,e.length];exact Int.lt_trans (Int.lt_of_le_of_lt (Int.ofNat_le.mpr iX) hs) (aR rfl)) ?_;rw[show((vals.toArray.size:Nat):Int)=sc.tokens.length from by rw[v8,e.length]];exact h _ _
end
section
variable{D:Nat}{C:Cx}{X:eZ}{loc:aM}
theorem Et.loops(ok:iP g D C){x:yO}{ev:Value}{s:Shared}{E:dQ}(y:Et C ρ G fo σ m loc x ev s.heap)
  (k:∀h' bH,Et C ρ G fo σ m loc x ev h'->E ev (St s h' bH)):notedBy M C.A C.env (fun e s'=>cameBackBy M C.A C.env E e s') ev s:=by
 obtain⟨⟨e,dx,a0,es,n,vals,ls,os,B,rfl,hd,he,hv,hs,Lo,hn,hB,hq,fl⟩,up,ns,Mb⟩:=y;refine jL (P:=Bp B (C.env::C.outer) e C.L (.ref x.cls) a0 s.heap) (mR _ _) hd (fun k=>xZ (L:=C.L) ok.frames rfl fl fun h' a b=>k h' ⟨a,b⟩) fun h1 p1 vN=>?_;refine jL (s:=St s h1 s.toks) (P:=Bp B (C.env::C.outer) e C.L (.ref x.cls) a0 h1) (Pg _ _) vN (fun k=>Nq (s:=St s h1 s.toks) p1.1 fun h' a b=>k h' ⟨a,b⟩) fun h2 p2 hd2=>?_;exact k h2 s.toks ⟨⟨e,dx,a0,es,n,vals,ls,os,B,rfl,hd2,he,hv,hs,Lo,hn,hB,hq,.inr (.inl p2.1)⟩,(up.trans p1.2).trans p2.2,p2.2.ns (p1.2.ns ns),Mb⟩
inductive KD(J:Nat->aM->bX->Prop)(n:Nat)(l:aM)(s:bX):Prop
 |mk(k:Nat)(hk:k<n)(h:J k l s)
noncomputable def Qe(J:Nat->aM->bX->Prop)(n:Nat)(Q:eM):Fl->aM->bX->Prop
 |.next,l,s=>KD J n l s
 |.cont,l,s=>KD J n l s
 |.brk,l,s=>Q .next l s
 |.ret v,l,s=>Q (.ret v) l s
structure CF(g:Gl)(D:Nat)(C:Cx)(ρ:dN)(X:eZ)(body:List Stmt)(J:Nat->aM->bX->Prop)(n:Nat)(Q:eM)(b:Bool)(l:aM)(s:bX):Prop where
 t:b=true->SW g D C ρ X body l s (Qe J n Q)
 f:b=false->Q .next l s
def RN(C:Cx)(ρ:dN)(G fo:cE)(s:Shared)(J:Nat->aM->bX->Prop)(n:Nat)(s':Shared):Prop:=∀Ω:Prop,(∀(aG:aM) (bS:bX) (G':cE) (m':mZ) (h':Heap) (bH:Tok) (hj:J n aG bS) (sub:Sub G G') (I:cN C ρ G' fo bS m' aG h') (e:s'=(St s h' bH)),Ω)->Ω
theorem RN.mk{C:Cx}{s:Shared}{J:Nat->aM->bX->Prop}{n:Nat}{s':Shared}(aG:aM)(bS:bX)(G':cE)(m':mZ)(h':Heap)(bH:Tok)(hj:J n aG bS)(sub:Sub G G')(I:cN C ρ G' fo bS m' aG h')(e:s'=(St s h' bH)):RN C ρ G fo s J n s':=fun U φ=>φ aG bS G' m' h' bH hj sub I e
theorem oA{test:Expr}{Q:eM}(J:Nat->aM->bX->Prop)(n:Nat)(h0:J n loc σ)
  (turn:∀n loc σ,J n loc σ->BW g D C ρ X test loc σ (CF g D C ρ X body J n Q)):
  kA g D C ρ X (.While test body [] pos) loc σ Q:=by
 refine .of fun ok G fo m s I Qr Er q qe=>?_;refine wpAny_While (codeAny_whileLoop (RN C ρ G fo s J) ?_ n (.mk loc σ G m s.heap s.toks h0 (fun U z=>z) I rfl))
 rintro n s' q_
 refine q_ _ ?_;clear q_
 rintro dA jA G1 m1 h1 fN hj Ka I1 rfl
 refine(turn n dA jA hj).out ok G1 fo m1 (St s h1 fN) _ I1 rfl _ _ (fun b cT lF G2 h2 iC z1 z2 z3=>?_) (fun x aG bS G' ev h' bH y1 y2 y3=>?_)
 ·induction b with
  |false=>
   refine wpAny_execs_nil ?_;exact q .next cT lF G2 m1 .next h2 iC (z1.f rfl) (Ka.trans z2) .next z3
  |true=>
   refine(z1.t rfl).out ok G2 fo m1 (St s h2 iC) z3 _ _ (fun f pR Mo G3 m3 fv h3 Kb w1 w2 w3 w4=>?_) (fun x aG bS G' m' ev h' bH y1 y2 y3=>?_)
   ·induction w3 with
    |next=>obtain⟨k,hk,Ft⟩:=w1;exact⟨k,hk,.mk pR Mo G3 m3 h3 Kb Ft (fun p hp=>w2 p (z2 p (Ka p hp))) w4 rfl⟩
    |cont=>obtain⟨k,hk,Ft⟩:=w1;exact⟨k,hk,.mk pR Mo G3 m3 h3 Kb Ft (fun p hp=>w2 p (z2 p (Ka p hp))) w4 rfl⟩
    |brk=>exact q .next pR Mo G3 m3 .next h3 Kb w1 (fun p hp=>w2 p (z2 p (Ka p hp))) .next w4
    |ret hv=>exact q (.ret _) pR Mo G3 m3 _ h3 Kb w1 (fun p hp=>w2 p (z2 p (Ka p hp))) (.ret hv) w4
   ·exact Et.loops (s:=(St s h' bH)) ok y3 fun h2 t2 y=>qe x aG bS G' m' ev h2 t2 y1 (fun p hp=>y2 p (z2 p (Ka p hp))) y
 ·exact Et.loops (s:=(St s h' bH)) ok y3 fun h2 t2 y=>qe x aG bS G' m1 ev h2 t2 y1 (Ka.trans y2) y
end
def Yc(o:Expr)(name:Str)(apos pos:Pos)(args:List Expr)(kws:List Keyword)(env:Env):Prop:=∃pl,eval (.Call (.Attribute o name apos) args kws pos) env=(do
   let ov←eval o env
   standAt apos.atName
   let (f,first)←holding [ov] (getMethod ov name pl)
   callWith pos f first (backTo pos (starEach args env)) (backToKw pos (keywordEach kws env)))
section
variable{D:Nat}{C:Cx}{X:eZ}{loc:aM}
theorem sA{D':Nat}{name vA:Str}{kp:Pos}(hh:C.A.handled=Option.none)(hm:tT g 1048 name f)(hn:name∉aJ)(hD:D'+1<=D)(he:Yc o name apos pos [] [⟨some vA,e,kp⟩] C.env)
  (h:EW g D C ρ X o loc σ (fun v l s=>v=.self/\s.isSome/\EW g D C ρ X e l s (fun u l' s'=>Rf g D' ρ (fun x s=>X x l' s) f [.self] [(vA,u)] s' (fun r s2=>Q r l' s2)))):
  EW g D C ρ X (.Call (.Attribute o name apos) [] [⟨some vA,e,kp⟩] pos) loc σ Q:=by
 refine .of fun ok G fo m s I Qr Er q qe=>?_;obtain⟨pl,he⟩:=he;refine methodCall_KW (bI h ok I qe fun v dA jA G1 val h1 fN z1 z2 z3 z4 lO=>?_) he;obtain⟨rfl,xM,z⟩:=z1;induction z3.out
 obtain⟨sc,rfl⟩:=Option.isSome_iff_exists.mp xM;refine z4.view _ ?_
 rintro es n vals IA hE-
 refine method_inst (s:=(St s h1 fN)) z4.fr ok.kB IA hm.pg hm.fi hm.fn (jI hE hn) ?_;refine callWith_KW0 ok.kB hm.kp rfl ?_;refine kwAll_cons (bI z ok (s:=(St s h1 fN)) z4 lO fun u cT lF G2 Dr h2 iC y1 y2 y3 y4 tO=>?_);refine kwAll_nil ?_;refine⟨ok.kB.keeps y4.fr.keep,?_⟩;exact y1.out C (ok.mono hD) hh G2 fo m cT (St s h2 iC) [.ref ρ.aS] [Dr] y4 (.cons .self .nil) (.cons y3 .nil) Qr Er
  (fun v bS G' val h' bH w1 w2 w3 w4=>q v cT bS G' val h' bH w1 (fun p hp=>w2 p (y2 p (z2 p hp))) w3 w4)
  (fun x bS G' ev h' bH w1 w2 w3=>tO x cT bS G' ev h' bH w1 w2 w3)
structure Ki(g:Gl)(f:Addr):Prop where
 kp:keepIn g.K (.ref f)=true
theorem gY{D':Nat}(hh:C.A.handled=Option.none)(df:Ki g f)(hD:D'+1<=D)(hs:bA pos args C.env)
  (h:EW g D C ρ X (.Name x np) loc σ (fun v l s=>v=.glob (.ref f)/\AW g D C ρ X args l s (fun vs l' s'=>FW g D' ρ (fun x s=>X x l' s) f vs s' (fun r s2=>Q r l' s2)))):
  EW g D C ρ X (.Call (.Name x np) args [] pos) loc σ Q:=by
 refine .of fun ok G fo m s I Qr Er q qe=>?_;refine wpAny_Call_ofName (bI h ok I qe fun v dA jA G1 val h1 fN z1 z2 z3 z4 lO=>?_);obtain⟨rfl,z⟩:=z1;induction z3.out
 refine gK (first:=[]) hs df.kp ?_;refine iR z ok (s:=(St s h1 fN)) z4 lO fun vs cT lF G2 vals2 h2 iC y1 y2 y3 y4 tO=>?_;refine⟨ok.kB.keeps y4.fr.keep,?_⟩;exact y1.out C (ok.mono hD) hh G2 fo m cT (St s h2 iC) _ [] y4 y3 .nil Qr Er
  (fun v bS G' val h' bH w1 w2 w3 w4=>q v cT bS G' val h' bH w1 (fun p hp=>w2 p (y2 p (z2 p hp))) w3 w4)
  (fun x bS G' ev h' bH w1 w2 w3=>tO x cT bS G' ev h' bH w1 w2 w3)
end
noncomputable def sQ(ks:List (Int×V))(k:Int):Option V:=(ks.find? fun kv=>decide (kv.1=k)).map (·.2)
noncomputable def Oq(ks:List (Int×V))(k:Int):List (Int×V):=ks.filter fun kv=>decide (kv.1≠k)
noncomputable def Ou(ks:List (Int×V))(k:Int)(v:V):List (Int×V):=if ks.any (fun kv=>decide (kv.1=k)) then ks.map (fun kv=>if kv.1=k then(kv.1,v) else kv) else ks++[(k,v)]
theorem qK.get{k:Int}{ks:List (Int×V)}(h:qK ρ G kvs ks):(sQ ks k=none/\valueAt kvs k=none)\/∃v val,sQ ks k=some v/\valueAt kvs k=some val/\VR ρ G v val:=by
 unfold sQ valueAt;induction h with
 |nil=>exact .inl ⟨rfl,rfl⟩
 | @cons j w v es r hv _ ih=>
  rw[List.find?_cons,List.find?_cons];cases decide (j=k) with
  |true=>exact .inr (Rk v w rfl rfl hv)
  |false=>exact ih
theorem qK.del{k:Int}{ks:List (Int×V)}(h:qK ρ G kvs ks):qK ρ G (without kvs k) (Oq ks k):=by
 unfold without Oq
 induction h with
 |nil=>exact .nil
 | @cons j w v es r hv _ ih=>
  rw[List.filter_cons,List.filter_cons]
  split
  ·exact .cons hv ih
  ·exact ih
theorem qK.any{k:Int}{ks:List (Int×V)}(h:qK ρ G kvs ks):kvs.any (fun kv=>decide (kv.1=k))=ks.any (fun kv=>decide (kv.1=k)):=by
 induction h with
 |nil=>rfl
 |cons _ _ ih=>exact congrArg (_|| ·) ih
theorem qK.snoc{k:Int}{v:V}{val:Value}(hv:VR ρ G v val){ks:List (Int×V)}(h:qK ρ G kvs ks):qK ρ G (kvs++[(k,val)]) (ks++[(k,v)]):=by
 induction h with
 |nil=>exact .cons hv .nil
 |cons a _ ih=>exact .cons a ih
theorem qK.put{k:Int}{v:V}{val:Value}(hv:VR ρ G v val){ks:List (Int×V)}(h:qK ρ G kvs ks):qK ρ G (kvs.map (fun kv=>if kv.1=k then(kv.1,val) else kv)) (ks.map (fun kv=>if kv.1=k then(kv.1,v) else kv)):=by
 induction h with
 |nil=>exact .nil
 | @cons j w u es r hu _ ih=>
  rw[List.map_cons,List.map_cons]
  split
  ·exact .cons hv ih
  ·exact .cons hu ih
theorem qK.set{k:Int}{v:V}{val:Value}(hv:VR ρ G v val){kvs ks:_}(h:qK ρ G kvs ks):qK ρ G (stored kvs k val) (Ou ks k v):=by
 unfold stored Ou;rw[h.any]
 split
 ·exact h.put hv
 ·exact h.snoc hv
theorem qK.at{ρ:dN}{G:cE}{kk:Int}{v:V}{kvs:List (Int×Value)}{ks:List (Int×V)}(h:qK ρ G kvs ks)(i:Nat){r:List (Int×V)}(e:ks.drop i=(kk,v)::r):∃val,kvs[i]?=some (kk,val):=by
 induction h generalizing i with
 |nil=>rw[List.drop_nil] at e;cases e
 |cons _ _ ih=>
  induction i with
  |zero=>cases e;exact⟨_,rfl⟩
  |succ i=>exact ih i e
theorem qK.length{ks:List (Int×V)}(h:qK ρ G kvs ks):kvs.length=ks.length:=by
 induction h with
 |nil=>rfl
 |cons _ _ ih=>exact congrArg Nat.succ ih
theorem qF{o:Obj}{p:Program}{w:World}(h:o.IsDictOf (intKind p w) kvs):∀prog w,o.IsDictOf (intKind prog w) kvs:=by
 intro prog w';obtain⟨es,ep,a,b,c,d,e⟩:=h;refine⟨es,ep,a,b,c,?_,e⟩;clear c e b;generalize es.toList=l at d;induction d with
 |nil=>exact .nil
 |cons h1 h2 _ ih=>exact .cons h1 h2 ih
def Qx(C:Cx)(ρ:dN)(G fo:cE)(m:mZ)(h:Heap)(sc:Sc)(F:Obj->List (Int×V)->aM->bX->Prop):Prop:=∀Ω:Prop,(∀(pre post:cE) (kvs:List (Int×Value)) (N:News C.h₀ C.L h (pre++(sc.dF,sc.kM)::post)) (fr:Fr C.h₀ C.L h m) (s1:∀p∈pre,p.1≠sc.dF) (s2:∀p∈post,p.1≠sc.dF) (sm:(sc.dF==sysModules)=false) (dk:∀prog w,sc.kM.IsDictOf (intKind prog w) kvs) (kv:qK ρ G kvs sc.keys) (z:∀h' Xb Fx JF aG bS,(∀prog w,Xb.IsDictOf (intKind prog w) Fx)->qK ρ G Fx JF->News C.h₀ C.L h' (pre++(sc.dF,Xb)::post)->Fr C.h₀ C.L h' m->F Xb JF aG bS->cN C ρ G fo bS m aG h'),Ω)->Ω
theorem Qx.mk{C:Cx}{sc:Sc}{F:Obj->List (Int×V)->aM->bX->Prop}(pre post:cE)(kvs:List (Int×Value))(N:News C.h₀ C.L h (pre++(sc.dF,sc.kM)::post))(fr:Fr C.h₀ C.L h m)(s1:∀p∈pre,p.1≠sc.dF)(s2:∀p∈post,p.1≠sc.dF)(sm:(sc.dF==sysModules)=false)(dk:∀prog w,sc.kM.IsDictOf (intKind prog w) kvs)(kv:qK ρ G kvs sc.keys)(z:∀h' Xb Fx JF aG bS,(∀prog w,Xb.IsDictOf (intKind prog w) Fx)->qK ρ G Fx JF->News C.h₀ C.L h' (pre++(sc.dF,Xb)::post)->Fr C.h₀ C.L h' m->F Xb JF aG bS->cN C ρ G fo bS m aG h'):Qx C ρ G fo m h sc F:=fun U φ=>φ pre post kvs N fr s1 s2 sm dk kv z
theorem cN.mU{C:Cx}{sc:Sc}{loc:aM}(I:cN C ρ G fo (some sc) m loc h):
  Qx C ρ G fo m h sc (fun o ks l s=>l=loc/\s=some {sc with keys:=ks,kM:=o}):=by
 obtain⟨⟨ls,os,a,b,c,d⟩,F,nd⟩:=I;refine a _ ?_;clear a
 rintro es n vals vT nT nI aK eK nK tI rfl hS hE h5 h6 h7 hV
 obtain⟨rfl,rfl,h8,h9,Uc⟩:=h7;have c':News C.h₀ C.L h ([(ρ.dS,dictOf es n),(ρ.aT,W.listOf vT.toArray nT),(ρ.aI,W.listOf tI.toArray nI)]++(sc.dF,sc.kM)::(os++(fo++G))):=c;have d':(([(ρ.dS,dictOf es n),(ρ.aT,W.listOf vT.toArray nT),(ρ.aI,W.listOf tI.toArray nI)]++(sc.dF,sc.kM)::(os++(fo++G))).map (·.1)).Nodup:=d;obtain⟨s1,s2⟩:=gH d';refine(.mk _ _ nK c' F s1 s2 h8 h9 Uc (fun h' Xb Fx JF aG bS q0 q1 q2 q3 q4=>?_));obtain⟨rfl,rfl⟩:=q4;exact⟨⟨[(ρ.dS,dictOf es n),(ρ.aT,W.listOf vT.toArray nT),(ρ.aI,W.listOf tI.toArray nI),(sc.dF,Xb)],os,(.mk es n vals vT nT nI sc.dF Xb Fx tI rfl hS hE h5 h6 ⟨rfl,rfl,h8,q0,q1⟩ hV),b,q2,iZ d'⟩,q3,nd⟩
theorem yN{pre post:cE}{o:Obj}(a:∀p∈pre,p.1≠Dl)(b:∀p∈post,p.1≠Dl):UpdF Dl o (pre++(Dl,o)::post) (fun o'=>pre++(Dl,o')::post):=by
 induction pre with
 |nil=>exact .head b
 |cons p pre ih=>exact .tail (a p (.head _)) (ih fun q hq=>a q (.tail _ hq))
section
variable{D:Nat}{C:Cx}{X:eZ}{loc:aM}
theorem AI{sc:Sc}{s:Shared}{A:Around}{k:Int}{t:Tok}{T:dQ}{E:dQ}(I:cN C ρ G fo (some sc) m loc s.heap)
  (q:∀tk,T (.bool (sQ sc.keys k).isSome) {s with toks:=tk}):wpAny (model g.prog g.w) A (compareOp .In (.int k t) (.ref sc.dF)) T E s:=by
 refine I.mU _ fun pre post kvs N F s1 s2 lo hd kr z=>?_;refine kda_in (knd:=intKind g.prog g.w) N (q7 _ (.head _)) (hd _ _) lo (intKind_is _ _ k t) ((sQ sc.keys k).isSome) ?_ (q _)
 rcases kr.get (k:=k) with⟨h1,h2⟩|⟨v,val,h1,h2,_⟩<;>rw[h1,h2]<;>rfl
theorem Mp{d:Expr}{Q:nX}(hm:behindInMarks .In d=false)
  (h:EW g D C ρ X e loc σ (fun a l s=>EW g D C ρ X d l s (fun b l s=>∃k sc,a=.int k/\s=some sc/\b=.glob (.ref sc.dF)/\Q (sQ sc.keys k).isSome l s))):
  BW g D C ρ X (.Compare e [.In] [d] pos) loc σ Q:=by
 refine .of fun ok G fo m s w I _ Qr Er q qe=>?_;refine wpAny_isTrue_Compare1 (jP h ok I qe fun a b aG bS G' av bv h' bH z1 z2 z3 z4 z5 U=>?_) hm;refine Xh z1 fun k sc fE qR Hg z=>?_;subst fE qR Hg;induction z3.out;induction z4.out
 exact AI (s:=(St s h' bH)) z5 fun tk=>wpAny_truthy_bool (q _ aG _ G' h' tk z z2 z5)
theorem Ed{d slice:Expr}
  (hs:∀a i u,subscripted slice false (.ref a) (.int i u)=operate [.ref a,.int i u] (getItem (.ref a) (.int i u)))
  (h:EW g D C ρ X d loc σ (fun b l s=>EW g D C ρ X slice l s (fun a l s=>∃k sc v,a=.int k/\s=some sc/\b=.glob (.ref sc.dF)/\sQ sc.keys k=some v/\Q v l s))):
  EW g D C ρ X (.Subscript d slice pos) loc σ Q:=by
 refine .of fun ok G fo m s I Qr Er q qe=>?_;refine Subscript_ (jP h ok I qe fun b a aG bS G' bv av h' bH z1 z2 z3 z4 z5 U=>?_);refine Xj z1 fun k sc v fE qR Hg hk z=>?_;subst fE qR Hg;induction z3.out;induction z4.out
 refine z5.mU _ fun pre post kvs N F s1 s2 lo hd kr zz=>?_
 rcases kr.get (k:=k) with⟨h1,h2⟩|⟨v',val,h1,h2,h3⟩
 ·rw[hk] at h1;cases h1
 ·rw[hk] at h1;cases h1;exact kba_turn (value':=.Name (Str.ofString "_") ⟨0,0,0,0⟩) (fun U=>rfl) (kda_item (knd:=intKind g.prog g.w) N (q7 _ (.head _)) (hd _ _) (intKind_is _ _ k _) h2 (q v aG _ G' val h' _ z z2 h3 z5) (hs _ _ _) (fun U=>rfl))
theorem Ik{d slice:Expr}{Q:eM}(Uk:swapsWith e (some (.Subscript d slice p)) pos.line C.env=pure false)
  (h:EW g D C ρ X e loc σ (fun v l s=>EW g D C ρ X d l s (fun b l s=>EW g D C ρ X slice l s (fun a l s=>∃k sc,a=.int k/\s=some sc/\b=.glob (.ref sc.dF)/\sc.keys.length<=sizeLine/\∀ob,Q .next l (some {sc with keys:=Ou sc.keys k v,kM:=ob}))))):
  kA g D C ρ X (.Assign [.Subscript d slice p] e pos) loc σ Q:=by
 refine .of fun ok G fo m s I Qr Er q qe=>?_;refine wpAny_Assign_Subscript (bI h ok I (qe.at) fun v dA jA G1 val h1 fN z1 z2 z3 z4 lO=>?_) Uk;refine bI z1 ok (s:=(St s h1 fN)) z4 lO fun b cT lF G2 bv h2 iC y1 y2 y3 y4 tO=>?_;refine bI y1 ok (s:=(St s h2 iC)) y4 tO fun a pR Mo G3 av h3 Kb x1 x2 x3 x4 UO=>?_;refine QE x1 fun k sc fE qR Hg iX w=>?_;subst fE qR Hg;induction y3.out;induction x3.out
 refine x4.mU _ fun pre post kvs N F s1 s2 lo hd kr zz=>?_;refine kda_set (knd:=intKind g.prog g.w) (s:=(St s h3 Kb)) F N (yN s1 s2) (hd _ _) (intKind_is _ _ k _) (by rw[kr.length];exact iX) fun h' o' F' N' CQ=>?_;exact q .next pR _ G3 m .next h' _ (w o') (fun p hp=>x2 p (y2 p (z2 p hp))) .next (zz h' o' _ _ pR _ (qF CQ) (kr.set ((z3.mono y2).mono x2)) N' F' ⟨rfl,rfl⟩)
theorem Ii{d slice:Expr}{Q:eM}
  (h:EW g D C ρ X d loc σ (fun b l s=>EW g D C ρ X slice l s (fun a l s=>∃k sc,a=.int k/\s=some sc/\b=.glob (.ref sc.dF)/\(sQ sc.keys k).isSome=true/\sc.keys.length<=sizeLine/\∀ob,Q .next l (some {sc with keys:=Oq sc.keys k,kM:=ob})))):
  kA g D C ρ X (.Delete [.Subscript d slice p] pos) loc σ Q:=by
 refine .of fun ok G fo m s I Qr Er q qe=>?_;refine wpAny_Delete (wpAny_deleteEach_cons ?_);show wpAny _ _ (do
  let ov←eval d C.env
  let iv←holding [ov] (eval slice C.env)
  standAt p
  holding [ov,iv] (delItem ov iv)
  release [ov,iv] []) _ _ _
 refine q8 (bI h ok I (qe.at) fun b dA jA G1 bv h1 fN z1 z2 z3 z4 lO=>?_);refine q8 (wpAny_holding (bI z1 ok (s:=(St s h1 fN)) z4 lO fun a cT lF G2 av h2 iC y1 y2 y3 y4 tO=>?_));refine q8 (wpAny_standAt ?_);refine Mt y1 fun k sc fE qR Hg hk iX w=>?_;subst fE qR Hg;induction z3.out;induction y3.out
 refine y4.mU _ fun pre post kvs N F s1 s2 lo hd kr zz=>?_;refine q8 (wpAny_holding (kob_del (knd:=intKind g.prog g.w) (s:=(St s h2 iC)) F N (yN s1 s2) (hd _ _) (intKind_is _ _ k _) ?_ (by rw[kr.length];exact iX) fun h' o' F' N' CQ=>?_))
 ·rcases kr.get (k:=k) with⟨h1,h2⟩|⟨v,val,h1,h2,_⟩
  ·rw[h1] at hk;cases hk
  ·rw[h2];rfl
 ·refine wpAny_release (wpAny_deleteEach_nil ?_);exact q .next cT _ G2 m .next h' _ (w o') (z2.trans y2) .next (zz h' o' _ _ cT _ (qF CQ) kr.del N' F' ⟨rfl,rfl⟩)
end
theorem uN{ls:cE}{p:Addr×Obj}:(ls++(os++(fo++G))).Sublist (ls++(os++((p::fo)++G))):=
 (List.Sublist.refl _).append ((List.Sublist.refl _).append (List.Sublist.cons _ (.refl _)))
section
variable{D:Nat}{C:Cx}{X:eZ}{loc:aM}{h':Heap}
theorem cN.rL{p:Addr×Obj}(I:cN C ρ G (p::fo) σ m loc h):cN C ρ G fo σ m loc h:=by
 obtain⟨⟨ls,os,a,b,c,d⟩,F,nd⟩:=I;exact⟨⟨ls,os,a,b,dU c uN.subset,gP d uN⟩,F,nd⟩
theorem Et.rL{p:Addr×Obj}{x:yO}{ev:Value}(I:Et C ρ G (p::fo) σ m loc x ev h):Et C ρ G fo σ m loc x ev h:=by
 obtain⟨⟨e,dx,a0,es,n,vals,ls,os,B,rfl,hd,he,hv,hs,Lo,hn,hB,hq,fl⟩,up,ns,Mb⟩:=I;exact⟨⟨e,dx,a0,es,n,vals,ls,os,B,rfl,hd,he,hv,hs,Lo,gP hn (List.Sublist.cons₂ _ uN),hB,fun q JB=>hq q ((List.Sublist.cons₂ _ uN).subset JB),fl⟩,up,ns,Mb⟩
theorem cN.Dc(I:cN C ρ G fo σ m loc h)(o:Obj)(hf:o.isFreed=false):cN C ρ G ((h.objs.size,o)::fo) σ m loc (h.push o):=by
 obtain⟨⟨ls,os,a,b,c,d⟩,F,nd⟩:=I;have N:=News.push F c o hf;have dd:=dP (oa:=o) d (fun p hp=>Heap.lt_size (c p hp).1);have pm:((h.objs.size,o)::(ls++(os++(fo++G)))).Perm (ls++(os++(((h.objs.size,o)::fo)++G))):=by
  refine List.perm_middle.symm.trans ((List.Perm.refl ls).append ?_);exact List.perm_middle.symm
 exact⟨⟨ls,os,a,b,dU N fun p hp=>pm.symm.subset hp,(List.Perm.nodup_iff (pm.map _)).mp dd⟩,F.push o,nd⟩
theorem cN.Wn{it:Addr}{o o':Obj}(I:cN C ρ G ((it,o)::fo) σ m loc h)(hs:Heap.SameBut it h h')(ho:h'.get? it=some o'):cN C ρ G ((it,o')::fo) σ m loc h':=by
 obtain⟨⟨ls,os,a,b,c,d⟩,F,nd⟩:=I;have re:∀o:Obj,ls++(os++(((it,o)::fo)++G))=(ls++os)++(it,o)::(fo++G):=fun o=>by simp
 rw[re] at c d;obtain⟨s1,s2⟩:=gH d;have z:=c (it,o) (q7 _ (.head _));exact⟨⟨ls,os,a,b,by rw[re];exact news_set c s1 s2 hs ho,by rw[re];exact iZ d⟩,F.change hs z.2.1 z.2.2,nd⟩
theorem cN.LN{it:Addr}{o:Obj}(I:cN C ρ G ((it,o)::fo) σ m loc h)(hs:Heap.ExtBut it h h'):cN C ρ G fo σ m loc h':=by
 obtain⟨⟨ls,os,a,b,c,d⟩,F,nd⟩:=I;have re:ls++(os++(((it,o)::fo)++G))=(ls++os)++(it,o)::(fo++G):=by simp
 have d':=d;have c':=c;rw[re] at c' d';obtain⟨s1,s2⟩:=gH d';have z:=c' (it,o) (q7 _ (.head _));have ne:∀p∈ls++(os++(fo++G)),p.1≠it:=fun p hp=>by
  have:p∈ls++os\/p∈fo++G:=by simp only[List.mem_append] at hp⊢;rcases hp with h|h|h|h<;>simp[h]
  exact this.elim (s1 p) (s2 p)
 refine⟨⟨ls,os,a,b,fun p hp=>?_,gP d uN⟩,⟨F.ns.extBut hs (fun e=>z.2.1 e.symm),fun b x e=>hs b x ?_ (F.keep b x e),F.above⟩,nd⟩
 ·have q:=c p (uN.subset hp);exact⟨hs _ _ (ne p hp) q.1,q.2⟩
 ·rintro rfl
  rw[z.2.2] at e;cases e
theorem cZ.at{ρ:dN}{G:cE}{vs:List V}{vals:List Value}(i:Nat){r:List V}{v:V}(h:cZ ρ G vs vals)(e:vs.drop i=v::r):∃val,vals[i]?=some val/\VR ρ G v val:=by
 induction vs generalizing vals i with
 |nil=>rw[List.drop_nil] at e;cases e
 |cons u vs ih=>
  induction h.out with
  |cons a b=>
   induction i with
   |zero=>cases e;exact⟨_,rfl,a⟩
   |succ i=>exact ih i b e
noncomputable def pH(P:aM->bX->Prop)(Q:eM):Fl->aM->bX->Prop
 |.next,l,s=>P l s
 |.cont,l,s=>P l s
 |.brk,l,s=>Q .next l s
 |.ret v,l,s=>Q (.ret v) l s
def Nc(g:Gl)(D:Nat)(C:Cx)(ρ:dN)(X:eZ)(T:V->aM->aM->Prop)(v:V)(body:List Stmt)(P:aM->bX->Prop)(Q:eM)(l:aM)(s:bX):Prop:=∀Ω:Prop,(∀(l':aM) (u:T v l l') (h:SW g D C ρ X body l' s (pH P Q)),Ω)->Ω
theorem Nc.mk{D:Nat}{C:Cx}{X:eZ}{T:V->aM->aM->Prop}{v:V}{P:aM->bX->Prop}{Q:eM}{l:aM}{s:bX}(l':aM)(u:T v l l')(h:SW g D C ρ X body l' s (pH P Q)):Nc g D C ρ X T v body P Q l s:=fun U φ=>φ l' u h
abbrev DX(g:Gl)(D:Nat)(C:Cx)(ρ:dN)(X:eZ)(x:Str)(v:V)(body:List Stmt)(P:aM->bX->Prop)(Q:eM)(l:aM)(s:bX):Prop:=Nc g D C ρ X (fun v=>dW x (.val v)) v body P Q l s
def Kx(g:Gl)(D:Nat)(C:Cx)(ρ:dN)(tg:Expr)(T:V->aM->aM->Prop):Prop:=iP g D C->∀(v:V) (l l':aM),T v l l'->∀(val:Value) (σ:bX) (G fo:cE) (m:mZ) (s:Shared),VR ρ G v val->cN C ρ G fo σ m l s.heap->∀(P:Unit->Shared->Prop) (E:dQ),(∀h2 t2 m2,cN C ρ G fo σ m2 l' h2->P () (St s h2 t2))->wpAny (model g.prog g.w) C.A (assign tg C.env val) P E s
def Xv(g:Gl)(C:Cx)(ρ:dN)(tg:Expr)(T:V->aM->aM->Prop)(W:Addr->Heap->Prop):Prop:=∀(v:V) (l l':aM),T v l l'->∀(val:Value) (G:cE) (it:Addr) (s:Shared),VR ρ G v val->W it s.heap->∀(P:Unit->Shared->Prop) (E:dQ),P () s->wpAny (model g.prog g.w) C.A (letOwnedTupleGo tg (.ref it) val) P E s
theorem Cj{C:Cx}{px:Pos}{T:V->aM->aM->Prop}{W:Addr->Heap->Prop}:Xv g C ρ (.Name x px) T W:=fun v l l' u val G it s hv hw P E k=>wpAny_pure k
theorem yL{D:Nat}{C:Cx}{px:Pos}(hx:aF C x):Kx g D C ρ (.Name x px) (fun v=>dW x (.val v)):=fun ok v l l' u val σ G fo m s hv I P E k=>
 wpAny_assign_Name (gI ok hx.1 I hv u fun h2 t2 I2=>k h2 t2 _ I2)
def Xt(C:Cx)(ρ:dN)(G fo:cE)(s:Shared)(it:Addr)(len:Nat)(P:Nat->aM->bX->Prop)(IO:Nat->Obj->Prop)(k:Nat)(s':Shared):Prop:=∀Ω:Prop,(∀(i:Nat) (aG:aM) (bS:bX) (G':cE) (m':mZ) (h':Heap) (bH:Tok) (oI:Obj) (ek:k=len+1-i) (hi:i<=len) (hj:P i aG bS) (sub:Sub G G') (I:cN C ρ G' ((it,oI)::fo) bS m' aG h') (hI:IO i oI) (e:s'=(St s h' bH)),Ω)->Ω
theorem Xt.mk{C:Cx}{s:Shared}{it:Addr}{len:Nat}{P:Nat->aM->bX->Prop}{IO:Nat->Obj->Prop}{k:Nat}{s':Shared}(i:Nat)(aG:aM)(bS:bX)(G':cE)(m':mZ)(h':Heap)(bH:Tok)(oI:Obj)(ek:k=len+1-i)(hi:i<=len)(hj:P i aG bS)(sub:Sub G G')(I:cN C ρ G' ((it,oI)::fo) bS m' aG h')(hI:IO i oI)(e:s'=(St s h' bH)):Xt C ρ G fo s it len P IO k s':=fun U φ=>φ i aG bS G' m' h' bH oI ek hi hj sub I hI e
theorem Ru.sub{C:Cx}{s:Shared}{Q:eM}{Qr:Flow->Shared->Prop}(q:Ru C ρ G fo s Q Qr)(k:Sub G G'):Ru C ρ G' fo s Q Qr:=fun f l s' G2 m2 fv h2 t2 y1 y2 y3 y4=>q f l s' G2 m2 fv h2 t2 y1 (k.trans y2) y3 y4
theorem vH.sub{C:Cx}{s:Shared}{X:eZ}(q:vH C ρ G fo s X Er)(k:Sub G G'):vH C ρ G' fo s X Er:=fun f l s' G2 m2 fv h2 t2 y1 y2 y3=>q f l s' G2 m2 fv h2 t2 y1 (k.trans y2) y3
theorem xI{tg:Expr}{T:V->aM->aM->Prop}{Q:eM}(hx:Kx g D C ρ tg T){W:Addr->Heap->Prop}(SK:Xv g C ρ tg T W)(ok:iP g D C){s:Shared}{it:Addr}{len:Nat}{P:Nat->aM->bX->Prop}{IO:Nat->Obj->Prop}(hW:∀i oI h,IO i oI->h.get? it=some oI->W it h){Qr:Flow->Shared->Prop}(q:Ru C ρ G fo s Q Qr)(qe:vH C ρ G fo s X Er)
  (next:∀i aG bS G' m' h' bH oI,i<=len->P i aG bS->Sub G G'->cN C ρ G' ((it,oI)::fo) bS m' aG h'->IO i oI->h'.get? it=some oI->∀(TT:Option Value->Shared->Prop) (E:dQ),
   (∀v val h2 iC o2,i<len->VR ρ G' v val->Nc g D C ρ X T v body (P (i+1)) Q aG bS->h2.get? it=some o2->IO (i+1) o2->Heap.SameBut it h' h2->TT (some val) (St s h2 iC))->
   (∀h2,Q .next aG bS->Heap.ExtBut it h' h2->TT none (St s h2 bH))->wpAny (model g.prog g.w) C.A (pyNext (.ref it)) TT E (St s h' bH))
  {dA:aM} {jA:bX} {m1:mZ} {h1:Heap} {fN:Tok} {oI:Obj} (h0:P 0 dA jA) (I0:cN C ρ G ((it,oI)::fo) jA m1 dA h1) (hI:IO 0 oI):
  codeAny (model g.prog g.w) C.A (.forLoop tg (.ref it) body [] C.env) (fun r s'=>match r with|.ok f=>Qr f s'|.error e=>cameBackBy (model g.prog g.w) C.A C.env Er e s') (St s h1 fN):=by
 refine codeAny_forLoop_any (Xt C ρ G fo s it len P IO) ?_ (len+1) (.mk 0 dA jA G m1 _ fN _ rfl (Nat.zero_le _) h0 (.refl _) I0 hI rfl)
 rintro k s' q_
 refine q_ _ ?_;clear q_
 rintro i aG bS G' m' h' bH oI rfl hi hj sub I' YL rfl
 obtain⟨ls,os,_,_,cI,_⟩:=I'.ex;have DB:=(cI (it,oI) (q7 _ (q7 _ (.head _)))).1;refine next i aG bS G' m' h' bH oI hi hj sub I' YL DB _ _ (fun v val h2 iC o2 oH hv ht CU VK Ol=>?_) fun h2 hq GU=>?_
 ·refine ht _ fun l' u body=>?_;refine SK v _ _ u val _ it (St s h2 iC) hv (hW _ _ _ VK CU) _ _ ?_;refine hx ok v _ _ u val _ _ _ _ (St s h2 iC) hv (I'.Wn Ol CU) _ _ fun h3 Kb m3 I3=>?_;refine body.out ok G' _ _ (St s h3 Kb) I3 _ _ (fun f l2 s2 G2 m2 fv h4 IK w1 w2 w3 w4=>?_) (fun x l2 s2 G2 m2 ev h4 IK y1 y2 y3=>?_)
  ·have again:P (i+1) l2 s2->∃k,k<len+1-i/\Xt C ρ G fo s it len P IO k (St s h4 IK):=fun ZD=>
    ⟨len+1-(i+1),Nat.sub_lt_sub_left (Nat.lt_succ_of_lt oH) (x9 i),.mk (i+1) l2 s2 G2 m2 h4 IK o2 rfl oH ZD (sub.trans w2) w4 VK rfl⟩
   induction w3 with
   |next=>exact again w1
   |cont=>exact again w1
   |brk=>exact q .next l2 s2 G2 m2 .next h4 IK w1 (sub.trans w2) .next w4.rL
   |ret ZT=>exact q (.ret _) l2 s2 G2 m2 _ h4 IK w1 (sub.trans w2) (.ret ZT) w4.rL
  ·exact Et.loops (s:=(St s h4 IK)) ok y3.rL fun h5 t5 y=>qe x l2 s2 G2 m2 ev h5 t5 y1 (sub.trans y2) y
 ·refine wpAny_execs_nil ?_;exact q .next aG bS G' m' .next h2 bH hq sub .next (I'.LN GU)
theorem uS{tg:Expr}{T:V->aM->aM->Prop}{iter:Expr}{Q:eM}(hh:C.A.handled=Option.none)(hx:Kx g D C ρ tg T)(SK:Xv g C ρ tg T fun it h=>∃al i,h.IsListIter it al i)(J:List V->aM->bX->Prop)
  (hit:EW g D C ρ X iter loc σ (fun v l s=>∃vs,v=.lst vs/\J vs l s))
  (turn:∀v r l s,J (v::r) l s->Nc g D C ρ X T v body (J r) Q l s)
  (fin:∀l s,J [] l s->Q .next l s) (pO:∀v,foldedSetIterable iter C.env v=pure v):
  kA g D C ρ X (.For tg iter body [] pos) loc σ Q:=by
 refine .of fun ok G fo m s I Qr Er q qe=>?_;refine wpAny_For (bI hit ok I (qe.at) fun v dA jA G1 val h1 fN z1 z2 z3 z4 lO=>?_) pO;refine bQ z1 fun vs fE hj=>?_;subst fE;induction z3.out with
 | @lst al vals n hm hv=>
  have TK:∀{G' OZ bS m' aG h'},Sub G1 G'->cN C ρ G' OZ bS m' aG h'->h'.IsList al vals.toArray:=fun sub I=>by
   obtain⟨ls,os,_,_,c,_⟩:=I.ex;exact⟨_,(c (al,W.listOf vals.toArray n) (q7 _ (q7 _ (q7 _ (sub _ hm))))).1,rfl,⟨n,rfl⟩⟩
  have hl:=hv.length;refine wpAny_pyIter_list (s:=(St s h1 fN)) (TK (.refl _) z4) ?_;refine xI (len:=vals.length) (P:=fun i=>J (vs.drop i)) (IO:=fun i oI=>oI.cls=.type "list_iterator"/\oI.data=.fields #[.ref al,.int i 0]) hx SK ok (fun i oI h a b=>⟨al,i,oI,b,a.1,a.2⟩) (q.sub z2) (qe.sub z2) ?_ hj (z4.Dc {cls:=.type "list_iterator",data:=.fields #[.ref al,.int 0 0]} rfl) ⟨rfl,rfl⟩;intro i aG bS G' m' h' bH oI hi Ft sub I' hI DB TT E item stop;have Ue:h'.IsListIter h1.objs.size al i:=⟨oI,DB,hI.1,hI.2⟩;cases hd:vs.drop i with
  |nil=>
   have MC:vals.length<=i:=hl▸List.drop_eq_nil_iff.mp hd;refine wpAny_pyNext_list_end (s:=(St s h' bH)) hh Ue (TK sub I') (by rw[List.getElem?_toArray];exact List.getElem?_eq_none MC) fun h2 GU=>?_;rw[hd] at Ft;exact stop h2 (fin _ _ Ft) GU
  |cons v r=>
   refine bQ (hv.at i hd) fun val g1 g2=>?_;refine wpAny_pyNext_list_item (s:=(St s h' bH)) Ue (TK sub I') (x:=val) (by rw[List.getElem?_toArray];exact g1) fun h2 Ug Ol=>?_;refine jM Ug fun o2 CU d1 d2=>?_;rw[hd] at Ft;refine item v val h2 bH o2 (List.getElem?_eq_some_iff.mp g1).1 (g2.mono sub) ?_ CU ⟨d1,d2⟩ Ol;rw[show vs.drop (i+1)=r by rw[←List.drop_drop,hd];rfl];exact turn v r aG bS Ft
theorem wQ{px:Pos}{iter:Expr}{Q:eM}(hh:C.A.handled=Option.none)(hx:aF C x)(J:List V->aM->bX->Prop)
  (hit:EW g D C ρ X iter loc σ (fun v l s=>∃vs,v=.lst vs/\J vs l s))
  (turn:∀v r l s,J (v::r) l s->DX g D C ρ X x v body (J r) Q l s)
  (fin:∀l s,J [] l s->Q .next l s) (pO:∀v,foldedSetIterable iter C.env v=pure v):
  kA g D C ρ X (.For (.Name x px) iter body [] pos) loc σ Q:=uS hh (yL hx) Cj J hit turn fin pO
end
section
open Sem (wp)
structure qA(B newId jT:String)(bm Kz:List Value):Prop where
 F:ExcBaseFacts B newId jT Kz
 hasB:bm.contains (.type B)=true
 g5:bm.contains (.type "AttributeError")=false
 g6:bm.contains (.type "NameError")=false
noncomputable abbrev dM(C t:Addr)(d:Option Addr):Obj:={cls:=.ref C,dict:=d,data:=.fields #[.ref t,.none,.none,.none,.bool false,.none]}
noncomputable abbrev vX(rest:List Value):Obj:={cls:=.type "tuple",data:=.seq rest.toArray}
section
variable{prog:Program}{w:World}{A:Around}{R:Result->Shared->Prop}{E:dQ}{g:Array GenState}{d:Drawn}{t:Nat}{os:OsState}
variable{nm q:Str}{C N:Addr}{bs bm Kz:List Value}{hdct:Bool}{sn:List Str}{sub:List Value}{ab:Bool}{col:Option Bool}{dd:Option Addr}{k0 k1 k2 k3 k5:Option Value}{B newId jT:String}
theorem Oe(Y:qA B newId jT bm Kz){rest:List Value}{Q:Unit->Shared->Prop}(hC:h.get? C=some (excClassObj nm q C N bs bm hdct sn sub ab col dd k0 k1 k2 k3 k5 newId))
  (hq:Q () ⟨h,g,d,t,os⟩):wpAny M A (checkBuiltinCall newId ⟨.ref C::rest,[]⟩) Q E ⟨h,g,d,t,os⟩:=by
 have hB:(Value.ref C::bm).contains (.type B)=true:=by rw[List.contains_cons,Y.hasB,Bool.or_true]
 have WG:=Y.F.noStar;unfold checkBuiltinCall;rw[Y.F.newKind,Y.F.newSplit,Y.F.newRow]
 repeat (first|refine wpAny_loadPart_at hC ?_|(refine wpAny_isSubtype_exc hC ?_;rw[hB])|refine wpAny_staticBase_exc hC ?_|refine wpAny_madeBy_exc hC ?_|(rw[bne_self_eq_false])|wp_step)
 exact hq
theorem Zh(Y:qA B newId jT bm Kz){rest:List Value}(hC:h.get? C=some (excClassObj nm q C N bs bm hdct sn sub ab col dd k0 k1 k2 k3 k5 newId))
  (hq:R (.ok (.ret (.ref (h.objs.size+1)))) ⟨(h.push ({cls:=.type "tuple",data:=.seq rest.toArray})).push ({cls:=.ref C,data:=.fields #[.ref h.objs.size,.none,.none,.none,.bool false,.none]}),g,d,t,os⟩) (Lq:rest.length<=sizeLine):
  codeAny (model prog w) A (.builtin newId ⟨.ref C::rest,[]⟩) R ⟨h,g,d,t,os⟩:=by
 have VU:=Y.F.ends;have hB:(Value.ref C::bm).contains (.type B)=true:=by rw[List.contains_cons,Y.hasB,Bool.or_true]
 have hA:(Value.ref C::bm).contains (.type "AttributeError")=false:=by rw[List.contains_cons,Y.g5];rfl
 have hN:(Value.ref C::bm).contains (.type "NameError")=false:=by rw[List.contains_cons,Y.g6];rfl
 refine codeAny_builtinAt Y.F.entry ?_;unfold Builtin.«BaseException.__new__»;refine PySem.wpAt_bind ?_;show PySem.wpAt _ _ _ (stack>>=_) _ _ _;refine PySem.wpAt_bind (PySem.wpAt_stack fun p below=>PySem.wpAt_of_wpAny ?_)
 wp_walk
 refine PySem.wpAt_of_wpAny ?_;rw[Y.F.owner]
 repeat (first|with_reducible refine wpAny_madeHere_exc Y.F.canon hC ?_|with_reducible refine wpAny_loadPart_at hC ?_|(with_reducible refine wpAny_isSubtype_exc hC ?_;first|rw[hB]|rw[hA]|rw[hN])|wp_step)
 show R _ _;rw[Heap.size_push];exact hq
theorem yX(Y:qA B newId jT bm Kz){rest:List Value}{A':Around}(hC:h.get? C=some (excClassObj nm q C N bs bm hdct sn sub ab col dd k0 k1 k2 k3 k5 newId))
  (hi:Looks (model prog w) h (typeLookup (.ref C) "__init__") (some (.ref fI))) (hb:∀self,Looks (model prog w) h (bindSpecial (.ref fI) self) (.ref fI,[self])) (Lq:rest.length<=sizeLine)
  (hq:codeAny (model prog w) A (.call (.ref fI) ⟨.ref (h.objs.size+1)::rest,[]⟩) (InitBack (h.objs.size+1) R) ⟨((h.push {cls:=.type "tuple",data:=.seq rest.toArray}).push {cls:=.ref C,data:=.fields #[.ref h.objs.size,.none,.none,.none,.bool false,.none]}),g,d,t,os⟩):
  wpAny (model prog w) A (Builtin.«type.__call__» ⟨.ref C::rest,[]⟩) (fun fin s'=>match fin with|.done f=>R (.ok f) s'|.again c'=>c'.quiet=true/\codeAny (model prog w) A' c' R s') (fun e s'=>R (.error e) s') ⟨h,g,d,t,os⟩:=by
 repeat (first|with_reducible refine wpAny_loadPart_at hC ?_|with_reducible refine wpAny_madeBy_exc hC ?_|wp_step)
 refine codeAny_call_builtin_code (Code.quiet_builtin _ Y.F.quiet) (Oe Y hC ?_);refine Zh Y hC ?_ Lq;show wpAny _ _ _ _ _ _;have k:∀b o,h.get? b=some o->((h.push {cls:=.type "tuple",data:=.seq rest.toArray}).push {cls:=.ref C,data:=.fields #[.ref h.objs.size,.none,.none,.none,.bool false,.none]}).get? b=some o:=fun b o e=>Heap.get?_push_of_some _ (Heap.get?_push_of_some _ e);have LX:=k _ _ hC;have SJ:((h.push {cls:=.type "tuple",data:=.seq rest.toArray}).push {cls:=.ref C,data:=.fields #[.ref h.objs.size,.none,.none,.none,.bool false,.none]}).get? (h.objs.size+1)=some {cls:=.ref C,data:=.fields #[.ref h.objs.size,.none,.none,.none,.bool false,.none]}:=by heap_get
 have YU:(Value.ref C::bm).contains (.ref C)=true:=by simp
 unfold isInstance
 repeat (first|with_reducible refine wpAny_loadPart_at SJ ?_|(with_reducible refine wpAny_isSubtype_exc LX ?_;rw[YU])|wp_step)
 show wpAny _ _ (typeLookup (.ref C) _) _ _ _;refine(hi.keeps k).here ?_;refine wpAny_holding (q8 (((hb (.ref (h.objs.size+1))).keeps k).here ?_));refine q8 (wpAny_call (codeAny_mono hq fun r s' z=>?_))
 rcases r with e|(v|_|_|_)<;>first|exact z|exact z.elim|skip
 obtain⟨rfl,z⟩:=z
 wp_walk
 exact z
theorem Tn(Y:qA B newId jT bm Kz){rest:List Value}(hC:h.get? C=some (excClassObj nm q C N bs bm hdct sn sub ab col dd k0 k1 k2 k3 k5 newId))
  (hi:Looks (model prog w) h (typeLookup (.ref C) "__init__") (some (.ref fI))) (hb:∀self,Looks (model prog w) h (bindSpecial (.ref fI) self) (.ref fI,[self])) (Lq:rest.length<=sizeLine)
  (hq:codeAny (model prog w) (A.under (.builtin "type.__call__" ⟨.ref C::rest,[]⟩)) (.call (.ref fI) ⟨.ref (h.objs.size+1)::rest,[]⟩) (InitBack (h.objs.size+1) R) ⟨((h.push {cls:=.type "tuple",data:=.seq rest.toArray}).push {cls:=.ref C,data:=.fields #[.ref h.objs.size,.none,.none,.none,.bool false,.none]}),g,d,t,os⟩):
  codeAny (model prog w) A (.call (.ref C) ⟨rest,[]⟩) R ⟨h,g,d,t,os⟩:=by
 have f1:=tc_lookup;have f2:=tc_bind (.ref C);have hT:(⟨h,g,d,t,os⟩:Shared).TypeIs (.ref C) "type":=⟨_,hC,rfl⟩;refine codeAny_of_tree ?_;show wpAny _ _ (callAny (.ref C) _) _ _ _
 repeat (any_goals (first|assumption|with_reducible refine wpAny_loadPart_at hC ?_|wp_step))
 refine⟨rfl,?_⟩;exact codeAny_call_builtin_at (Code.quiet_builtin _ (by decide+kernel)) entry_typeCall (wpAny_check_type_call_sub hC (yX Y hC hi hb Lq hq))
end
end
section
open PySem.Builtin.ObjectAttr
structure rE(K:Frag)(C:Addr):Prop where
 sa:findIn K (.ref C) "__setattr__"=some (some (.builtin "object.__setattr__"))
 cd:∃cd,clsIn K C=some cd/\cd.mro.isEmpty=false/\cd.mro.contains (.type "object")=true/\cd.hasDict=true/\∀self:Value,refuseLoop self "__setattr__" cd.mro=pure ()
section
variable{prog:Program}{w:World}{A:Around}{K:Frag}{C x:Addr}{s:Shared}{h₀:Heap}{L:Addr}{news:List (Addr×Obj)}{R:Result->Shared->Prop}
theorem Ao{ox:Obj}{od:Option Obj}{name:Str}{tk:Tok}(X:K.In s.heap)(I:InstAt s.heap x ox C od)(es:rE K C)(ht:takerIn K C name=some none)
  (h:∀b,wpAny (model prog w) A.in1 (storeInOwnDict (.ref x) (.ref C) (.str name tk) name v b)
   (fun fin s'=>match fin with|.done f=>R (.ok f) s'|.again c'=>c'.quiet=true/\codeAny (model prog w) A c' R s') (fun e s'=>R (.error e) s') s):
  codeAny (model prog w) A (.call (.builtin "object.__setattr__") ⟨[.ref x,.str name tk,v],[]⟩) R s:=by
 have SF:=PySem.F.store_object;refine DQ es.cd fun cd hc ne ho PG MI=>?_;have sub:Looks (model prog w) s.heap (isInstance (.ref x) (.type "object")) true:=I.type.andThen (looks_mroIn X (by unfold mroIn;rw[hc,Option.bind_some,if_neg (by rw[ne];decide),ho]));refine codeAny_call_builtin SF.slot.plain SF.entry (@check_slot (model prog w) _ _ s "object.__setattr__" "object" "__setattr__" (.ref x) [.str name tk,v] [] _ SF.kind SF.split sub (SF.args (.ref x) (.str name tk) v) ?_);refine bQ (Option.bind_eq_some_iff.mp ht) fun attr ha hr=>?_;have hm:Looks (model prog w) s.heap (mroOf (.ref C)) cd.mro:=(looks_clsIn X hc).andThen .now;have L3:Looks (model prog w) s.heap (storeTaker? attr) none:=by
  induction attr with
  |none=>exact .now
  |some a=>
   refine bQ (Option.map_eq_some_iff.mp hr) fun b hb YS=>?_;refine(looks_takesIn X hb).andThen ?_;induction b with
   |true=>cases YS
   |false=>exact .now
 rw[osa_eq,refuse_eq];refine q8 (q8 (I.type.here (q8 (hm.here ?_))));rw[MI];refine wpAny_pure (q8 (I.type.here (q8 ((looks_findIn X ha).here (q8 (L3.here ?_))))));exact h _
set_option tactic.hygienic true in
theorem Bb{name:Str}{tk:Tok}{pre post:List (Addr×Obj)}{n:Nat}{E:dQ}{Q:Fin->Shared->Prop}(F:Fr h₀ L s.heap m)(N:News h₀ L s.heap (pre++(dx,dictOf es n)::post))
  (h1:∀p∈pre,p.1≠dx) (h2:∀p∈post,p.1≠dx) (hl:(getL name es).isSome=true) (hz:(putL name (PyData.keyHash w.params name) (.str name s.toks) v es).length<=1000)
  (h:∀h',Fr h₀ L h' m->News h₀ L h' (pre++(dx,dictOf (putL name (PyData.keyHash w.params name) (.str name s.toks) v es) (putN name es n))::post)->Q (.done (.ret .none)) (St s h' (s.toks+1))):
  wpAny (model prog w) A (storeInDict dx (.str name tk) name v) Q E s:=by
 have e:Obj.putName name (PyData.keyHash w.params name) (.str name s.toks) v (dictOf es n)=dictOf (putL name (PyData.keyHash w.params name) (.str name s.toks) v es) (putN name es n):=putName_dict _ _ _ _ _ _;obtain⟨U1,U2⟩:=news_upd (f:=Obj.putName name (PyData.keyHash w.params name) (.str name s.toks) v) F N h1 h2 e rfl;have D:=(N (dx,dictOf es n) (by simp)).1;have D':=(U2 (dx,dictOf (putL name (PyData.keyHash w.params name) (.str name s.toks) v es) (putN name es n)) (by simp)).1;unfold storeInDict newKeyGuard;refine q8 (wpAny_pure (q8 ?_));unfold nsSet;refine q8 (q8 (wpAny_askSetting (wpAny_pure (q8 (wpAny_mkText (q8 (wpAny_loadPart D ?_)))))));dsimp only;have c:(!es.toArray.any (·.key.isStr name)&&es.toArray.any (·.refKey))=false:=by
  rw[←Array.any_toList,←Array.any_toList];unfold getL at hl;cases he:es.find? (·.key.isStr name) with
  |some en=>rw[List.any_eq_true.mpr ⟨en,List.mem_of_find?_eq_some he,List.find?_some he⟩];rfl
  |none=>
   rw[he] at hl;cases z:es.any (·.refKey) with
   |true=>rw[z] at hl;exact nomatch hl
   |false=>rw[Bool.and_false]
 rw[aRefKeyMayBeTheName_at,c];refine wpAny_updatePart D ?_;refine q8 (wpAny_lookBehind D' (pastItsLine_dict (by rw[v8,sizeLine_eq];exact q5 hz (by decide))) ?_);exact wpAny_pure (h _ U1 U2)
theorem Ph{t:Addr}{name:Str}{pre post:List (Addr×Obj)}{n:Nat}{E:dQ}{Q:Unit->Shared->Prop}(F:Fr h₀ L s.heap m)(kB:K.In h₀)(N:News h₀ L s.heap (pre++(dx,dictOf es n)::post))(hx:(x,dM C t (some dx))∈pre++(dx,dictOf es n)::post)
  (xs:rE K C) (ht:takerIn K C name=some none) (h1:∀p∈pre,p.1≠dx) (h2:∀p∈post,p.1≠dx) (hl:(getL name es).isSome=true) (hz:(putL name (PyData.keyHash w.params name) (.str name (s.toks+1)) v es).length<=1000)
  (h:∀h',Fr h₀ L h' m->News h₀ L h' (pre++(dx,dictOf (putL name (PyData.keyHash w.params name) (.str name (s.toks+1)) v es) (putN name es n))::post)->Q () (St s h' (s.toks+2))):
  wpAny (model prog w) A (setAttr (.ref x) name v) Q E s:=by
 have X:=kB.keeps F.keep;have I:InstAt s.heap x (dM C t (some dx)) C (some (dictOf es n)):=⟨(N _ hx).1,rfl,rfl,(N (dx,dictOf es n) (by simp)).1⟩;refine set_plain X I xs.sa (Ao (s:={s with toks:=s.toks+1}) X I xs ht fun b=>?_)
 refine DQ xs.cd fun cd hc U U PG U=>?_;refine q8 (wpAny_pure (q8 (q8 (wpAny_loadPart (N _ hx).1 (q8 (Looks.here (s:={s with toks:=s.toks+1}) (looks_clsIn X hc) ?_))))))
 rw[PG];refine wpAny_pure (a:=some dx) ?_;exact Bb (s:={s with toks:=s.toks+1}) F N h1 h2 hl hz h
theorem Jt{t:Addr}{name:Str}{E:dQ}{Q:Unit->Shared->Prop}(F:Fr h₀ L s.heap m)(kB:K.In h₀)(N:News h₀ L s.heap ((x,dM C t none)::news))(nd:∀p∈news,p.1≠x)
  (xs:rE K C) (ht:takerIn K C name=some none)
  (h:∀dx h' es n,fT es [name] [v]->(∀p∈(x,dM C t none)::news,p.1<dx)->Fr h₀ L h' m->News h₀ L h' ((dx,dictOf es n)::(x,dM C t (some dx))::news)->Q () (St s h' (s.toks+2))):
  wpAny (model prog w) A (setAttr (.ref x) name v) Q E s:=by
 have X:=kB.keeps F.keep;have hx:=(N (x,dM C t none) (.head _)).1;have I:InstAt s.heap x (dM C t none) C none:=⟨hx,rfl,rfl,trivial⟩;refine set_plain X I xs.sa (Ao (s:={s with toks:=s.toks+1}) X I xs ht fun b=>?_)
 refine DQ xs.cd fun cd hc U U PG U=>?_;refine q8 (wpAny_pure (q8 (q8 (wpAny_loadPart hx (q8 (Looks.here (s:={s with toks:=s.toks+1}) (looks_clsIn X hc) ?_))))))
 rw[PG];have MP:(s.heap.push {cls:=.type "dict",data:=.dict #[]}).get? x=some (dM C t none):=Heap.get?_push_of_some _ hx;have oH:∀p∈(x,dM C t none)::news,p.1<s.heap.objs.size:=fun p hp=>Heap.lt_size (N p hp).1;have N1:=N.push F {cls:=.type "dict",data:=.dict #[]};have F1:=F.push {cls:=.type "dict",data:=.dict #[]};have re:((s.heap.objs.size,({cls:=.type "dict",data:=.dict #[]}:Obj))::(x,dM C t none)::news)=[(s.heap.objs.size,dictOf [] 0)]++(x,dM C t none)::news:=rfl;rw[re] at N1;obtain⟨U1,U2⟩:=news_upd (f:=fun o=>{o with dict:=some s.heap.objs.size}) (o':=dM C t (some s.heap.objs.size)) F1 N1 (fun p hp=>by rw[List.mem_singleton.mp hp];exact Nat.ne_of_gt (oH _ (.head _))) nd rfl rfl
 refine q8 (wpAny_alloc' ?_);refine q8 (wpAny_update' MP ?_);refine wpAny_pure ?_;refine Bb (s:=(St s _ (s.toks+1))) (pre:=[]) (es:=[]) (n:=0) U1 U2 (fun U hp=>nomatch hp) (fun p hp=>Nat.ne_of_lt ?_) rfl (by simp[putL]) fun h' F' N'=>?_
 ·rcases s8.mp hp with rfl|hp
  ·exact oH (x,dM C t none) (.head _)
  ·exact oH p (.tail _ hp)
 ·refine h s.heap.objs.size h' _ _ ?_ oH F' N';exact .cons _ rfl .nil
end
end
section
theorem Pf{A':Around}{h₀:Heap}{L:Addr}{C t:Addr}{self:Str}(kB:g.K.In h₀)(xs:rE g.K C)(hk:scope.kind=.function)(Uj:scope.names.lookup self=some .local)(TG:(self==("__debug__":Str))=false){x:Addr}(hx:m self=some (.ref x)){news:cE}
  (nd:∀p∈(x,dM C t (some dx))::news,p.1≠dx)
  (I:kG self body l):∀{ns:List Str} {vals gW:List Value} {es:List DictEntry} {n:Nat} {s:Shared} {Q:Flow->Shared->Prop} {E:dQ},
   fT es ns vals->(∀a∈l.map (·.1),a∉ns)->(l.map (·.1)).Nodup->ns.length+l.length<=1000->(∀a∈l.map (·.1),takerIn g.K C a=some none)->(∀a∈l.map (·.2),scope.names.lookup a=some .local/\(a==("__debug__":Str))=false)->
   l.length=gW.length->(∀p∈(l.map (·.2)).zip gW,m p.1=some p.2)->
   Fr h₀ L s.heap m->News h₀ L s.heap ((dx,dictOf es n)::(x,dM C t (some dx))::news)->
   (∀yW n' h' bH,fT yW (ns++l.map (·.1)) (vals++gW)->Fr h₀ L h' m->News h₀ L h' ((dx,dictOf yW n')::(x,dM C t (some dx))::news)->Q .next (St s h' bH))->
   wpAny (model g.prog g.w) A' (execs body (envOf qual scope L f fW)) Q E s:=by
 induction I with
 |nil=>
  intro ns vals gW es n s Q E hE h1 h2 h3 h4 h5 h6 h7 F N k;induction gW with
  |cons _ _=>simp at h6
  |nil=>exact wpAny_execs_nil (k es n s.heap s.toks (by simpa using hE) F N)
 | @cons p1 p2 p3 p4 a nm b l hb ih=>
  intro ns vals gW es n s Q E hE h1 h2 h3 h4 h5 h6 h7 F N k;induction gW with
  |nil=>simp at h6
  |cons pv gW=>
   have ha:a∉ns:=h1 a (by simp);have lo:=h5 nm (by simp);have hv:m nm=some pv:=h7 (nm,pv) (by simp);refine wpAny_execs_cons (plainObj_wpAny_Assign_Attribute ?_ rfl);refine nameX_L (cl:=[]) F hv ?_ hk lo.1 lo.2;refine nameX_L (cl:=[]) F hx ?_ hk Uj TG;have Hh:=fT.snoc (hsh:=PyData.keyHash g.w.params a) (v:=pv) (t:=s.toks+1) hE ha;refine Ph (pre:=[]) F kB N (.tail _ (.head _)) xs (h4 a (by simp)) (fun U hp=>nomatch hp) nd (by rw[jI hE ha];rfl)
    (by rw[Hh.length.1];simp only[q6,List.length_cons,List.length_nil] at h3⊢;exact v9 (x7 _ _) h3) fun h' F' N'=>?_
   refine ih (s:=(St s h' (s.toks+2))) Hh (fun b zA hm=>?_) (x6.mp h2).2 (by simp only[q6,List.length_cons,List.length_nil] at h3⊢;exact q5 (r9 (Nat.add_right_comm ..)) h3) (fun b zA=>h4 b (by simp only[List.map_cons,s8];exact .inr zA)) (fun b zA=>h5 b (by simp only[List.map_cons,s8];exact .inr zA)) (Nat.succ.inj h6) (fun p hp=>h7 p (by simp only[List.map_cons,List.zip_cons_cons,s8];exact .inr hp)) F' N' fun yW n' h2 t2 e2 F2 N2=>?_
   ·rcases List.mem_append.mp hm with q|q
    ·exact h1 b (by simp only[List.map_cons,s8];exact .inr zA) q
    ·rw[List.mem_singleton.mp q] at zA;exact(x6.mp h2).1 zA
   ·exact k yW n' h2 t2 (by simpa using e2) F2 N2
theorem Vx{A':Around}{h₀:Heap}{L:Addr}{C t:Addr}{self:Str}{s:Shared}(kB:g.K.In h₀)(xs:rE g.K C)(hk:scope.kind=.function){x:Addr}(hx:m self=some (.ref x)){news:cE}(PT:∀p∈news,p.1≠x)
  (I:kG self body l) (ne:l≠[]) (tk:∀a∈l.map (·.1),takerIn g.K C a=some none) (lo:∀a∈self::l.map (·.2),scope.names.lookup a=some .local/\(a==("__debug__":Str))=false) (JI:(l.map (·.1)).Nodup) (len:l.length<=1000)
  {gW:List Value} (Wu:l.length=gW.length) (hz:∀p∈(l.map (·.2)).zip gW,m p.1=some p.2) (F:Fr h₀ L s.heap m) (N:News h₀ L s.heap ((x,dM C t none)::news)) {Q:Flow->Shared->Prop} {E:dQ}
  (k:∀dx es n h' bH,fT es (l.map (·.1)) gW->(∀p∈(x,dM C t (some dx))::news,p.1≠dx)->Fr h₀ L h' m->News h₀ L h' ((dx,dictOf es n)::(x,dM C t (some dx))::news)->Q .next (St s h' bH)):
  wpAny (model g.prog g.w) A' (execs body (envOf qual scope L f fW)) Q E s:=by
 induction I with
 |nil=>exact(ne rfl).elim
 | @cons p1 p2 p3 p4 a0 n0 bd l0 LZ _=>
  induction gW with
  |nil=>cases Wu
  |cons pv gW _=>
   refine wpAny_execs_cons (plainObj_wpAny_Assign_Attribute ?_ rfl);have WL:=lo n0 (.tail _ (.head _));have PO:=lo self (.head _);refine nameX_L (cl:=[]) F (hz (n0,pv) (.head _)) ?_ hk WL.1 WL.2;refine nameX_L (cl:=[]) F hx ?_ hk PO.1 PO.2;refine Jt F kB N PT xs (tk a0 (.head _)) fun dx h2 es n hE ME F3 N3=>?_;have PS:∀p∈(x,dM C t (some dx))::news,p.1≠dx:=fun p Jc=>(s8.mp Jc).elim (fun e=>e▸Nat.ne_of_lt (ME (x,dM C t none) (.head _))) fun Jc=>Nat.ne_of_lt (ME p (.tail _ Jc));exact Pf kB xs hk PO.1 PO.2 hx PS LZ hE (fun b zA hm=>(x6.mp JI).1 (List.mem_singleton.mp hm▸zA)) (x6.mp JI).2 (by simp only[List.length_cons,List.length_nil] at len⊢;exact q5 (r9 (v7 ..)) len) (fun b zA=>tk b (.tail _ zA))
     (fun b zA=>lo b (.tail _ (.tail _ zA))) (Nat.succ.inj Wu) (fun p Jc=>hz p (.tail _ Jc)) F3 N3 fun yW n' h3 t3 e3 F4 N4=>k dx yW n' h3 t3 e3 PS F4 N4
def Ky(g:Gl)(Cl:Addr):Prop:=∀Ω:Prop,(∀(nm q N bs bm hdct sn sub ab col dd k0 k1 k2 k3 k5 B newId jT Kz:_) (a:g.K.lookup Cl=some (excClassObj nm q Cl N bs bm hdct sn sub ab col dd k0 k1 k2 k3 k5 newId)) (b:qA B newId jT bm Kz) (c:bm.contains (.type "BaseException")=true),Ω)->Ω
theorem Ky.mk(nm q N bs bm hdct sn sub ab col dd k0 k1 k2 k3 k5 B newId jT Kz:_)(a:g.K.lookup Cl=some (excClassObj nm q Cl N bs bm hdct sn sub ab col dd k0 k1 k2 k3 k5 newId))(b:qA B newId jT bm Kz)(c:bm.contains (.type "BaseException")=true):Ky g Cl:=fun U φ=>φ nm q N bs bm hdct sn sub ab col dd k0 k1 k2 k3 k5 B newId jT Kz a b c
structure tW(g:Gl)(Cl fI:Addr)(qual:Str)(params:Arguments)(body:List Stmt)(scope:Scope)(dV fW:Value)(sf:Str)(l:List (Str×Str)):Prop where
 road:Ky g Cl
 MS:findIn g.K (.ref Cl) "__init__"=some (some (.ref fI))
 MT:typeIn g.K (.ref fI)=some (.type "function")
 kp:keepIn g.K (.ref Cl)=true
 fn:Eh g fI qual params body scope dV fW
 xs:rE g.K Cl
 init:kG sf body l
 ne:l≠[]
 tk:∀a∈l.map (·.1),takerIn g.K Cl a=some none
 loc:∀a∈sf::l.map (·.2),scope.names.lookup a=some .local/\(a==("__debug__":Str))=false
 JI:(l.map (·.1)).Nodup
 TU:(sf::l.map (·.2)).Nodup
 len:l.length<=1000
variable{D:Nat}{C:Cx}
theorem Sm{params:Arguments}{sf:Str}(co:tW g Cl fI qual params body scope dV fW sf l)(ok:iP g (D+2) C)
  {loc:aM} {s:Shared} (I:cN C ρ G fo σ m loc s.heap) {vals hO:List Value} {as:List V} (hv:cZ ρ G as hO) (hl:l.length=as.length) (Fu:vals.length<=sizeLine)
  (hb:∀(x:Addr) (s:Shared),g.K.In s.heap->∀name kV doc pm an ct,BindsTo s (fnOf name qual params body scope dV kV doc pm an fW ct) ⟨.ref x::vals,[]⟩ ((sf::l.map (·.2)).zip (.ref x::hO)))
  {Qr:dQ}
  (k:∀e dx t es n h' bH ls os,fT es (l.map (·.1)) hO->Yk ρ G σ ls->cU ρ G m loc os->Fr C.h₀ C.L h' m->News C.h₀ C.L h' ((dx,dictOf es n)::(e,dM Cl t (some dx))::(ls++(os++(fo++G))))->(((dx,dictOf es n)::(e,dM Cl t (some dx))::(ls++(os++(fo++G)))).map (·.1)).Nodup->Qr (.ref e) (St s h' bH)):
  wpAny (model g.prog g.w) C.A (call (.ref Cl) vals) Qr Er s:=by
 obtain⟨⟨ls,os,a,b,c,d⟩,F,nd⟩:=I;refine co.road _ ?_
 rintro nm q N bs bm hdct sn sub ab col dd k0 k1 k2 k3 k5 B newId jT Kz LW Y-
 have X:=ok.kB.keeps F.keep;obtain⟨hp,gg,dr,tk,o7⟩:=s;refine wpAny_call (Tn Y (X _ _ LW) (looks_findIn X co.MS) (fun self=>bind_fn X self co.MT) Fu ?_);have F1:=(F.push (vX vals)).push (dM Cl hp.objs.size none);have N1:News C.h₀ C.L ((hp.push (vX vals)).push (dM Cl hp.objs.size none)) ((hp.objs.size+1,dM Cl hp.objs.size none)::(ls++(os++(fo++G)))):=by
  have:=News.push (F.push (vX vals)) (c.pushKeep (vX vals)) (dM Cl hp.objs.size none)
  rwa [Heap.size_push] at this
 refine co.fn.lk _ fun oc od name kV doc pm an ct uI lk=>?_;have Wu:l.length=hO.length:=by rw[hl,hv.length]
 have lt:∀p∈ls++(os++(fo++G)),p.1<hp.objs.size+1:=fun p Jc=>Nat.lt_succ_of_lt (Heap.lt_size (c p Jc).1);have dep:(C.A.under (.builtin "type.__call__" ⟨.ref Cl::vals,[]⟩)).depth<recursionLimit:=by
  have:=ok.dep;show C.A.depth+1<_;exact v9 (t9 (Nat.succ_le_succ (Nat.zero_le _)) _) this
 have MQ:(sf::l.map (·.2)).length=(Value.ref (hp.objs.size+1)::hO).length:=by simp[Wu]
 refine code_def (A:=C.A.under (.builtin "type.__call__" ⟨.ref Cl::vals,[]⟩)) ok.below F1 ok.kB N1 ok.top ok.frames rfl ok.kind lk co.fn.cd dep
  (hb (hp.objs.size+1) _ (ok.kB.keeps F1.keep) name kV doc pm an ct) (fun y hy=>(co.loc _ ?_).1) (fun hq L' oV Fg F2 N2 B2 X2 T2=>?_) co.fn.co co.fn.gen co.fn.kd co.fn.cell
 ·have:=List.mem_map_of_mem (f:=(·.1)) hy
  rwa [lU MQ] at this
 ·have AN:∀p∈(sf::l.map (·.2)).zip (Value.ref (hp.objs.size+1)::hO),((sf::l.map (·.2)).zip (Value.ref (hp.objs.size+1)::hO)).reverse.lookup p.1=some p.2:=fun p Jc=>kU (by
   rw[List.map_reverse,lU MQ];exact List.pairwise_reverse.mpr (co.TU.imp fun h=>h.symm)) (List.mem_reverse.mpr Jc)
  have PT:∀p∈ls++(os++(fo++G)),p.1≠hp.objs.size+1:=fun p Jc=>Nat.ne_of_lt (lt p Jc);refine Vx X2 co.xs co.fn.kd (AN _ (.head _)) PT co.init co.ne co.tk co.loc co.JI co.len Wu (fun p Jc=>AN p (.tail _ Jc)) F2 N2 fun dx yW n' h3 t3 e3 PS F4 N4=>⟨L',_,_,F4,N4,fun kF kN=>⟨rfl,k (hp.objs.size+1) dx hp.objs.size yW n' h3 t3 ls os e3 a b kF kN ?_⟩⟩;exact x6.mpr ⟨fun hm=>(List.mem_map.mp hm).elim fun p h=>PS p h.1 h.2,x6.mpr ⟨fun hm=>(List.mem_map.mp hm).elim fun p h=>PT p h.1 h.2,d⟩⟩
end
section
variable{A:Around}{E:dQ}{env:Env}
variable{nm q:Str}{C N:Addr}{bs bm:List Value}{hdct:Bool}{sn:List Str}{sub:List Value}{ab:Bool}{col:Option Bool}{dd:Option Addr}{k0 k1 k2 k3 k5:Option Value}{newId:String}
theorem Jo{s:Shared}{x:Sem Value}{Q:Flow->Shared->Prop}(mO:bm.contains (.type "BaseException")=true)(hh:A.handled=none)
  (h:wpAny M A x (fun v gE=>∃e t d,v=.ref e/\gE.heap.get? C=some (excClassObj nm q C N bs bm hdct sn sub ab col dd k0 k1 k2 k3 k5 newId)/\
   gE.heap.get? e=some {cls:=.ref C,dict:=d,data:=.fields #[.ref t,.none,.none,.none,.bool false,.none]}/\E (.ref e) gE) E s):
  wpAny M A (raiseStmt env (some x) none) Q E s:=by
 have SD:(Value.ref C::bm).contains (.type "BaseException")=true:=by rw[List.contains_cons,mO,Bool.or_true]
 unfold raiseStmt;refine q8 (wpAny_mono h (fun v gE oV=>?_) fun U U x=>x);refine Hq oV fun e t d fE hC he hE=>?_;subst fE;obtain⟨hp,g,dr,tk,os⟩:=gE
 repeat (first|with_reducible refine wpAny_loadPart_at he ?_|with_reducible refine wpAny_loadPart_at hC ?_|(with_reducible refine wpAny_isSubtype_exc hC ?_;rw[SD])|wp_step)
 exact wpAny_raiseNew_none hh hE
end
section
variable{D:Nat}{C:Cx}
theorem iP.Og(ok:iP g D C)(F:Fr C.h₀ C.L h m):h.FunFrames C.base (C.env::C.outer):=by
 refine Xi F.ns fun oL es ep hL hd U=>?_;refine⟨?_,(Xz C.L oL rfl ?_ hL (fun vs e=>by rw[hd] at e;cases e)),ok.below.frames.of_keeps fun b o hb U=>(fG o (F.keep b o hb) rfl)⟩
 ·show C.cs.kind≠ .module;rw[ok.kind];decide
 ·cases hq:C.base.get? C.L with
  |none=>rfl
  |some o=>exact absurd (Heap.lt_size (ok.below.stays _ _ hq)) (Nat.not_lt.mpr F.above)
theorem Et.made(ok:iP g D C){loc:aM}{e t:Addr}{n:Nat}{names:List Str}{as:List V}{hO:List Value}{ls:cE}(hv:cZ ρ G as hO)(hE:fT es names hO)(a:Yk ρ G σ ls)(b:cU ρ G m loc os)(nd:(loc.map (·.1)).Nodup)
  (F:Fr C.h₀ C.L h m) (N:News C.h₀ C.L h ((dx,dictOf es n)::(e,dM Cl t (some dx))::(ls++(os++(fo++G))))) (d:(((dx,dictOf es n)::(e,dM Cl t (some dx))::(ls++(os++(fo++G)))).map (·.1)).Nodup):
  Et C ρ G fo σ m loc ⟨Cl,names,as⟩ (.ref e) h:=by
 have he:=N (e,dM Cl t (some dx)) (.tail _ (.head _));have FF:=ok.Og F;have PH:∀b∈(C.env::C.outer).filterMap (·.frame),C.base.get? b=none:=fun b hb=>(FF.mem hb).1;obtain⟨d1,d2⟩:=x6.mp d;obtain⟨d3,d4⟩:=x6.mp d2;have sub:((dx,dictOf es n)::(ls++(os++(fo++G)))).Sublist ((dx,dictOf es n)::(e,dM Cl t (some dx))::(ls++(os++(fo++G)))):=List.Sublist.cons₂ _ (List.Sublist.cons _ (.refl _));have bh:∀{b o},C.base.get? b=some o->C.h₀.get? b=some o:=fun hq=>ok.below.stays _ _ hq;refine⟨⟨e,dx,.ref t,es,n,hO,ls,os,hideAll h (e::(C.env::C.outer).filterMap (·.frame)),rfl,eH.of_get he.1 rfl,hE,hv,a,b,gP d sub,fun b o hq=>?_,fun q hq=>?_,.inr (.inr ⟨fun b o hq=>of_hideAll _ hq,hideAll_none _ (.head _),?_,_,_,he.1,rfl,rfl,rfl,rfl⟩)⟩,Heap.UpToSlots.of_keeps F.keep,F.ns,nd⟩
 ·refine hideAll_get _ (F.keep _ _ (bh hq)) fun hm=>?_
  rcases s8.mp hm with rfl|hm
  ·have:=bh hq;rw[he.2.2] at this;cases this
  ·rw[PH b hm] at hq;cases hq
 ·have hN:=N q (sub.subset hq);refine(fH (hideAll_get _ hN.1 fun hm=>?_) hN.2.2 hN.2.1)
  rcases s8.mp hm with e1|hm
  ·rcases s8.mp hq with rfl|hq
   ·exact d1 (by simp only[List.map_cons,s8];exact .inl e1)
   ·exact d3 (e1▸List.mem_map_of_mem (f:=(·.1)) hq)
  ·refine bQ (List.mem_filterMap.mp hm) fun env MF hf=>?_
   rcases s8.mp MF with rfl|MF
   ·exact hN.2.1 (Option.some.inj hf).symm
   ·refine bQ ((ok.below.frames.mem (List.mem_filterMap.mpr (fG env MF hf))).2) fun o ho U=>?_;rw[hN.2.2] at ho;cases ho
 ·exact funFrames_hide FF fun env MF b hf=>.tail _ (List.mem_filterMap.mpr (fG env MF hf))
variable{X:eZ}{loc:aM}
theorem Sa{nO:Pos}{params:Arguments}{sf:Str}{cY:List Value}{Q:eM}
  (hh:C.A.handled=Option.none) (co:tW g Cl fI qual params body scope dV fW sf l) (hD:2<=D) (hs:bA nO args C.env) (Dv:∀ρ G,cZ ρ G jF cY) (hlen:l.length=args.length+jF.length) (Wu:args.length<=1000)
  (hb:∀(vals:List Value),vals.length=args.length->∀(x:Addr) (s:Shared),g.K.In s.heap->∀name kV doc pm an ct,BindsTo s (fnOf name qual params body scope dV kV doc pm an fW ct) ⟨.ref x::vals,[]⟩ ((sf::l.map (·.2)).zip (.ref x::(vals++cY))))
  (h:EW g D C ρ X (.Name x np) loc σ (fun v l1 s=>v=.glob (.ref Cl)/\AW g D C ρ X args l1 s (fun vs l2 s=>vs.length=args.length/\X ⟨Cl,l.map (·.1),vs++jF⟩ l2 s))):
  kA g D C ρ X (.Raise (some (.Call (.Name x np) args [] nO)) none pos) loc σ Q:=by
 refine .of fun ok G fo m s I Qr Er q qe=>?_;refine co.road _ fun nm qq N bs bm hdct sn sub ab col dd k0 k1 k2 k3 k5 B newId jT Kz LW Y mO=>?_;rw[arm_exec_Raise];refine q8 (wpAny_standAt ?_);show wpAny _ _ (raiseStmt C.env (some (do let v←eval (.Call (.Name x np) args [] nO) C.env;standAt pos;pure v)) none) _ _ _;refine Jo (nm:=nm) (q:=qq) (C:=Cl) (N:=N) (bs:=bs) (hdct:=hdct) (sn:=sn) (sub:=sub) (ab:=ab) (col:=col) (dd:=dd) (k0:=k0) (k1:=k1) (k2:=k2) (k3:=k3) (k5:=k5) (newId:=newId) mO hh (q8 ?_);refine wpAny_Call_ofName (bI h ok I (qe.at) fun v dA jA G1 val h1 fN z1 z2 z3 z4 lO=>?_);obtain⟨rfl,z⟩:=z1;induction z3.out
 refine gK (first:=[]) hs co.kp ?_;refine iR z ok (s:=(St s h1 fN)) z4 lO fun vs cT lF G2 vals2 h2 iC y1 y2 y3 y4 tO=>?_;refine⟨ok.kB.keeps y4.fr.keep,?_⟩;have Fu:=y3.length;have sz:(1000:Nat)<=sizeLine:=by decide+kernel
 refine Sm (D:=D-2) co (ok.mono (r9 (Nat.sub_add_cancel hD))) (s:=(St s h2 iC)) y4 (as:=vs++jF) (hO:=vals2++cY) (y3.append (Dv ρ G2)) (by rw[hlen,q6,y1.1]) (by show vals2.length<=_;rw[Fu,y1.1];exact q5 Wu sz) (hb vals2 (by rw[Fu,y1.1])) fun e dx t es n h' bH ls os hE a b F NN d=>?_;refine q8 (wpAny_standAt (wpAny_pure (pF e t (some dx) rfl ((ok.kB.keeps F.keep) _ _ LW) ((NN (e,dM Cl t (some dx)) (.tail _ (.head _))).1) ?_)));exact qe _ cT lF G2 m (.ref e) h' bH y1.2 (z2.trans y2) (Et.made ok (y3.append (Dv ρ G2)) hE a b y4.nd F NN d)
end
section
variable{D:Nat}{C:Cx}{X:eZ}{loc:aM}
theorem Es{h₀:ExceptHandler}{hs:List ExceptHandler}{Q:eM}(h:SW g D C ρ (fun U U U=>False) body loc σ Q):kA g D C ρ X (.Try body (h₀::hs) [] [] pos) loc σ Q:=by
 refine .of fun ok G fo m s I Qr Er q qe=>?_;refine wpAny_Try_except (h.out ok G fo m s I _ _ (fun f aG bS G' m' fv h' bH z1 z2 z3 z4=>?_) (fun x aG bS G' m' ev h' bH y U U=>y.elim));induction z3 with
 |next=>exact wpAny_execs_nil (q .next aG bS G' m' _ h' bH z1 z2 .next z4)
 |brk=>exact q .brk aG bS G' m' _ h' bH z1 z2 .brk z4
 |cont=>exact q .cont aG bS G' m' _ h' bH z1 z2 .cont z4
 |ret hv=>exact q (.ret _) aG bS G' m' _ h' bH z1 z2 (.ret hv) z4
theorem dY(e:nsIn g.K mainGlobals x=some Option.none)(hv:bootBuiltins x=some v)(hn:x≠"__name__")(hx:C.cs.names.lookup x=some .globalImplicit)(hd:(x==("__debug__":Str))=false)
  (h:Q (.glob v) loc σ):EW g D C ρ X (.Name x pos) loc σ Q:=by
 refine .of fun ok G fo m s I Qr Er q _=>?_;have t:=topRead_of ok.top;exact nameX_B I.fr ok.kB t e hv hn (q _ loc σ G v s.heap s.toks h (.refl _) .glob I) ok.kind hx hd
def TM(v:V)(s:bX)(k:Int->Prop):Prop:=
 v.sel False (s:=fun x=>x.length<=sizeLine/\k x.length) (k:=∃sc,s=some sc/\sc.tokens.length<=sizeLine/\k sc.tokens.length) (l:=fun vs=>vs.length<=sizeLine/\k vs.length)
set_option tactic.hygienic true in
theorem rC(hs:bA pos [e] C.env)
  (hf:EW g D C ρ X (.Name "len" np) loc σ (fun v l s=>v=.glob (.builtin "len")/\EW g D C ρ X e l s (fun v l s=>TM v s (fun n=>Q (.int n) l s)))):
  EW g D C ρ X (.Call (.Name "len" np) [e] [] pos) loc σ Q:=by
 refine .of fun ok G fo m s I Qr Er q qe=>?_;have iX:=kQ;refine wpAny_Call_ofName (bI hf ok I qe fun v dA jA G1 val h1 fN z1 z2 z3 z4 lO=>?_);obtain⟨rfl,z⟩:=z1;induction z3.out
 refine jQ (first:=[]) hs ?_;refine spliced_cons (bI z ok (s:=(St s h1 fN)) z4 lO fun v cT lF G2 Dr h2 iC y1 y2 y3 y4 tO=>?_);refine spliced_nil ?_;have fin:∀{n t tk},Q (.int n) cT lF->Qr (.int n t) (St s h2 tk):=fun{n t tk} hq=>q (.int n) cT lF G2 _ h2 tk hq (fun p hp=>y2 p (z2 p hp)) .int y4;show wpAny (model g.prog g.w) C.A (call (.builtin "len") [Dr]) Qr Er (St s h2 iC);cases v<;>first|exact y1.elim|skip
 ·rename_i x
  induction y3.out
  obtain⟨a,b⟩:=y1;exact PyProof.Rows.len_str (Int.not_le.mpr (Int.lt_trans (Int.lt_of_le_of_lt (Int.ofNat_le.mpr a) iX) (aR rfl))) (fin b)
 ·rename_i vs
  induction y3.out with
  |lst hm hu=>
   rename_i al vals n
   obtain⟨a,b⟩:=y1;obtain⟨ls,os,_,_,c,_⟩:=y4.ex;have hl:=hu.length;refine PyProof.Rows.len_list (items:=vals.toArray) ⟨W.listOf vals.toArray n,(c (al,W.listOf vals.toArray n) (by simp[hm])).1,rfl,⟨n,rfl⟩⟩ (by rw[v8,hl];exact Int.lt_trans (Int.lt_of_le_of_lt (Int.ofNat_le.mpr a) iX) (aR rfl)) ?_;rw[show((vals.toArray.size:Nat):Int)=vs.length from by rw[v8,hl]];exact fin b
 ·induction y3.out
  refine jM y1 fun sc fE a b=>?_;subst fE;exact yV (s:=(St s h2 iC)) y4 a fun t tk=>fin b
theorem Ih{px:Pos}{iter:Expr}{Q:eM}(hh:C.A.handled=Option.none)(hx:aF C x)(ks:List (Int×V))(ka:Addr)(ko:Obj)(J:List (Int×V)->aM->bX->Prop)
  (hJ:∀r l s,J r l s->∃sc,s=some sc/\sc.keys=ks/\sc.dF=ka/\sc.kM=ko)
  (hit:EW g D C ρ X iter loc σ (fun v l s=>v=.glob (.ref ka)/\J ks l s))
  (turn:∀k v r l s,J ((k,v)::r) l s->DX g D C ρ X x (.int k) body (J r) Q l s)
  (fin:∀l s,J [] l s->Q .next l s) (pO:∀v,foldedSetIterable iter C.env v=pure v):
  kA g D C ρ X (.For (.Name x px) iter body [] pos) loc σ Q:=by
 refine .of fun ok G fo m s I Qr Er q qe=>?_;refine wpAny_For (bI hit ok I (qe.at) fun v dA jA G1 val h1 fN z1 z2 z3 z4 lO=>?_) pO;obtain⟨rfl,hj⟩:=z1;induction z3.out
 refine DP (hJ _ _ _ hj) fun IF fE e1 e2 e3=>?_;subst fE;subst e1 e2 e3;refine z4.mU _ fun pre post kvs N F s1 s2 lo hd kr zz=>?_;obtain⟨ep,ha⟩:=KdkAt.of (hd g.prog g.w);have same:∀{G' OZ bS m' aG h' r},J r aG bS->cN C ρ G' OZ bS m' aG h'->h'.get? IF.dF=some IF.kM:=fun{G' OZ bS m' aG h' r} hj I'=>by
  refine DP (hJ _ _ _ hj) fun sc fE e1 e2 e3=>?_;subst fE;refine I'.mU _ fun j1 WX Fx N' U U U U U U U=>?_;rw[←e2,←e3];exact(N' _ (q7 _ (.head _))).1
 have hlen:=kr.length;refine wpAny_pyIter_dict (knd:=intKind g.prog g.w) (s:=(St s h1 fN)) lo (ha.dictAt (same hj z4)) ?_;refine xI (len:=kvs.length) (P:=fun i=>J (IF.keys.drop i)) (IO:=fun i oI=>KdkIter oI IF.dF i kvs.length ep) (yL hx) (Cj (W:=fun U U=>True)) ok (fun U U U U U=>trivial) (q.sub z2) (qe.sub z2) ?_ hj (z4.Dc {cls:=.type "dict_keyiterator",data:=.fields #[.ref IF.dF,.int 0 0,.int kvs.length 0,.int ep 0]} rfl) ⟨rfl,rfl⟩;intro i aG bS G' m' h' bH oI hi Ft sub I' hI DB T E item stop;have Ue:=hI.at DB;have VD:=ha.dictAt (same Ft I');cases hd:IF.keys.drop i with
 |nil=>
  have MC:kvs.length<=i:=hlen▸List.drop_eq_nil_iff.mp hd;refine wpAny_pyNext_dict_end (knd:=intKind g.prog g.w) (s:=(St s h' bH)) hh Ue VD (List.getElem?_eq_none MC) fun h2 GU=>?_;rw[hd] at Ft;exact stop h2 (fin _ _ Ft) GU
 |cons kv r=>
  obtain⟨kk,v⟩:=kv;obtain⟨val,MO⟩:=kr.at i hd;refine wpAny_pyNext_dict_item (knd:=intKind g.prog g.w) (s:=(St s h' bH)) Ue VD MO fun b8 h2 SO Ug Ol=>?_;refine jM Ug fun o2 CU d1 d2=>?_;obtain⟨j7,rfl⟩:=Value.isInt_shape SO;rw[hd] at Ft;refine item (.int kk) _ h2 bH o2 (List.getElem?_eq_some_iff.mp MO).1 (.int (t:=j7)) ?_ CU ⟨d1,d2⟩ Ol;rw[show IF.keys.drop (i+1)=r by rw[←List.drop_drop,hd];rfl];exact turn kk v r aG bS Ft
end
section
variable{D:Nat}{C:Cx}{X:eZ}{loc:aM}
theorem Ot{α:Type}{a t i k k':α}{os fo G:List α}:[a,t,i,k']++(os++(fo++G))⊆a::([t,i,k].append (os++((k'::fo)++G))):=
 List.cons_subset_cons a (List.cons_subset_cons t (List.cons_subset_cons i (List.Subset.trans (List.perm_middle (l₁:=os) (l₂:=fo++G)).symm.subset (List.subset_cons_self k _))))
theorem Jj{α β:Type}(f:α->β){a a' t i k k':α}{os fo G:List α}(h:(([a,t,i,k]++(os++((k'::fo)++G))).map f).Nodup)(e:f a'=f a):(([a',t,i,k']++(os++(fo++G))).map f).Nodup:=by
 have h2:([a,t,i,k']++(os++(fo++G))).Sublist ([a,t,i,k']++(os++(fo++G))):=.refl _;have p:([a,t,i]++(os++((k'::fo)++G))).Perm ([a,t,i,k']++(os++(fo++G))):=((List.perm_middle.cons _).cons _).cons _;have s:([a,t,i]++(os++((k'::fo)++G))).Sublist ([a,t,i,k]++(os++((k'::fo)++G))):=.cons₂ _ (.cons₂ _ (.cons₂ _ (.cons _ (.refl _))));have n:=(List.Perm.nodup_iff (p.map f)).mp (h.sublist (s.map f));rw[List.cons_append,List.map_cons] at n⊢;rw[e];exact n
theorem Ij{dp:Pos}{Q:eM}(so:qT g 1048)(tk:takerIn g.K 1048 "possible_simple_keys"=some Option.none)
  (h:EW g D C ρ X o loc σ (fun u l s=>u=.self/\∃sc,s=some sc/\∀a ob,Q .next l (some {sc with keys:=[],dF:=a,kM:=ob}))):
  kA g D C ρ X (.Assign [.Attribute o "possible_simple_keys" p] (.Dict [] [] dp) pos) loc σ Q:=by
 refine .of fun ok G fo m s I Qr Er q qe=>?_;refine plainObj_wpAny_Assign_Attribute ?_ rfl;obtain⟨⟨ls,os,a,b,c,d⟩,F,nd⟩:=I;refine newDict_K F c (TopRead.nolimit (topRead_of ok.top)) fun da h1 ob F1 N1 lt lo U U hint U=>?_;have dd:=dP (oa:=ob) d lt;have pm:((da,ob)::(ls++(os++(fo++G)))).Perm (ls++(os++(((da,ob)::fo)++G))):=
  List.perm_middle.symm.trans ((List.Perm.refl ls).append List.perm_middle.symm)
 have I1:cN C ρ G ((da,ob)::fo) σ m loc h1:=⟨⟨ls,os,a,b,dU N1 fun q hq=>pm.symm.subset hq,(List.Perm.nodup_iff (pm.map _)).mp dd⟩,F1,nd⟩;refine h.out ok G ((da,ob)::fo) m {s with heap:=h1} I1 _ _ (fun v aG bS G' val h' bH z1 z2 z3 z4=>?_) (fun x aG bS G' ev h' bH y1 y2 y3=>qe x aG bS G' m ev h' bH y1 y2 y3.rL)
 obtain⟨rfl,sc,rfl,z⟩:=z1;induction z3.out
 obtain⟨⟨d7,qX,a2,b2,c2,d2⟩,F2,f9⟩:=z4;refine a2 _ ?_;clear a2
 rintro es n vals vT nT nI aK eK nK tI rfl hS hE h5 h6 h7 hV
 have IA:InstAt h' ρ.aS (instObj 1048 ρ.dS) 1048 (some (dictOf es n)):=InstAt.of_news c2 (q7 _ (q7 _ (q7 _ hS))) (.head _);have hi:aJ[19]?=some ("possible_simple_keys":Str):=rfl;have Hh:=fT.put (hsh:=PyData.keyHash g.w.params "possible_simple_keys") (key:=.str "possible_simple_keys" (bH+1)) (v:=.ref da) hE gQ hi;have gs:(getL "possible_simple_keys" es).isSome=true:=by
  refine bQ (cZ.zip (ns:=aJ) hV (v:=.glob (.ref aK)) (Mn hi rfl)) fun val m1 U=>?_;rw[mM hE gQ m1];rfl
 refine set_dict (s:=(St s h' bH)) F2 ok.kB c2 IA rfl so.fi so.po tk so.hd gs rfl (Hd d2) (by rw[Hh.length.1];decide+kernel) fun h3 F3 N3=>?_;exact q .next aG _ G' m .next h3 _ (z da ob) z2 .next ⟨⟨[(ρ.dS,dictOf (putL "possible_simple_keys" (PyData.keyHash g.w.params "possible_simple_keys") (.str "possible_simple_keys" (bH+1)) (.ref da) es) (putN "possible_simple_keys" es n)),(ρ.aT,W.listOf vT.toArray nT),(ρ.aI,W.listOf tI.toArray nI),(da,ob)],qX,
  (.mk _ _ _ vT nT nI da ob ([]) tI rfl hS Hh h5 h6 ⟨rfl,rfl,lo,qF hint,.nil⟩ (cZ.set (v:=V.glob (.ref da)) (val:=.ref da) .glob 19 hV)),b2,dU N3 Ot,Jj _ d2 rfl⟩,F3,f9⟩
end
theorem cU.unset{m':mZ}(hm:∀y,y≠x->m' y=m y){loc:aM}(u:dW x .un loc aG)(h:cU ρ G m loc os)(nd:(loc.map (·.1)).Nodup):∃vO,cU ρ G m' aG vO/\vO.Sublist os:=by
 refine Hp (h.put hm .un u nd) fun o1 o o2 fE k=>?_;subst fE;exact(fG _ k ((List.Sublist.refl o1).append (List.sublist_append_right o o2)))
noncomputable def Cx.mark(C:Cx)(h:Option Value):Cx:={C with A:=C.A.mark h}
section
variable{D:Nat}{C:Cx}{X:eZ}{loc:aM}
theorem iP.mark(ok:iP g D C)(h:Option Value):iP g D (C.mark h):=⟨ok.below,ok.kB,ok.top,ok.kind,ok.frames,ok.dep,ok.OH⟩
theorem Mj(A G:cE):Sub G (A++G):=fun U hp=>q7 _ hp
def Hn(C:Cx)(ρ:dN)(G fo:cE)(σ:bX)(m:mZ)(loc:aM)(e:Addr)(cl:Addr)(dx:Addr)(od:Obj)(h:Heap):Prop:=∀Ω:Prop,(∀(ws:Array Value) (uI:_) (I:cN (C.mark (some (.ref e))) ρ ([(e,({cls:=.ref cl,dict:=some dx,data:=.fields ws,slots:=uI}:Obj)),(dx,od)]++G) fo σ m loc h) (t:True),Ω)->Ω
theorem Hn.mk{C:Cx}{loc:aM}{e:Addr}{cl:Addr}{od:Obj}(ws:Array Value)(uI:_)(I:cN (C.mark (some (.ref e))) ρ ([(e,({cls:=.ref cl,dict:=some dx,data:=.fields ws,slots:=uI}:Obj)),(dx,od)]++G) fo σ m loc h)(t:True):Hn C ρ G fo σ m loc e cl dx od h:=fun U φ=>φ ws uI I t
theorem FL{ls:cE}{e cl:Addr}{od:Obj}{a0:Value}{B:Heap}(mO:C.base=C.h₀)(hB:C.base.StaysIn B)(fl:Heap.FlyingW B (C.env::C.outer) e (.ref cl) a0 h)(hd:eH e (some dx) h)
  (hs:Yk ρ G σ ls) (hl:cU ρ G m loc os) (nd:(loc.map (·.1)).Nodup) (hq:∀q∈(dx,od)::(ls++(os++(fo++G))),B.get? q.1=some q.2/\C.h₀.get? q.1=none/\q.1≠C.L) (Lp:(((dx,od)::(ls++(os++(fo++G)))).map (·.1)).Nodup) (F:Fr C.h₀ C.L h m):
  Hn C ρ G fo σ m loc e cl dx od h:=by
 refine Xh fl.first fun oe ws SX SY GV U=>?_;have MA:oe.dict=some dx:=hd.get SX;have eo:oe={cls:=.ref cl,dict:=some dx,data:=.fields ws,slots:=oe.slots}:=by rw[←SY,←MA,←GV]
 have LL:C.h₀.get? e=none:=by
  cases hz:C.h₀.get? e with
  |none=>rfl
  |some o=>have:=hB e o (mO▸hz);rw[fl.2.1] at this;cases this
 have eL:e≠C.L:=fun z=>by
  refine Xi F.ns fun oL yW ep hL YY U=>?_;rw[←z,SX] at hL;cases hL;rw[YY] at GV;cases GV
 refine(.mk ws oe.slots (cN.more (C:=C.mark (some (.ref e))) (ad:=[_,_]) hs hl nd (fun p hp=>?_) ?_ F) trivial)
 ·rcases s8.mp hp with rfl|hp
  ·exact(fH (eo▸SX) eL LL)
  ·have:=hq p hp;exact(fH (fl.1 _ _ this.1) this.2.2 this.2.1)
 ·refine x6.mpr ⟨fun hm=>?_,Lp⟩;refine bQ (List.mem_map.mp hm) fun p TB ZN=>?_;have:=(hq p TB).1;rw[ZN,fl.2.1] at this;cases this
theorem cN.unset{G fo:cE}{m:mZ}{l l':aM}{n:Str}{hv:Option Value}{h5 h6 h7:Heap}{u:Option Value}(I:cN (C.mark hv) ρ G fo σ m l h5)(u3:dW n .un l l')(n6:h6.Ns C.L (sU m n .none))(s6:Heap.SameBut C.L h5 h6)(n7:h7.Ns C.L (fun x=>if x=n then u else sU m n .none x))(s7:Heap.SameBut C.L h6 h7):
  cN C ρ G fo σ (fun x=>if x=n then u else sU m n .none x) l' h7:=by
 obtain⟨⟨ls,os,a,b,c,d⟩,F,nd⟩:=I;obtain⟨WV,b7,sb⟩:=cU.unset (m':=fun y=>if y=n then u else sU m n .none y) (fun y hy=>by rw[if_neg hy];exact if_neg hy) u3 b nd;have sl:(ls++(WV++(fo++G))).Sublist (ls++(os++(fo++G))):=(List.Sublist.refl _).append (sb.append (.refl _));exact⟨⟨ls,WV,a,b7,dU ((c.set s6).set s7) sl.subset,gP d sl⟩,(F.set n6 s6).set n7 s7,by rw[u3.names];exact nd⟩
def Si(n:Str)(Q:eM)(f:Fl)(l:aM)(s:bX):Prop:=∀Ω:Prop,(∀(hf:f=.next) (l3:aM) (u:dW n .un l l3) (h:Q .next l3 s),Ω)->Ω
theorem Si.mk{n:Str}{Q:eM}{f:Fl}{l:aM}{s:bX}(hf:f=.next)(l3:aM)(u:dW n .un l l3)(h:Q .next l3 s):Si n Q f l s:=fun U φ=>φ hf l3 u h
theorem Ke{n:Str}{hv:Option Value}{qZ:List Stmt}{Q:eM}(ok:iP g D C)(hn:aF C n)(h:SW g D (C.mark hv) ρ (fun U U U=>False) qZ loc σ (Si n Q))(qP:iP g D (C.mark hv)){s:Shared}{h1:Heap}{t1:Tok}(I:cN (C.mark hv) ρ G fo σ m loc h1){Qr:Flow->Shared->Prop}{E E':dQ}(q:Ru C ρ G fo s Q Qr):
  wpAny (model g.prog g.w) (C.mark hv).A (execs qZ C.env) (fun r s'=>wpAny (model g.prog g.w) C.A (bindName C.env n .none>>=fun U=>unbindBehindTheSuite C.env n pos) (fun U j4=>Qr r j4) E s') E' (St s h1 t1):=by
 refine h.out qP _ fo _ (St s h1 t1) I _ _ (fun f l2 s2 G3 m3 fv h5 US w1 w2 w3 w4=>?_) (fun U U U U U U U U y U U=>y.elim);refine w1 _ fun hf l3 u3 w=>?_;subst hf;induction w3.out
 have WS:(C.cs.kind==.class||(C.cs.kind==.module&&C.L !=mainGlobals))=false:=by rw[ok.kind];rfl
 refine q8 (wpAny_bindName (wpAny_storeName_local (s:=St s h5 US) hn.1 w4.fr.ns (fun h6 WB ZO=>?_) WS));unfold unbindBehindTheSuite;refine wpAny_onRaise (wpAny_unbindName_local (m:=sU m3 n .none) (v:=.none) hn.1 WB (if_pos rfl) WS fun h7 u ZI ZP=>?_);exact q .next l3 s2 G3 _ .next h7 _ w w2 .next (cN.unset w4 u3 WB ZO ZI ZP)
def Ym(g:Gl)(D:Nat)(C:Cx)(ρ:dN)(n:Str)(Cl:Addr)(qZ:List Stmt)(Q:eM)(x:yO)(l:aM)(s:bX):Prop:=∀Ω:Prop,(∀(hc:x.cls=Cl) (l1:aM) (u:dW n (.val (.inst Cl x.ns x.vs)) l l1) (h:∀hv,SW g D (C.mark hv) ρ (fun U U U=>False) qZ l1 s (Si n Q)),Ω)->Ω
theorem Ym.mk{D:Nat}{C:Cx}{n:Str}{qZ:List Stmt}{Q:eM}{x:yO}{l:aM}{s:bX}(hc:x.cls=Cl)(l1:aM)(u:dW n (.val (.inst Cl x.ns x.vs)) l l1)(h:∀hv,SW g D (C.mark hv) ρ (fun U U U=>False) qZ l1 s (Si n Q)):Ym g D C ρ n Cl qZ Q x l s:=fun U φ=>φ hc l1 u h
theorem Yj{n:Str}{TF:Pos}{Yq:Stmt}{qZ:List Stmt}{params:Arguments}{CW:List Stmt}{sf:Str}{Q:eM}(mO:C.base=C.h₀)
  (co:tW g Cl fI qual params CW scope dV fW sf l) (ex:nsIn g.K mainGlobals x=some (some (.ref Cl))) (hx:C.cs.names.lookup x=some .globalImplicit) (hd:(x==("__debug__":Str))=false) (hn:aF C n)
  (h:SW g D C ρ (Ym g D C ρ n Cl (Yq::qZ) Q) body loc σ Q):
  kA g D C ρ X (.Try body [.ExceptHandler (some (.Name x np)) (some n) (Yq::qZ) TF] [] [] pos) loc σ Q:=by
 refine .of fun ok G fo m s I Qr Er q qe=>?_;have above:=I.fr.above;refine wpAny_Try_except (h.out ok G fo m s I _ _ (fun f aG bS G' m' fv h' bH z1 z2 z3 z4=>?_) (fun x' aG bS G' m' ev h' bH y1 y2 y3=>?_))
 ·induction z3 with
  |next=>exact wpAny_execs_nil (q .next aG bS G' m' _ h' bH z1 z2 .next z4)
  |brk=>exact q .brk aG bS G' m' _ h' bH z1 z2 .brk z4
  |cont=>exact q .cont aG bS G' m' _ h' bH z1 z2 .cont z4
  |ret hv=>exact q (.ret _) aG bS G' m' _ h' bH z1 z2 (.ret hv) z4
 ·refine y1 _ fun AA l1 u1 HA=>?_;obtain⟨⟨e,dx,a0,es,n',vals,ls,os,B,rfl,YZ,he,hv,hs,Lo,Lp,hB,hq,fl⟩,up,ns,Mb⟩:=y3;rw[AA] at fl;refine co.road _ fun nm qq N bs bm hdct sn sub ab col dd k0 k1 k2 k3 k5 Bt newId jT Kz LW Y GS=>?_;refine jL (s:=St s h' bH) (P:=Bp B (C.env::C.outer) e C.L (.ref Cl) a0 h') (mR _ _) YZ (fun k=>xZ (L:=C.L) ok.frames rfl fl fun h1 a b=>k h1 ⟨a,b⟩) fun h1 p1 vN=>?_;refine jL (s:=St s h1 bH) (P:=Bo B (C.env::C.outer) e (.ref Cl) a0 h1) (jZ _ _) vN (fun k=>wpAny_landsW (s:=St s h1 bH) p1.1 fun h2 a b=>k h2 ⟨a,b⟩) fun h2 p2 hd2=>?_;have F2:Fr C.h₀ C.L h2 m':=⟨p2.2.ns (p1.2.ns ns),fun b o hb=>p2.1.1 _ _ (hB _ _ (mO▸hb)),above⟩;refine bQ p2.1.there fun ob ZK SV=>?_;refine wpAny_handleBy_cons (codeAny_handlers_test (nameX_K (s:=(St s h2 bH)) F2 ok.kB (topRead_of ok.top) ex ?_ ok.kind hx hd)) (fun q=>nomatch q)
  refine wpAny_excMatches_sub_self ((ok.kB.keeps F2.keep) _ _ LW) ZK SV GS (codeAny_handlers_suite_as ?_);refine jL (s:=St s h2 bH) (P:=Bo B (C.env::C.outer) e (.ref Cl) a0 h2) (jZ _ _) hd2 (fun k=>lands_againW (s:=St s h2 bH) p2.1 fun h3 a b=>k h3 ⟨a,b⟩) fun h3 p3 YW=>?_;refine(FL (ρ:=ρ) (m:=m') mO hB p3.1 YW hs Lo Mb hq Lp ⟨p3.2.ns F2.ns,fun b o hb=>p3.1.1 _ _ (hB _ _ (mO▸hb)),above⟩) _ fun ws uI I3 U=>?_;refine gI (ok.mark (some (.ref e))) hn.1 (s:=St s h3 bH) I3 (.Ir (.head _) (.tail _ (.head _)) he (hv.mono (Mj _ _))) u1 fun h4 IK I4=>?_;exact Ke ok hn (HA (some (.ref e))) (ok.mark _) I4 (q.sub (y2.trans (Mj _ _)))
end
section
open PySem.Builtin PySem.Builtin.Str
section
variable{prog:Program}{w:World}{A:Around}{E:dQ}{s:Shared}
theorem Jr{b:Nat}{t:Tok}{Q:dQ}(hx:(reprText x).length<=sizeLine)(h:Q (.str (reprText x) s.toks) {s with toks:=s.toks+1}):wpAny (model prog w) A (pyReprObjUnder b (.str x t)) Q E s:=by
 unfold pyReprObjUnder pyReprObjBy;refine q8 (show wpAny _ _ (Pure.pure ()) _ _ _ from wpAny_pure ?_);refine q8 (wpAny_specialOf (name:=Str.ofString "__repr__") (typeIs_str s x t) PySem.F.slot_str_repr.lookup ?_);refine q8 (wpAny_callSpecialIfBoundBy?_slotG (name:=Str.ofString "__repr__") (id:="str.__repr__") (typeIs_str s x t) PySem.F.slot_str_repr.toG ?_);have e:reprUnder? (.builtin "str.__repr__")=none:=by decide+kernel
 rw[e];show wpAny _ _ (call (.builtin "str.__repr__") [.str x t]) _ _ _;refine call_gives PySem.F.slot_str_repr (typeIs_str s x t) PySem.F.entry_str_repr (PySem.F.args_str_repr_1 _) (gives_str_repr x t) ⟨hx,?_⟩;exact q8 (wpAny_isInstance (T:="str") (b:=true) rfl isSubtype_str_str (wpAny_pure h))
end
end
section
variable{D:Nat}{C:Cx}{X:eZ}{loc:aM}
theorem qK.fst{ks:List (Int×V)}(h:qK ρ G kvs ks):kvs.map (·.1)=ks.map (·.1):=by
 induction h with
 |nil=>rfl
 |cons _ _ ih=>exact congrArg (_:: ·) ih
theorem Un{prog:Program}{w:World}{vs:List Value}(hl:vs.length=kvs.length)(h:∀(j:Nat) v,vs[j]?=some v->∃k x,kvs[j]?=some (k,x)/\(intKind prog w).is k v=true):cZ ρ G ((kvs.map (·.1)).map V.int) vs:=by
 induction kvs generalizing vs with
 |nil=>
  induction vs with
  |nil=>exact .nil
  |cons _ _=>cases hl
 |cons p kvs ih=>
  induction vs with
  |nil=>cases hl
  |cons v vs=>
   refine Mr (h 0 v rfl) fun k' x' e hk=>?_;cases e;obtain⟨t,rfl⟩:=Value.isInt_shape hk;exact .cons .int (ih (Nat.succ.inj hl) fun j v hv=>h (j+1) v hv)
theorem uB{id:String}{first:List Value}{Q:dQ}{E:dQ}{s:Shared}(hs:bA pos args C.env)
  (h:wpAny (model g.prog g.w) C.A (spliced (args.map fun e=>(false,eval e C.env))) (fun vals gE=>wpAny (model g.prog g.w) C.A (call (.type id) (first++vals)) Q E gE) E s):
  wpAny (model g.prog g.w) C.A (callWith pos (.type id) first (backTo pos (starEach args C.env)) []) Q E s:=by
 have hs:=hs.eq;rw[hs];refine callWith_of (P:=fun U=>True) ?_ (fun h U=>⟨.machine,.inr (.inl rfl),Looks.of_pure rfl⟩) ?_
 ·induction args with
  |nil=>rfl
  |cons e r ih=>simp[List.any_map,Function.comp_def]
 ·induction args with
  |nil=>
   unfold evalArgs;show wpAny _ _ (spliced []>>=_) _ _ _;refine q8 (wpAny_mono h (fun vs gE z=>?_) fun U U z=>z);refine q8 (wpAny_pure ?_);refine wpAny_holding ?_;simp only[List.all_nil,if_true,List.map_nil,List.filterMap_nil];refine q8 (wpAny_evalAll_nil ?_);exact q8 (wpAny_pure (wpAny_pure ⟨trivial,z⟩))
  |cons e r=>exact evalArgs_plain (wpAny_mono h (fun U U z=>⟨trivial,z⟩) fun U U z=>z)
theorem Ee(hh:C.A.handled=Option.none)(hs:bA pos [e] C.env)
  (hf:EW g D C ρ X (.Name "list" np) loc σ (fun v l s=>v=.glob (.type "list")/\EW g D C ρ X e l s (fun v l s=>∃sc,s=some sc/\v=.glob (.ref sc.dF)/\sc.keys.length<=sizeLine/\Q (.lst ((sc.keys.map (·.1)).map V.int)) l s))):
  EW g D C ρ X (.Call (.Name "list" np) [e] [] pos) loc σ Q:=by
 refine .of fun ok G fo m s I Qr Er q qe=>?_;refine wpAny_Call_ofName (bI hf ok I qe fun v dA jA G1 val h1 fN z1 z2 z3 z4 lO=>?_);obtain⟨rfl,z⟩:=z1;induction z3.out
 refine uB (first:=[]) hs ?_;refine spliced_cons (bI z ok (s:=(St s h1 fN)) z4 lO fun v cT lF G2 Dr h2 iC y1 y2 y3 y4 tO=>?_);refine spliced_nil ?_;refine DP y1 fun sc fE qR hz hq=>?_;subst fE qR;induction y3.out
 have m5:=y4;obtain⟨⟨ls,os,a,b,c,d⟩,F,nd⟩:=m5;refine y4.mU _ fun pre post kvs N F' s1 s2 lo hd kr zz=>?_;obtain⟨ep,ha⟩:=KdkAt.of (hd g.prog g.w);have YR:=ha.dictAt (N _ (q7 _ (.head _))).1;have hl:=kr.length;show wpAny (model g.prog g.w) C.A (call (.type "list") [.ref sc.dF]) Qr Er (St s h2 iC);refine kdl_N (s:=(St s h2 iC)) (kdl_dict (knd:=intKind g.prog g.w) (kvs:=kvs) (ep:=ep) lo) hh F c YR (by rw[hl];exact hz) fun B n h' tk vs F2 N2 l1 Fu hv=>?_;have uY:cZ ρ G2 ((sc.keys.map (·.1)).map V.int) vs:=by
  rw[←kr.fst];exact Un Fu hv
 have dd:=dP (oa:=W.listOf vs.toArray n) d l1;have k1:∀p∈G2,p∈[(B,W.listOf vs.toArray n)]++G2:=fun p hp=>.tail _ hp;exact q _ cT _ ([(B,W.listOf vs.toArray n)]++G2) _ h' _ hq (fun p hp=>k1 p (y2 p (z2 p hp))) (.lst (.head _) (uY.mono k1)) (cN.more a b nd N2 dd F2)
theorem wH(h:EW g D C ρ X e loc σ (fun v l s=>∃i,v=.int i/\Q (.int (-i)) l s)):EW g D C ρ X (.UnaryOp .USub e pos) loc σ Q:=by
 refine .of fun ok G fo m s I Qr Er q qe=>?_;refine wpAny_UnaryOp (bI h ok I qe fun v dA jA G1 val h1 fN z1 z2 z3 z4 lO=>?_);refine bQ z1 fun i fE hq=>?_;subst fE;induction z3.out
 exact PyProof.Rows.neg_int (q _ dA jA G1 _ h1 _ hq z2 .int z4)
noncomputable def Vl:Option Int->V
 |none=>.none
 |some i=>.int i
theorem Qt{l r:Expr}{Q:nX}(hm:behindInMarks .Eq r=false)
  (h:EW g D C ρ X l loc σ (fun a dA jA=>EW g D C ρ X r dA jA (fun b cT lF=>∃m j,a=Vl m/\b=.int j/\Q (m==some j) cT lF))):
  BW g D C ρ X (.Compare l [.Eq] [r] pos) loc σ Q:=by
 refine Qs hm (h.mono fun a l1 s1 q=>q.mono fun b l2 s2 q=>?_);obtain⟨m,j,rfl,rfl,q⟩:=q;intro G s av bv ha hb T E k;induction hb.out
 induction m with
 |none=>induction ha.out;exact PySem.EqNone.eq_none_int (k _ s.toks q)
 |some i=>induction ha.out;exact PyProof.Rows.eq_int (k _ s.toks q)
theorem Bf{l:Expr}{kk:Nat}{Q:nX}
  (h:EW g D C ρ X l loc σ (fun a dA jA=>∃m,a=Vl m/\Q m.isNone dA jA)):
  BW g D C ρ X (.Compare l [.Is] [.Constant .none kk cp] pos) loc σ Q:=by
 refine aL rfl (h.mono fun a l1 s1 q=>?_);refine bQ q ?_;try clear q;intro m fE q;subst fE;refine bT ?_;induction m with
 |none=>exact q
 |some i=>exact q
end
section
set_option maxHeartbeats 1000000
def Rt(F:Str):Prop:=∀(prog:Program) (w:World) (A:Around) (E:dQ) (s:Shared) (y:Str) (t u:Tok) (Q:dQ),y.length<=100->(∀c∈y.cps.toList,c<16 ^ 8)->(∀T t' k,Q (.str T t') {s with toks:=k})->wpAny (model prog w) A (binaryOp .Mod (.str F t) (.str y u)) Q E s
theorem Me{z:Str}(h:z.length<=100/\∀c∈z.cps.toList,c<16 ^ 8):(PySem.reprText z).length<=1002:=by
 have:=StrLaws.reprText_len z h.2;exact q5 this (Nat.add_le_add_right (Nat.mul_le_mul_left 10 h.1) 2)
theorem Vt{z:Str}(h:z.length<=100/\∀c∈z.cps.toList,c<16 ^ 8):(PySem.reprText z).length<=sizeLine:=q5 (Me h) (by decide+kernel)
theorem AY{c:Prop}[Decidable c]{t:Tok}:KPc.Obj (if c then some (.str x t) else Option.none) x:=fun v e=>by
 by_cases hc:c
 ·rw[if_pos hc] at e;exact⟨t,(Option.some.inj e).symm⟩
 ·rw[if_neg hc] at e;cases e
theorem IQ{A:Around}{E:dQ}{s:Shared}{β:Type}{l:List Nat}{b:β}{g:Nat->β->Sem (ForInStep β)}{Q:β->Shared->Prop}(P:(Nat->β->Sem (ForInStep β))->Prop)(hp:P g)(h:∀f,P f->wpAny M A (forIn l b f) Q E s):wpAny M A (forIn l b g) Q E s:=h g hp
theorem AR{l1 l2:List Nat}(n:Nat)(h1:(l1++37::114::l2).span (· !=37)=(l1,37::114::l2))(e1:l1.isEmpty=false)(e2:l2.isEmpty=false)(h2:l2.span (· !=37)=(l2,[]))(hn:(l1++37::114::l2).length=n+4)(hs:l1.length+1002+l2.length<=16777216)(n1:l1.length≠n+4)(n2:l2.length≠n+4){F:Str}(eF:F=⟨(l1++37::114::l2).toArray⟩){prog:Program}{w:World}{A:Around}{E:dQ}{s:Shared}{t u:Tok}{Q:dQ}(hy:y.length<=100)(IZ:∀c∈y.cps.toList,c<16 ^ 8)(k:∀T t' k,Q (.str T t') {s with toks:=k}):wpAny (model prog w) A (binaryOp .Mod (.str F t) (.str y u)) Q E s:=by
 subst eF;refine binaryOp_meets (T:="str") (op:=.Mod) (typeIs_str s _ t) (typeIs_str s y u) PySem.F.fills_str_mod PySem.F.slot_str_mod PySem.F.entry_str_mod (PySem.F.args_str_mod_2 _ _) (S:=(fun U R s=>∀t' k,R (.ok (.ret (.str (⟨l1.toArray⟩++PySem.reprText y++⟨l2.toArray⟩) t'))) {s with toks:=k})) ?_ (fun t' k'=>⟨(fun e=>nomatch e),k _ t' k'⟩)
 apply KPc.meets_of
 intro prog w0 A s Q E hq;rw[KPc.entry_is_s];unfold Builtin.Str.percentFormat;refine q8 (wpAny_isInstance (typeIs_str _ _ _) F.sub_str_tuple ?_);refine q8 (wpAny_of_eq (a:=some _) rfl ?_);refine q8 (KPc.wp_fills_str ?_);intro b;refine q8 (wpAny_pure ?_);refine q8 ?_;rw[KPc.range_list];have hlen:(⟨(l1++37::114::l2).toArray⟩:Str).length=n+4:=by rw[←hn];rfl
 rw[hlen];have PK:(l1++37::114::l2).isEmpty=false:=by cases l1<;>rfl
 refine IQ (fun f=>(∀x p w r l t' N T (Q':ForInStep (List Value×Builtin.Str.Writer×List Nat)->Shared->Prop) s,KPc.Good w T N->N<=16777216->r.isEmpty=false->r.span (· !=37)=(l,t')->l.isEmpty=false->l.length≠n+4->Q' (.yield (p,w.add ⟨l.toArray⟩ Option.none,t')) s->wpAny (model prog w0) A (f x (p,w,r)) Q' E s)/\(∀x p w N T (Q':ForInStep (List Value×Builtin.Str.Writer×List Nat)->Shared->Prop) s,KPc.Good w T N->N<=16777216->Q' (.done (p,w,[])) s->wpAny (model prog w0) A (f x (p,w,[])) Q' E s)/\(∀x w N T r (Q':ForInStep (List Value×Builtin.Str.Writer×List Nat)->Shared->Prop) s,KPc.Good w T N->N<=16777216->(∀o k,(PySem.reprText y).length<=1002->KPc.Obj o (PySem.reprText y)->Q' (.yield ([],w.add ⟨(PySem.reprText y).cps.toList.toArray⟩ o,r)) {s with toks:=k})->wpAny (model prog w0) A (f x ([.str y u],w,37::114::r)) Q' E s)) ⟨?_,?_,?_⟩ fun f hP=>?_
 ·intro x p w r l t' N T Q' s g hN h1 h2 h3 h4 h;refine wpAny_ite (KPc.ite_no (KPc.short_good g hN) ?_);refine wpAny_ite (KPc.ite_no (by rw[h1];decide) ?_);rw[h2];refine wpAny_ite (KPc.ite_yes (by rw[h3];decide) ?_);rw[if_neg (by rw[beq_iff_eq];exact h4)];exact wpAny_pure h
 ·intro x p w N T Q' s g hN h;refine wpAny_ite (KPc.ite_no (KPc.short_good g hN) ?_);exact wpAny_pure h
 ·intro x w N T r Q' s g hN h;refine wpAny_ite (KPc.ite_no (KPc.short_good g hN) ?_);refine q8 (wpAny_holding (q8 (Jr (Vt ⟨hy,IZ⟩) ?_)));exact q8 (wpAny_of_eq (a:=some _) rfl (wpAny_pure (wpAny_pure (h _ _ (Me ⟨hy,IZ⟩) AY))))
 obtain⟨lit,fin,XY⟩:=hP;refine KPc.start fun wa ga=>KPc.turn (lit _ _ _ _ _ _ _ _ _ _ ga (aR rfl) PK h1 e1 n1 ?_);refine KPc.after_add0 ga rfl (KPc.obj_none rfl) fun wb gb=>KPc.turn (XY _ _ _ _ _ _ _ gb (by show 0+l1.length<=_;rw[Nat.zero_add];exact q5 (x7 _ 1002) (q5 (x7 _ _) hs)) fun o k hz ho=>?_);refine KPc.after_str gb hz ho fun wc gc=>?_;have hl:0+(⟨l1.toArray⟩:Str).length+1002<=16777216:=by show 0+l1.length+1002<=_;rw[Nat.zero_add];exact q5 (x7 _ _) hs
 have Hj:0+(⟨l1.toArray⟩:Str).length+1002+(⟨l2.toArray⟩:Str).length<=16777216:=by show 0+l1.length+1002+l2.length<=_;rw[Nat.zero_add];exact hs
 refine KPc.turn (lit _ _ _ _ _ _ _ _ _ _ gc hl e2 h2 e2 n2 ?_);exact KPc.after_add gc rfl (KPc.obj_none rfl) fun wd gd=>KPc.turn (fin _ _ _ _ _ _ _ gd Hj (KPc.finish_ok gd Hj rfl hq))
theorem HN:Rt ("found character %r that cannot start any token":Str):=fun U U U U U U U U U hy hc k=>
 AR (l1:=[102,111,117,110,100,32,99,104,97,114,97,99,116,101,114,32]) (l2:=[32,116,104,97,116,32,99,97,110,110,111,116,32,115,116,97,114,116,32,97,110,121,32,116,111,107,101,110]) 42 rfl rfl rfl rfl rfl (aR rfl) (aR rfl) (aR rfl) (by decide+kernel) hy hc k
section
variable{D:Nat}{C:Cx}{X:eZ}{loc:aM}
theorem Xo{l r:Expr}(h:EW g D C ρ X l loc σ (fun a dA jA=>EW g D C ρ X r dA jA (fun b cT lF=>∃F y,a=.str F/\b=.str y/\Rt F/\y.length<=100/\(∀c∈y.cps.toList,c<16 ^ 8)/\Q .Cr cT lF))):
  EW g D C ρ X (.BinOp l .Mod r pos) loc σ Q:=by
 refine nY (h.mono fun a l1 s1 z=>z.mono fun b l2 s2 z=>?_);obtain⟨F,y,rfl,rfl,hF,hy,hc,z⟩:=z;intro G s av bv ha hb T E k;induction ha.out;induction hb.out
 exact hF _ _ _ _ _ _ _ _ _ hy hc fun T' t' tk=>k .Cr _ tk z .Cr
end
end
noncomputable def V.flat(v:V):Bool:=v.sel false true (fun U=>true) (fun U=>true) (fun U=>true) (fun U=>true)
noncomputable def LV.flat:LV->Bool
 |.un=>true
 |.val v=>v.flat
 |.ml _=>false
theorem VR.flat{v:V}{val:Value}(h:VR ρ G v val)(hf:v.flat=true):VR ρ' G' v val:=by
 cases v with
 |none=>induction h.out;exact .none
 |bool b=>induction h.out;exact .bool
 |int i=>induction h.out;exact .int
 |str s=>induction h.out;exact .str
 |glob v=>induction h.out;exact .glob
 |_=>exact(Bool.false_ne_true hf).elim
set_option tactic.hygienic true in
theorem cU.flat{ρ ρ':dN}{G G':cE}{m:mZ}{loc:aM}{os:cE}(h:cU ρ G m loc os)(hf:(loc.all fun p=>p.2.flat)=true):os=[]/\cU ρ' G' m loc []:=by
 induction h with
 |nil=>exact⟨rfl,.nil⟩
 | @cons x lv r o os h _ ih=>
  obtain⟨h1,h2⟩:=(q9 _ _).mp hf;obtain⟨e,k⟩:=ih h2;subst e;cases lv with
  |un=>induction h.out;exact⟨rfl,.un k⟩
  |val v=>induction h.out with|val a b=>exact⟨rfl,.val a (b.flat h1) k⟩
  |ml _=>exact(Bool.false_ne_true h1).elim
theorem LB(h₀ h:Heap)(L:Addr):∀own:cE,News h₀ L h own->∃yC:cE,(∀p∈yC,p∈own)/\(∀p∈own,p∈yC)/\(yC.map (·.1)).Nodup:=by
 intro eN;induction eN with
 |nil=>
  intro _;exact(tS ([]) (fun U h=>h) (fun U h=>h) (by simp))
 |cons p own ih=>
  intro N;refine jM (ih fun q hq=>N q (.tail _ hq)) fun yC a b c=>?_
  by_cases hp:p.1∈yC.map (·.1)
  ·refine(tS yC (fun q hq=>.tail _ (a q hq)) (fun q hq=>?_) c)
   rcases s8.mp hq with rfl|hq
   ·refine bQ (List.mem_map.mp hp) fun r hr e=>?_;have h1:=(N r (.tail _ (a r hr))).1;have h2:=(N q (.head _)).1;rw[e,h2] at h1;have:r=q:=Prod.ext e (Option.some.inj h1).symm;exact this▸hr
   ·exact b q hq
  ·refine(tS (p::yC) (fun q hq=>?_) (fun q hq=>?_) (x6.mpr ⟨hp,c⟩))
   ·rcases s8.mp hq with rfl|hq
    ·exact .head _
    ·exact .tail _ (a q hq)
   ·rcases s8.mp hq with rfl|hq
    ·exact .head _
    ·exact .tail _ (b q hq)
theorem EW.DA{D:Nat}{C:Cx}{X X':eZ}{loc:aM}(h:EW g D C ρ X e loc σ Q)(k:∀x l s,X x l s->X' x l s):EW g D C ρ X' e loc σ Q:=by
 refine .of fun ok G fo m s I Qr Er q qe=>?_;exact h.out ok G fo m s I Qr Er q fun x l' s' G' ev h' bH z=>qe x l' s' G' ev h' bH (k _ _ _ z)
section
variable{D:Nat}{C:Cx}{X:eZ}{loc:aM}
set_option tactic.hygienic true in
theorem Ig{xi xc:Str}{pk pv pt nO:Pos}{x1:Nat}{Q:eM}(hh:C.A.handled=Option.none)(hi:aF C xi)(hc:aF C xc)(Ui:C.cs.kind=.function)(hs:bA nO [e] C.env)(x:Str)(J:Nat->aM->Prop)
  (CS:∀i l,J i l->(l.all fun p=>p.2.flat)=true)
  (hit:EW g D C ρ (fun U U U=>False) (.Name "enumerate" np) loc none (fun v l s=>v=.glob (.type "enumerate")/\EW g D C ρ (fun U U U=>False) e l s (fun v l s=>v=.str x/\s=none/\J 0 l)))
  (turn:∀i c l,x.cps[i]?=some c->J i l->∃l1 l2,dW xi (.val (.int i)) l l1/\dW xc (.val (.str ⟨#[c]⟩)) l1 l2/\SW g D C ρ (fun U U U=>False) body l2 none (fun f l3 s=>f=.next/\s=none/\J (i+1) l3))
  (fin:∀l,J x.length l->Q .next l none) (pO:∀v,foldedSetIterable (.Call (.Name "enumerate" np) [e] [] nO) C.env v=pure v) (hp:(C.env.scope.kind==.class||(C.env.scope.kind==.module&&C.env.locals !=C.env.globals))=false):
  kA g D C ρ (fun U U U=>False) (.For (.Tuple [.Name xi pk,.Name xc pv] x1 pt) (.Call (.Name "enumerate" np) [e] [] nO) body [] pos) loc none Q:=by
 refine .of fun ok G fo m s I Qr Er q qe=>?_;have hE:PassesOwn (model g.prog g.w) C.A C.env (fun U U=>False):=by passes_own
 suffices h:wpAny (model g.prog g.w) C.A (exec (.For (.Tuple [.Name xi pk,.Name xc pv] x1 pt) (.Call (.Name "enumerate" np) [e] [] nO) body [] pos) C.env) Qr (fun U U=>False) s from wpAny_mono h (fun U U z=>z) fun U U z=>z.elim
 refine For_pair3F (env:=C.env) (h₀:=C.h₀) I.fr hh hi.1 hc.1 hp ?_ pO hE;refine wpAny_Call_ofName (bI (X:=fun U U U=>False) (hit.DA fun U U U z=>z) ok I (fun U U U U U U U z=>z.elim) fun v dA jA G1 val h1 fN z1 z2 z3 z4 U=>?_);obtain⟨rfl,z⟩:=z1;induction z3.out
 refine uB (first:=[]) hs ?_;refine spliced_cons (bI (X:=fun U U U=>False) (z.DA fun U U U z=>z) ok (s:=(St s h1 fN)) z4 (fun U U U U U U U z=>z.elim) fun v cT lF G2 Dr h2 iC y1 y2 y3 y4 U=>?_);refine spliced_nil ?_;refine lZ y1 fun fE qR hj=>?_;subst fE qR;induction y3.out
 rename_i tok
 obtain⟨ls,os,a,b,c,d⟩:=y4.ex;have a:ls=[]:=a;subst a;obtain⟨rfl,b0⟩:=b.flat (ρ':=ρ) (G':=G2) (CS _ _ hj);show wpAny (model g.prog g.w) C.A (call (.type "enumerate") [.str x tok]) _ _ (St s h2 iC);refine call_enum_str (s:=(St s h2 iC)) hh y4.fr c fun h' e F' N' src=>?_;refine src.at C.env rfl xi xc body _ (fun i m' NI=>NI=[]++([]++(fo++G2))/\∃l,J i l/\cU ρ G2 m' l []/\(l.map (·.1)).Nodup) ⟨rfl,cT,hj,b,y4.nd⟩ ?_ ?_
 ·rintro i a t v m₁ PU gE own ⟨oV,OG,rfl⟩ IX RY ⟨rfl,l,PI,hl,Lp⟩ _ TA QM KI
  obtain⟨u,rfl⟩:=ItemKind.str_is RY;obtain⟨cc,YV,rfl⟩:∃cc,x.cps[i]?=some cc/\a=⟨#[cc]⟩:=by
   unfold signs at IX;rw[List.getElem?_map] at IX;cases e2:x.cps.toList[i]? with
   |none=>rw[e2] at IX;cases IX
   |some cc=>rw[e2] at IX;cases IX;exact(fG cc (by rw[←Array.getElem?_toList];exact e2) rfl)
  refine Ms (turn i cc l YV PI) fun l1 l2 u1 u2 body=>?_;refine jM (LB C.h₀ oV C.L own fun p hp=>KI p (List.mem_append_left _ hp)) fun yC o1 o2 o3=>?_;refine bQ (cU.Vz (ρ:=ρ) (G:=G2) (v:=.int i) (val:=.int i t) .int u1 hl Lp) fun vZ L1 S1=>?_;obtain⟨qX,L2,S2⟩:=cU.Vz (ρ:=ρ) (G:=G2) (v:=.str ⟨#[cc]⟩) (val:=.str ⟨#[cc]⟩ u) .str u2 L1 (by rw[u1.names];exact Lp);have e1:vZ=[]:=List.sublist_nil.mp S1;subst e1;have e2:qX=[]:=List.sublist_nil.mp S2;subst e2;have dj:((yC++(fo++G2)).map (·.1)).Nodup:=by
   rw[u6];refine List.nodup_append.mpr (fH o3 (by simpa using d) ?_);intro p hp q hq e;refine bQ (List.mem_map.mp hp) fun p' Jc fE=>?_;subst fE;refine bQ (List.mem_map.mp hq) fun q' JB fE=>?_;subst fE;exact TA p' (o1 _ Jc) q' (by simpa using JB) e
  have QU:cN C ρ G2 (yC++fo) none (fun y=>if y=xc then some (.str ⟨#[cc]⟩ u) else if y=xi then some (.int i t) else m₁ y) l2 oV:=by
   refine⟨⟨[],[],rfl,L2,?_,?_⟩,QM,?_⟩
   ·refine dU KI fun p hp=>?_;simp only[List.nil_append,List.mem_append] at hp⊢
    rcases hp with(h|h)|h
    ·exact .inl (o1 _ h)
    ·exact .inr (.inl h)
    ·exact .inr (.inr h)
   ·rw[List.nil_append,List.nil_append,r7];exact dj
   ·rw[u2.names,u1.names];exact Lp
  refine body.out ok G2 (yC++fo) _ (St s oV OG) QU _ _ (fun f l3 Mo G3 m3 fv h3 Kb w1 w2 w3 w4=>?_) (fun U U U U U U U U z=>z.elim);refine lZ w1 fun fE qR VX=>?_;subst fE qR;induction w3.out
  obtain⟨d8,o5,a3,b3,c3,d3⟩:=w4.ex;have a3:d8=[]:=a3;subst a3;obtain⟨rfl,b4⟩:=b3.flat (ρ':=ρ) (G':=G2) (CS _ _ VX);refine LoopStep2.intro (news₂:=[]++([]++(fo++G2))) w4.fr ?_ rfl ⟨rfl,l3,VX,b4,w4.nd⟩;refine dU c3 fun p hp=>?_;simp only[List.nil_append,List.mem_append] at hp⊢
  rcases hp with h|h|h
  ·exact .inl (.inl (o2 _ h))
  ·exact .inl (.inr h)
  ·exact .inr (w2 _ h)
 ·rintro RX IJ d9 TX XK XN _ ⟨rfl,l,PI,hl,Lp⟩
  rw[signs_length] at PI;exact q .next l none G2 d9 .next RX IJ (fin l PI) (z2.trans y2) .next ⟨⟨[],[],rfl,hl,XN,by simpa using d⟩,XK,Lp⟩
end
section
variable{D:Nat}{C:Cx}{X:eZ}{loc:aM}
theorem Xm{l r r':Expr}{zF:CmpOp}(hm:behindInMarks zF r'=false)
  (h:EW g D C ρ X l loc σ (fun a dA jA=>EW g D C ρ X r dA jA (fun b cT lF=>sG op a b (fun c=>(c=false->Q (.bool false) cT lF)/\(c=true->EW g D C ρ X r' cT lF (fun d pR Mo=>sG zF b d (fun c=>Q (.bool c) pR Mo))))))):
  EW g D C ρ X (.Compare l [op,zF] [r,r'] pos) loc σ Q:=by
 refine .of fun ok G fo m s I Qr Er q qe=>?_;have mk:markedEach [op,zF] [r,r'] (evalEach [r,r'] C.env)=[eval r C.env,eval r' C.env]:=by
  show[eval r C.env,markedBehindIn zF r' (eval r' C.env)]=_;rw[markedBehindIn_of_false hm]
 show wpAny _ _ (do compareChain pos (←eval l C.env) [op,zF] (markedEach [op,zF] [r,r'] (evalEach [r,r'] C.env))) _ _ _;rw[mk];refine q8 (bI h ok I qe fun a dA jA G1 av h1 fN z1 z2 z3 z4 lO=>?_);show wpAny _ _ (do
  let rv←holding [av] (eval r C.env)
  standAt pos
  let c←holding [av,rv] (compareOp op av rv)
  release [av,rv] [c]
  if←holding [c,rv] (truthy c) then compareChain pos rv [zF] [eval r' C.env] else pure c) _ _ _
 refine q8 (wpAny_holding (bI z1 ok (s:=(St s h1 fN)) z4 lO fun b cT lF G2 bv h2 iC y1 y2 y3 y4 tO=>?_));refine q8 (wpAny_standAt ?_);refine q8 (wpAny_holding (lW y1 (z3.mono y2) y3 fun c tk hc=>?_));refine q8 (wpAny_release ?_);refine q8 (wpAny_holding (wpAny_truthy_bool ?_));induction c with
 |false=>exact wpAny_pure (q (.bool false) cT lF G2 _ h2 tk (hc.1 rfl) (z2.trans y2) .bool y4)
 |true=>
  show wpAny _ _ (do
   let rv←holding [bv] (eval r' C.env)
   standAt pos
   operate [bv,rv] (compareOp zF bv rv)) _ _ _
  refine q8 (wpAny_holding (bI (hc.2 rfl) ok (s:=(St s h2 tk)) y4 tO fun d pR Mo G3 dv h3 Kb x1 x2 x3 x4 UO=>?_));refine q8 (wpAny_standAt ?_);exact wpAny_operating (lW x1 (y3.mono x2) x3 fun c tk hc=>q (.bool c) pR Mo G3 _ h3 tk hc (fun p hp=>x2 p (y2 p (z2 p hp))) .bool x4)
end
section
variable{D:Nat}{C:Cx}{X:eZ}{loc:aM}
theorem Mz(hs:bA pos args C.env)
  (hf:EW g D C ρ X (.Name "isinstance" np) loc σ (fun v l s=>v=.glob (.builtin "isinstance")/\AW g D C ρ X args l s (fun vs l s=>∃x,vs=[.str x,.glob (.type "str")]/\Q (.bool true) l s))):
  EW g D C ρ X (.Call (.Name "isinstance" np) args [] pos) loc σ Q:=by
 refine .of fun ok G fo m s I Qr Er q qe=>?_;refine wpAny_Call_ofName (bI hf ok I qe fun v dA jA G1 val h1 fN z1 z2 z3 z4 lO=>?_);obtain⟨rfl,z⟩:=z1;induction z3.out
 refine jQ (first:=[]) hs ?_;refine iR z ok (s:=(St s h1 fN)) z4 lO fun vs cT lF G2 vals2 h2 iC y1 y2 y3 y4 tO=>?_;refine bQ y1 fun x fE hq=>?_;subst fE;induction y3.out with
 |cons a r=>
 induction r.out with
 |cons b r1=>
 induction r1.out;induction a.out;induction b.out
 exact PySem.IsiPair.str_str (q _ cT lF G2 _ h2 _ hq (z2.trans y2) .bool y4)
end
noncomputable abbrev sv(l:List Nat):V:=.str ⟨l.toArray⟩
structure lL where
 no:Int
 req:Bool
 idx:Int
 line:Int
 col:Int
noncomputable def kZ(buf:Str)(i l c:Int):V:=.inst 53 ["name","index","line","column","buffer","pointer"] [.str "<unicode string>",.int i,.int l,.int c,.str buf,.int i]
noncomputable def lL.mark(b:Str)(k:lL):V:=kZ b k.idx k.line k.col
noncomputable def Fw:List Str:=["token_number","required","index","line","column","mark"]
noncomputable def lL.vals(b:Str)(k:lL):List V:=[.int k.no,.bool k.req,.int k.idx,.int k.line,.int k.col,k.mark b]
noncomputable def lL.toV(b:Str)(k:lL):V:=.inst 530 Fw (k.vals b)
structure Z where
 buf:Str
 ptr:Int
 rem:List Nat
 line:Int
 col:Int
 done:Bool
 aH:Int
 tokens:List V
 taken:Int
 indent:Int
 aO:List Int
 allow:Bool
 keys:List (Int×lL)
noncomputable def Z.sc(z:Z)(ka:Addr)(ko:Obj):Sc:=
 {buf:=z.buf,ptr:=z.ptr,index:=z.ptr,line:=z.line,col:=z.col,done:=z.done,aH:=z.aH,tokens:=z.tokens,taken:=z.taken,indent:=z.indent,aO:=z.aO,allow:=z.allow,keys:=z.keys.map fun p=>(p.1,p.2.toV z.buf),dF:=ka,kM:=ko}
noncomputable def Z.mark(z:Z):V:=kZ z.buf z.ptr z.line z.col
inductive R(α:Type) where
 |ok(a:α)(z:Z)
 |err(cm pm:V)
 |wall
noncomputable def R.bind{α β:Type}(r:R α)(f:α->Z->R β):R β:=match r with|.ok a z=>f a z|.err c p=>.err c p|.wall=>.wall
theorem bL{α β:Type}{a:α}{f:α->Z->R β}:(R.ok a z).bind f=f a z:=rfl
def R.wp{α:Type}(r:R α)(Q:α->Z->Prop)(X:V->V->Prop):Prop:=match r with|.ok a z=>Q a z|.err c p=>X c p|.wall=>False
noncomputable def span(p:Nat->Bool):List Nat->Option Nat
 |[]=>none
 |c::r=>if p c then(span p r).map (· +1) else some 0
theorem nV{p:Nat->Bool}{c:Nat}:span p (c::r)=if p c then(span p r).map (· +1) else some 0:=rfl
noncomputable def Dt:List Nat:=[13,10,133,8232,8233]
noncomputable def Qp:List Nat:=[0,13,10,133,8232,8233]
noncomputable def lP:List Nat:=[0,32,9,13,10,133,8232,8233]
noncomputable def rZ:List Nat:=[0,32,13,10,133,8232,8233]
noncomputable def isIn(l:List Nat)(c:Nat):Bool:=l.contains c
noncomputable def uV(c:Nat):Bool:=(decide (48<=c)&&decide (c<=57))||(decide (65<=c)&&decide (c<=90))||(decide (97<=c)&&decide (c<=122))
noncomputable def nQ(c:Nat):Bool:=(decide (48<=c)&&decide (c<=57))||(decide (65<=c)&&decide (c<=90))||(decide (97<=c)&&decide (c<=122))||isIn [45,95] c
noncomputable def WI(c:Nat):Bool:=(decide (48<=c)&&decide (c<=57))||(decide (65<=c)&&decide (c<=90))||(decide (97<=c)&&decide (c<=122))||isIn [45,59,47,63,58,64,38,61,43,36,44,95,46,33,126,42,39,40,41,91,93,37] c
noncomputable def peek(k:Nat)(z:Z):R Nat:=match z.rem[k]? with|some c=>.ok c z|none=>.wall
noncomputable def bO(z:Z):R Unit:=
 match z.rem with
 |[]=>.wall
 |c::r=>
  if isIn [10,133,8232,8233] c then .ok () {z with ptr:=z.ptr+1,rem:=r,line:=z.line+1,col:=0}
  else if c=13 then
   match r with
   |[]=>.wall
   |d::_=>if d=10 then .ok () {z with ptr:=z.ptr+1,rem:=r,col:=z.col+1} else .ok () {z with ptr:=z.ptr+1,rem:=r,line:=z.line+1,col:=0}
  else if c=65279 then .ok () {z with ptr:=z.ptr+1,rem:=r}
  else .ok () {z with ptr:=z.ptr+1,rem:=r,col:=z.col+1}
noncomputable def qC:Nat->Z->R Unit
 |0,z=>.ok () z
 |n+1,z=>(bO z).bind fun U z=>qC n z
noncomputable def qY(p:Nat->Bool)(z:Z):R Unit:=match span p z.rem with|some n=>qC n z|none=>.wall
noncomputable def push(t:V)(z:Z):R Unit:=if z.tokens.length<=1000 then .ok () {z with tokens:=z.tokens++[t]} else .wall
noncomputable def iH(i:Int)(t:V)(z:Z):R Unit:=if 0<=i/\i.toNat<=z.tokens.length/\z.tokens.length<=1000 then .ok () {z with tokens:=z.tokens.take i.toNat++t::z.tokens.drop i.toNat} else .wall
noncomputable def eE(ks:List (Int×lL))(k:Int):Option lL:=(ks.find? fun kv=>decide (kv.1=k)).map (·.2)
noncomputable def cA(ks:List (Int×lL))(k:Int):List (Int×lL):=ks.filter fun kv=>decide (kv.1≠k)
noncomputable def sS(ks:List (Int×lL))(k:Int)(v:lL):List (Int×lL):=if ks.any (fun kv=>decide (kv.1=k)) then ks.map (fun kv=>if kv.1=k then(kv.1,v) else kv) else ks++[(k,v)]
noncomputable def tk(C:Addr)(s e:V):V:=.inst C ["start_mark","end_mark"] [s,e]
noncomputable def IL(C:Addr)(v s e:V):V:=.inst C ["value","start_mark","end_mark"] [v,s,e]
noncomputable def yP(v:V)(pl:Bool)(s e st:V):V:=.inst 499 ["value","plain","start_mark","end_mark","style"] [v,.bool pl,s,e,st]
noncomputable def fA(z:Z):R Unit:=
 match eE z.keys z.aH with
 |some k=>if k.req=true then .wall else if z.keys.length<=1000 then .ok () {z with keys:=cA z.keys z.aH} else .wall
 |none=>.ok () z
noncomputable def lT(z:Z):R Unit:=
 if z.allow=true then
  (fA z).bind fun U z1=>if z1.keys.length<=1000/\z1.tokens.length<=1000 then .ok () {z1 with keys:=sS z1.keys z1.aH ⟨z1.taken+z1.tokens.length,decide (z.aH=0)&&decide (z.indent=z.col),z1.ptr,z1.line,z1.col⟩} else .wall
 else .ok () z
noncomputable def pD:Nat->Int->Z->R Unit
 |0,c,z=>if c<z.indent then .wall else .ok () z
 |n+1,c,z=>if c<z.indent then
   match z.aO.getLast? with
   |some i=>if z.aO.length<=1000 then(push (tk 326 z.mark z.mark) {z with indent:=i,aO:=z.aO.dropLast}).bind fun U z=>pD n c z else .wall
   |none=>.wall
  else .ok () z
theorem Hb{c:Int}:pD 0 c z=if c<z.indent then .wall else .ok () z:=rfl
theorem Hc{n:Nat}{c:Int}:pD (n+1) c z=if c<z.indent then
   match z.aO.getLast? with
   |some i=>if z.aO.length<=1000 then(push (tk 326 z.mark z.mark) {z with indent:=i,aO:=z.aO.dropLast}).bind fun U z=>pD n c z else .wall
   |none=>.wall
  else .ok () z:=rfl
noncomputable def fB(c:Int)(z:Z):R Unit:=if z.aH=0 then pD 4 c z else .ok () z
noncomputable def tX(c:Int)(z:Z):R Bool:=if z.indent<c then if z.aO.length<=1000 then .ok true {z with aO:=z.aO++[z.indent],indent:=c} else .wall else .ok false z
noncomputable def iI:List Int->Z->R Unit
 |[],z=>.ok () z
 |l::r,z=>
  match eE z.keys l with
  |none=>.wall
  |some k=>
   if k.line≠z.line\/1024<z.ptr-k.idx then
    if k.req=true then .wall else if z.keys.length<=1000 then iI r {z with keys:=cA z.keys l} else .wall
   else iI r z
theorem Pu{l:Int}{r:List Int}:iI (l::r) z=
  match eE z.keys l with
  |none=>.wall
  |some k=>
   if k.line≠z.line\/1024<z.ptr-k.idx then
    if k.req=true then .wall else if z.keys.length<=1000 then iI r {z with keys:=cA z.keys l} else .wall
   else iI r z:=rfl
noncomputable def stale(z:Z):R Unit:=if z.keys.length<=1000 then iI (z.keys.map (·.1)) z else .wall
noncomputable def jW(ks:List (Int×lL)):Option Int->List Int->Option (Option Int)
 |m,[]=>some m
 |m,l::r=>match eE ks l with|none=>none|some k=>jW ks (some (match m with|none=>k.no|some i=>if k.no<i then k.no else i)) r
theorem Vb{m:Option Int}{l:Int}{r:List Int}:jW ks m (l::r)=match eE ks l with|none=>none|some k=>jW ks (some (match m with|none=>k.no|some i=>if k.no<i then k.no else i)) r:=rfl
noncomputable def iJ(z:Z):R Unit:=
 (fB (-1) z).bind fun U z=>(fA z).bind fun U z=>
 (push (tk 290 z.mark z.mark) {z with allow:=false,keys:=[]}).bind fun U z=>.ok () {z with done:=true}
noncomputable def fF(C:Addr)(z:Z):R Unit:=(bO z).bind fun U z1=>push (tk C z.mark z1.mark) z1
noncomputable def iF(C:Addr)(z:Z):R Unit:=(lT z).bind fun U z=>fF C {z with aH:=z.aH+1,allow:=true}
noncomputable def lS(C:Addr)(z:Z):R Unit:=(fA z).bind fun U z=>fF C {z with aH:=z.aH-1,allow:=false}
noncomputable def oF(z:Z):R Unit:=(fA {z with allow:=true}).bind fun U z=>fF 422 z
noncomputable def iW(z:Z):R Unit:=if z.aH=0 then .wall else(fA {z with allow:=true}).bind fun U z=>fF 410 z
noncomputable def oD(z:Z):R Unit:=if z.aH=0 then .wall else(fA {z with allow:=false}).bind fun U z=>fF 386 z
noncomputable def eA(fQ:Z):R Unit:=
 match eE fQ.keys fQ.aH with
 |some k=>if fQ.keys.length<=1000 then
   (iH (k.no-fQ.taken) (tk 386 (k.mark fQ.buf) (k.mark fQ.buf)) {fQ with keys:=cA fQ.keys fQ.aH}).bind fun U z=>
   (if z.aH=0 then(tX k.col z).bind fun b z=>if b=true then iH (k.no-z.taken) (tk 314 (k.mark fQ.buf) (k.mark fQ.buf)) z else .ok () z else .ok () z).bind fun U z=>fF 398 {z with allow:=false}
  else .wall
 |none=>if fQ.aH=0 then(if fQ.allow=true then .wall else .err .none fQ.mark) else(fA {fQ with allow:=false}).bind fun U z=>fF 398 z
noncomputable def dH(z:Z):R (List Nat):=
 match z.rem with
 |[]=>.wall
 |c::r=>if isIn [13,10,133] c then
   if z.rem.take 2=[13,10] then(qC 2 z).bind fun U z=>.ok [10] z else(qC 1 z).bind fun U z=>.ok [10] z
  else if isIn [8232,8233] c then(qC 1 z).bind fun U z=>.ok [c] z else .ok [] z
noncomputable def bP:Nat->Z->R Unit
 |0,_=>.wall
 |n+1,z=>(qY (· ==32) z).bind fun U z=>(peek 0 z).bind fun c z=>(if c=35 then qY (fun c=>!isIn Qp c) z else .ok () z).bind fun U z=>
  (dH z).bind fun lb z=>if lb=[] then .ok () z else bP n (if z.aH=0 then{z with allow:=true} else z)
theorem fC{n:Nat}:bP (n+1) z=(qY (· ==32) z).bind fun U z=>(peek 0 z).bind fun c z=>(if c=35 then qY (fun c=>!isIn Qp c) z else .ok () z).bind fun U z=>
  (dH z).bind fun lb z=>if lb=[] then .ok () z else bP n (if z.aH=0 then{z with allow:=true} else z):=rfl
noncomputable def pC(n:Nat)(z:Z):R Unit:=if z.ptr=0 then(peek 0 z).bind fun c z=>if c=65279 then .wall else bP n z else bP n z
noncomputable def nF:List Nat:=[0,32,9,13,10,133,8232,8233,63,58,44,93,125,37,64,96]
noncomputable def mS(C:Addr)(z:Z):R V:=
 (peek 0 z).bind fun U z=>(bO z).bind fun U z1=>
 match span nQ z1.rem with
 |none=>.wall
 |some 0=>.wall
 |some n=>(qC n z1).bind fun U z2=>(peek 0 z2).bind fun c z2=>if isIn nF c then .ok (IL C (sv (z1.rem.take n)) z.mark z2.mark) z2 else .wall
noncomputable def gG(C:Addr)(z:Z):R Unit:=(lT z).bind fun U z=>(mS C {z with allow:=false}).bind fun t z=>push t z
noncomputable def qG(z:Z):R (List Nat):=if z.rem.take 1=[103] then(peek 1 z).bind fun c U=>if isIn rZ c then(qC 1 z).bind fun U z1=>.ok [103] z1 else .wall else .wall
noncomputable def tA(z:Z):R V:=
 if z.rem.take 2=[33,103] then(peek 2 z).bind fun c U=>if isIn rZ c then(bO z).bind fun U z1=>(qG z1).bind fun s z2=>(peek 0 z2).bind fun c z2=>if isIn rZ c then .ok (IL 479 (.tup [.str "!",sv s]) z.mark z2.mark) z2 else .wall else .wall else .wall
noncomputable def pN(z:Z):R Unit:=(lT z).bind fun U z=>(tA {z with allow:=false}).bind fun t z=>push t z
noncomputable def gA(pM:Bool)(z:Z):R (List (List Nat)):=
 match span (fun c=>!isIn [39,34,92,0,32,9,13,10,133,8232,8233] c) z.rem with
 |none=>.wall
 |some 0=>.wall
 |some n=>(qC n z).bind fun U z1=>(peek 0 z1).bind fun c z1=>
  if pM=true then(if c=34 then .ok [z.rem.take n] z1 else .wall)
  else if c=39 then(peek 1 z1).bind fun d z2=>if d=39 then .wall else .ok [z.rem.take n] z2
  else if c=10 then .ok [z.rem.take n] z1 else .wall
noncomputable def xY(z:Z)(k:R α):R α:=if z.rem.take 3=[45,45,45] then .wall else if z.rem.take 3=[46,46,46] then .wall else k
noncomputable def rR(z:Z):R (List (List Nat)):=
 xY z<|(peek 0 z).bind fun c z=>if isIn [32,9] c then .wall else if isIn Dt c then .wall else .ok [] z
noncomputable def mL(z:Z):R (List (List Nat)):=
 (peek 0 z).bind fun c z1=>if c=10 then(dH z1).bind fun lb z=>if lb=[10] then(rR z).bind fun bs z=>if bs=[] then .ok [[32]] z else .wall else .wall else .wall
noncomputable def gL(pM:Bool)(q:Nat):Nat->List (List Nat)->Z->R (List (List Nat))
 |0,_,_=>.wall
 |n+1,cs,z=>(peek 0 z).bind fun c z=>if c=q then .ok cs z else(mL z).bind fun a z=>if(cs++a).length<=1000 then(gA pM z).bind fun b z=>if(cs++a++b).length<=1000 then gL pM q n (cs++a++b) z else .wall else .wall
theorem Tr{pM:Bool}{q n:Nat}{cs:List (List Nat)}:gL pM q (n+1) cs z=(peek 0 z).bind fun c z=>if c=q then .ok cs z else(mL z).bind fun a z=>if(cs++a).length<=1000 then(gA pM z).bind fun b z=>if(cs++a++b).length<=1000 then gL pM q n (cs++a++b) z else .wall else .wall:=rfl
noncomputable def eD(style:Nat)(z:Z):R V:=
 (peek 0 z).bind fun q z=>(bO z).bind fun U z1=>(gA (style==34) z1).bind fun a z2=>if a.length<=1000 then(gL (style==34) q 3 a z2).bind fun cs z3=>(bO z3).bind fun U z4=>if cs.flatten.length+cs.length<=1000000 then .ok (yP (sv cs.flatten) false z.mark z4.mark (sv [style])) z4 else .wall else .wall
noncomputable def cD(style:Nat)(z:Z):R Unit:=(lT z).bind fun U z=>(eD style {z with allow:=false}).bind fun t z=>push t z
noncomputable def cW(aH:Bool):List Nat->Option Nat
 |[]=>none
 |c::r=>if isIn lP c then some 0 else if c=58 then
   match r with
   |[]=>none
   |d::_=>if isIn (lP++(if aH then[44,91,93,123,125] else[])) d then some 0 else(cW aH r).map (· +1)
  else if aH&&isIn [44,63,91,93,123,125] c then some 0 else(cW aH r).map (· +1)
theorem Vp{aH:Bool}{c:Nat}:cW aH (c::r)=if isIn lP c then some 0 else if c=58 then
   match r with
   |[]=>none
   |d::_=>if isIn (lP++(if aH then[44,91,93,123,125] else[])) d then some 0 else(cW aH r).map (· +1)
  else if aH&&isIn [44,63,91,93,123,125] c then some 0 else(cW aH r).map (· +1):=rfl
noncomputable def eY:Nat->Z->R Unit
 |0,_=>.wall
 |n+1,z=>(peek 0 z).bind fun c z=>if c=32 then(bO z).bind fun U z=>eY n z else if isIn Dt c then .wall else .ok () z
theorem HQ{n:Nat}:eY (n+1) z=(peek 0 z).bind fun c z=>if c=32 then(bO z).bind fun U z=>eY n z else if isIn Dt c then .wall else .ok () z:=rfl
noncomputable def bJ(f:Nat)(z:Z):R (List (List Nat)):=
 match span (· ==32) z.rem with
 |none=>.wall
 |some n=>(qC n z).bind fun U z1=>(peek 0 z1).bind fun c z1=>
  if isIn Dt c then(dH z1).bind fun lb z=>xY z ((eY f {z with allow:=true}).bind fun U z=>.ok (if lb≠[10] then[lb] else[[32]]) z)
  else .ok (if n=0 then[] else[z.rem.take n]) z1
noncomputable def gV(f:Nat)(ind:Int):Nat->List (List Nat)->List (List Nat)->V->Z->R (List (List Nat)×V)
 |0,_,_,_,_=>.wall
 |n+1,cs,sp,em,z=>(peek 0 z).bind fun c z=>if c=35 then .ok (cs,em) z else
  match cW (z.aH !=0) z.rem with
  |none=>.wall
  |some 0=>.ok (cs,em) z
  |some k=>if cs.length+sp.length<=1000 then(qC k {z with allow:=false}).bind fun U z1=>(bJ f z1).bind fun vQ z2=>if vQ.length<=1000 then
   (if vQ=[] then .ok (cs++sp++[z.rem.take k],z1.mark) z2 else(peek 0 z2).bind fun c z2=>if c=35 then .ok (cs++sp++[z.rem.take k],z1.mark) z2 else
   if z2.aH=0/\z2.col<ind then .ok (cs++sp++[z.rem.take k],z1.mark) z2 else gV f ind n (cs++sp++[z.rem.take k]) vQ z1.mark z2) else .wall else .wall
theorem HT{f:Nat}{ind:Int}{n:Nat}{cs sp:List (List Nat)}{em:V}:gV f ind (n+1) cs sp em z=(peek 0 z).bind fun c z=>if c=35 then .ok (cs,em) z else
  match cW (z.aH !=0) z.rem with
  |none=>.wall
  |some 0=>.ok (cs,em) z
  |some k=>if cs.length+sp.length<=1000 then(qC k {z with allow:=false}).bind fun U z1=>(bJ f z1).bind fun vQ z2=>if vQ.length<=1000 then
   (if vQ=[] then .ok (cs++sp++[z.rem.take k],z1.mark) z2 else(peek 0 z2).bind fun c z2=>if c=35 then .ok (cs++sp++[z.rem.take k],z1.mark) z2 else
   if z2.aH=0/\z2.col<ind then .ok (cs++sp++[z.rem.take k],z1.mark) z2 else gV f ind n (cs++sp++[z.rem.take k]) vQ z1.mark z2) else .wall else .wall:=rfl
noncomputable def kP(f:Nat)(z:Z):R V:=(gV f (z.indent+1) f [] [] z.mark z).bind fun r z1=>if r.1.flatten.length+r.1.length<=1000000 then .ok (yP (sv r.1.flatten) true z.mark r.2 .none) z1 else .wall
noncomputable def eI(f:Nat)(z:Z):R Unit:=(lT z).bind fun U z=>(kP f {z with allow:=false}).bind fun t z=>push t z
noncomputable def oJ:List Nat:=[0,32,9,13,10,133,8232,8233,45,63,58,44,91,93,123,125,35,38,42,33,124,62,39,34,37,64,96]
noncomputable def mI(c:Nat)(z:Z):R Bool:=
 if isIn oJ c then(peek 1 z).bind fun d z=>if isIn lP d then .ok false z else .wall else .ok true z
noncomputable def kT(z:Z):R Bool:=if z.aH=0 then(peek 1 z).bind fun d z=>.ok (isIn lP d) z else .ok true z
noncomputable def LK(f:Nat)(c:Nat)(z:Z):R Unit:=
 if c=42 then gG 441 z
 else if c=38 then gG 460 z
 else if c=33 then pN z
 else if c=39 then cD 39 z
 else if c=34 then cD 34 z
 else(mI c z).bind fun b z=>if b=true then eI f z else if c=64 then .err .none z.mark else .wall
noncomputable def LJ(f:Nat)(c:Nat)(z:Z):R Unit:=(if c=58 then kT z else .ok false z).bind fun b z=>if b=true then eA z else LK f c z
noncomputable def LI(f:Nat)(c:Nat)(z:Z):R Unit:=(if c=63 then kT z else .ok false z).bind fun b z=>if b=true then oD z else LJ f c z
noncomputable def LH(f:Nat)(c:Nat)(z:Z):R Unit:=(if c=45 then(peek 1 z).bind fun d z=>.ok (isIn lP d) z else .ok false z).bind fun b z=>if b=true then iW z else LI f c z
noncomputable def LG(f:Nat)(c:Nat)(z:Z):R Unit:=
 if c=91 then iF 338 z
 else if c=123 then iF 350 z
 else if c=93 then lS 362 z
 else if c=125 then lS 374 z
 else if c=44 then oF z
 else LH f c z
noncomputable def bR(f:Nat)(c:Nat)(z:Z):R Unit:=
 if c=0 then iJ z
 else if isIn [37,46,124,62] c then .wall
 else if c=45/\z.col=0/\z.rem.take 3=[45,45,45] then .wall
 else LG f c z
noncomputable def dE(f:Nat)(z:Z):R Unit:=(pC f z).bind fun U z=>(stale z).bind fun U z=>(fB z.col z).bind fun U z=>(peek 0 z).bind fun c z=>bR f c z
noncomputable def dT(z:Z):R Bool:=
 if z.done=true then .ok false z else if z.tokens.length<=1000 then(if z.tokens=[] then .ok true z else(stale z).bind fun U z=>match jW z.keys none (z.keys.map (·.1)) with|none=>.wall|some m=>.ok (m==some z.taken) z) else .wall
noncomputable def fZ(f:Nat):Nat->Z->R (Option V)
 |0,_=>.wall
 |n+1,z=>(dT z).bind fun b z=>if b=true then(dE f z).bind fun U z=>fZ f n z else
  match z.tokens with
  |[]=>.ok none z
  |t::r=>if z.tokens.length<=1000 then .ok (some t) {z with taken:=z.taken+1,tokens:=r} else .wall
theorem mN{f n:Nat}:fZ f (n+1) z=(dT z).bind fun b z=>if b=true then(dE f z).bind fun U z=>fZ f n z else
  match z.tokens with
  |[]=>.ok none z
  |t::r=>if z.tokens.length<=1000 then .ok (some t) {z with taken:=z.taken+1,tokens:=r} else .wall:=rfl
noncomputable def zG(c:Nat):Bool:=isIn [9,10,13,133] c||((decide (32<=c)&&decide (c<=126))||((decide (160<=c)&&decide (c<=55295))||((decide (57344<=c)&&decide (c<=65533))||(decide (65536<=c)&&decide (c<=1114111)))))
noncomputable def nM(s e en:V):V:=.inst 278 ["start_mark","end_mark","encoding"] [s,e,en]
noncomputable def Z.init(text:List Nat):Z:=
 {buf:=⟨(text++[0]).toArray⟩,ptr:=0,rem:=text++[0],line:=0,col:=0,done:=false,aH:=0,tokens:=[nM (kZ ⟨(text++[0]).toArray⟩ 0 0 0) (kZ ⟨(text++[0]).toArray⟩ 0 0 0) .none],taken:=0,indent:=-1,aO:=[],allow:=true,keys:=[]}
noncomputable def mK(f:Nat):Nat->Z->List V->Option (List V×Option (V×V))
 |0,_,_=>none
 |n+1,z,got=>match fZ f f z with
  |.ok none _=>some (got,none)
  |.ok (some t) z=>mK f n z (got++[t])
  |.err c p=>some (got,some (c,p))
  |.wall=>none
theorem Li{f n:Nat}{got:List V}:mK f (n+1) z got=match fZ f f z with
  |.ok none _=>some (got,none)
  |.ok (some t) z=>mK f n z (got++[t])
  |.err c p=>some (got,some (c,p))
  |.wall=>none:=rfl
noncomputable def lR{α:Type}:List α->Nat->Option α
 |[],_=>none
 |a::r,i=>
  match i with
  |0=>some a
  |i+1=>lR r i
theorem aN{α:Type}{x:α}{l:List α}(i:Nat)(h:lR l i=some x):x∈l:=by
 induction l generalizing i with
 |nil=>cases h
 |cons a r ih=>
  induction i with
  |zero=>cases h;exact .head _
  |succ i=>exact .tail _ (ih i h)
noncomputable def Mg(p:Str×LV)(i:Nat):aM->aM
 |[]=>[]
 |a::r=>
  match i with
  |0=>p::r
  |i+1=>a::Mg p i r
noncomputable def Jg:aM->Nat->Str
 |[],_=>""
 |a::r,i=>
  match i with
  |0=>a.1
  |i+1=>Jg r i
theorem dW.cM{lv:LV}{l:aM}(i:Nat)(hl:Nat.blt i l.length=true)(h:Jg l i=x):dW x lv l (Mg (x,lv) i l):=by
 induction l generalizing i with
 |nil=>cases hl
 |cons a r ih=>
  induction i with
  |zero=>induction a;induction h;exact .head
  |succ i=>exact .tail (ih i hl h)
noncomputable abbrev pw:Program:=PySem.Challenge.pw_te0054_02
structure FD where
 name:Str
 args:Arguments
 body:List Stmt
 scope:Scope
noncomputable def YX:ExceptHandler->List Stmt
 |.ExceptHandler _ _ b _=>b
noncomputable def Gh:FD:=⟨"",⟨[],[],none,[],[],none,[]⟩,[],{kind:=.function,names:=[],isGenerator:=false,isCoroutine:=false,more:=[]}⟩
noncomputable def Ve:Expr:=.Constant .none 0 default
noncomputable def Ay:List (List Stmt)×Expr×Pos×FD:=([],Ve,default,Gh)
noncomputable def PY(s:Stmt):List (List Stmt)×Expr×Pos×FD:=
 Stmt.casesOn s (fun n a b U U U s U U U=>([],Ve,default,⟨n,a,b,s⟩)) (fun U U U U U U U U U U=>Ay) (fun U U U b U U U U U U U=>([b],Ve,default,Gh)) (fun U U=>Ay) (fun U U=>Ay) (fun U e U=>([],e,default,Gh)) (fun U U U U U U U=>Ay) (fun U U U U=>Ay) (fun U U U U U=>Ay)
  (fun U U b U U=>([b],Ve,default,Gh)) (fun U U U U U=>Ay) (fun e b U p=>([b],e,p,Gh)) (fun e b o p=>([b,o],e,p,Gh)) (fun U U U=>Ay) (fun U U U=>Ay) (fun U U U=>Ay) (fun U U U=>Ay) (fun b hs U U U=>(b::hs.map YX,Ve,default,Gh)) (fun U U U U U=>Ay)
  (fun U U U=>Ay) (fun U U=>Ay) (fun U U U U=>Ay) (fun U U=>Ay) (fun U U=>Ay) (fun e U=>([],e,default,Gh)) (fun U=>Ay) (fun U=>Ay) fun U=>Ay
noncomputable def AJ(s:Stmt):List (List Stmt):=(PY s).1
noncomputable def CN(s:Stmt):FD:=(PY s).2.2.2
noncomputable def tM(b:List Stmt)(i k:Nat):List Stmt:=(AJ (b.getD i (.Pass default))).getD k []
noncomputable def vI(s:Stmt):Expr:=(PY s).2.1
noncomputable def LP(e:Expr):List Expr:=
 Expr.casesOn e (fun U l U=>l) (fun U U U=>[]) (fun U U U U=>[]) (fun U U U=>[]) (fun U U U U=>[]) (fun U U U U=>[]) (fun U U U=>[]) (fun U U U=>[]) (fun U U U U=>[]) (fun U U U U=>[]) (fun U U U U U=>[]) (fun U U U U=>[]) (fun U U=>[]) (fun U U=>[]) (fun U U=>[]) (fun U U U U=>[])
  (fun U l U U=>l) (fun U U U U=>[]) (fun U U=>[]) (fun U U U=>[]) (fun U U U=>[]) (fun U U U=>[]) (fun U U=>[]) (fun U U=>[]) (fun U U=>[]) (fun l U U=>l) fun U U U U=>[]
noncomputable def vN(b:List Stmt):Stmt:=b.getD 0 (.Pass default)
noncomputable def k0(s:Stmt):List Stmt:=(AJ s).getD 0 []
noncomputable def k1(s:Stmt):List Stmt:=(AJ s).getD 1 []
noncomputable def NV(s:Stmt):Pos:=(PY s).2.2.1
noncomputable def Sw(s:Stmt):List Stmt:=(AJ s).getD 0 []
noncomputable def Uy(p:Program)(i:Nat):Stmt:=p.main.body.getD i (.Pass default)
noncomputable def top(i:Nat):FD:=CN (Uy pw i)
noncomputable def aU(i j:Nat):FD:=CN ((Sw (Uy pw i)).getD j (.Pass default))
structure Bd(C:Cx)(fd:FD):Prop where
 cs:C.cs=fd.scope
 hh:C.A.handled=none
theorem Bd.loc{C:Cx}(B:Bd C fd)(e:fd.scope.names.lookup x=some .local)(hd:(x==("__debug__":Str))=false):aF C x:=by
 refine⟨?_,hd⟩;show(C.cs.names.lookup x)=_;rw[B.cs];exact e
theorem Bd.glob{C:Cx}(B:Bd C fd)(e:fd.scope.names.lookup x=some .globalImplicit):C.cs.names.lookup x=some .globalImplicit:=by
 rw[B.cs];exact e
theorem Bd.int{C:Cx}(B:Bd C fd)(k:fd.scope.kind=.function):interactive C.env=false:=by
 show((C.cs.kind==.module)&&_)=false;rw[B.cs,k];rfl
def vR(g:Gl)(f:Addr)(fd:FD)(names:List Str)(k:Nat)(kws:List Str)(jF:List V):Prop:=∀Ω:Prop,(∀(qual dV fW cY:_) (a:Eh g f qual fd.args fd.body fd.scope dV fW) (b:∀ρ G,cZ ρ G jF cY) (c:∀vals eC:List Value,vals.length=k->eC.length=kws.length->∀s:Shared,g.K.In s.heap->∀name kV doc pm an ct,BindsTo s (fnOf name qual fd.args fd.body fd.scope dV kV doc pm an fW ct) ⟨vals,kws.zip eC⟩ (names.zip ((vals++eC)++cY))),Ω)->Ω
theorem vR.mk{names:List Str}{k:Nat}{kws:List Str}(qual dV fW cY:_)(a:Eh g f qual fd.args fd.body fd.scope dV fW)(b:∀ρ G,cZ ρ G jF cY)(c:∀vals eC:List Value,vals.length=k->eC.length=kws.length->∀s:Shared,g.K.In s.heap->∀name kV doc pm an ct,BindsTo s (fnOf name qual fd.args fd.body fd.scope dV kV doc pm an fW ct) ⟨vals,kws.zip eC⟩ (names.zip ((vals++eC)++cY))):vR g f fd names k kws jF:=fun U φ=>φ qual dV fW cY a b c
theorem aE{D:Nat}{C:Cx}{X:eZ}{loc:aM}{v:V}(B:Bd C fd)(i:Nat)(e:fd.scope.names.lookup x=some .local)(hd:(x==("__debug__":Str))=false)(hv:lR loc i=some (x,.val v))(h:Q v loc σ):
  EW g D C ρ X (.Name x pos) loc σ Q:=bY (B.loc e hd) (aN i hv) h
section
variable{D:Nat}{C:Cx}{X:eZ}{l:aM}{s:bX}
theorem yT.p1{orelse:List Stmt}{Q:eM}(h:SW g D C ρ X body l s Q):yT g D C ρ X body orelse Q true l s:=⟨fun U=>h,fun z=>Bool.noConfusion z⟩
theorem yT.p2{orelse:List Stmt}{Q:eM}(h:SW g D C ρ X orelse l s Q):yT g D C ρ X body orelse Q false l s:=⟨fun z=>Bool.noConfusion z,fun U=>h⟩
theorem yQ.p1{r:Expr}{Q:nX}(h:Q false l s):yQ g D C ρ X r Q false l s:=⟨fun U=>h,fun z=>Bool.noConfusion z⟩
theorem yQ.p2{r:Expr}{Q:nX}(h:BW g D C ρ X r l s Q):yQ g D C ρ X r Q true l s:=⟨fun z=>Bool.noConfusion z,fun U=>h⟩
theorem Bq.p1{r:Expr}{Q:nX}(h:Q true l s):Bq g D C ρ X r Q true l s:=⟨fun U=>h,fun z=>Bool.noConfusion z⟩
theorem Bq.p2{r:Expr}{Q:nX}(h:BW g D C ρ X r l s Q):Bq g D C ρ X r Q false l s:=⟨fun z=>Bool.noConfusion z,fun U=>h⟩
theorem ED.p1{body orelse:Expr}(h:EW g D C ρ X body l s Q):ED g D C ρ X body orelse Q true l s:=⟨fun U=>h,fun z=>Bool.noConfusion z⟩
theorem ED.p2{body orelse:Expr}(h:EW g D C ρ X orelse l s Q):ED g D C ρ X body orelse Q false l s:=⟨fun z=>Bool.noConfusion z,fun U=>h⟩
theorem CF.p1{J:Nat->aM->bX->Prop}{n:Nat}{Q:eM}(h:SW g D C ρ X body l s (Qe J n Q)):CF g D C ρ X body J n Q true l s:=⟨fun U=>h,fun z=>Bool.noConfusion z⟩
theorem CF.p2{J:Nat->aM->bX->Prop}{n:Nat}{Q:eM}(h:Q .next l s):CF g D C ρ X body J n Q false l s:=⟨fun z=>Bool.noConfusion z,fun U=>h⟩
end
section
variable{D:Nat}
theorem Rg{X:nA}{names:List Str}{kws:List (Str×V)}{k:Nat}{args:List V}{Q:mF}(df:vR g f fd names k (kws.map (·.1)) jF)(others:List Str)(hk:args.length=k)
  (hlen:names.length=((args++kws.map (·.2))++jF).length) (hq:(decide (names++others).Nodup&&names.all fun x=>decide (fd.scope.names.lookup x=some .local))=true)
  (h:∀C',Bd C' fd->SW g D C' ρ (fun x U s=>X x s) fd.body (iQ names ((args++kws.map (·.2))++jF) others) σ (iU Q)):
  Rf g D ρ X f args kws σ Q:=by
 obtain⟨hn,Cm⟩:=(q9 _ _).mp hq;refine df _ fun qual dV fW cY fn Dv hb=>?_;refine Nb fn (r8 hn) hlen Dv (fun vals eC h1 h2 s hs name kV doc pm an ct=>hb vals eC (h1.trans hk) (by rw[h2,t7]) s hs name kV doc pm an ct) ?_ (fun C' a b c d e i=>h C' ⟨a,i⟩);intro x hx;have:=u5.mp Cm x hx;exact r8 this
theorem cK{X:nA}{names:List Str}{k:Nat}{args:List V}{Q:mF}(df:vR g f fd names k [] jF)(others:List Str)(hk:args.length=k)
  (hlen:names.length=(args++jF).length) (hq:(decide (names++others).Nodup&&names.all fun x=>decide (fd.scope.names.lookup x=some .local))=true)
  (h:∀C',Bd C' fd->SW g D C' ρ (fun x U s=>X x s) fd.body (iQ names (args++jF) others) σ (iU Q)):
  FW g D ρ X f args σ Q:=by
 refine Rg (kws:=[]) df others hk (by simpa using hlen) hq fun C' b=>?_
 simpa using h C' b
end
section
variable{D:Nat}{C:Cx}{X:eZ}{loc:aM}
theorem aA{b:List Stmt}{Q:eM}(e:b=vN b::b.tail)(h:kA g D C ρ X (vN b) loc σ (lQ g D C ρ X b.tail Q)):SW g D C ρ X b loc σ Q:=by
 rw[e];exact bW h
theorem aW{st:Stmt}{Q:eM}(e:st=.If (vI st) (k0 st) (k1 st) (NV st))(h:BW g D C ρ X (vI st) loc σ (yT g D C ρ X (k0 st) (k1 st) Q)):kA g D C ρ X st loc σ Q:=by
 rw[e];exact kI h
theorem iV{st:Stmt}{Q:eM}(e:st=.While (vI st) (k0 st) [] (NV st))(J:Nat->aM->bX->Prop)(n:Nat)(h0:J n loc σ)(turn:∀n loc σ,J n loc σ->BW g D C ρ X (vI st) loc σ (CF g D C ρ X (k0 st) J n Q)):kA g D C ρ X st loc σ Q:=by
 rw[e];exact oA J n h0 turn
end
theorem Rz{D:Nat}{C:Cx}{X:eZ}{b:List Stmt}{l:aM}{s:bX}{Q:eM}(h:∀Q':Fl->aM->bX->Prop,(∀f l s,Q f l s->Q' f l s)->SW g D C ρ X b l s Q'):SW g D C ρ X b l s Q:=h Q fun U U U z=>z
noncomputable def sI:List Str:=["context","context_mark","problem","problem_mark","note"]
def Ek(x:yO)(cm pm:V):Prop:=x.cls=511/\x.ns=sI/\∃c p,x.vs=[c,cm,p,pm,.none]
structure Ok(z:Z):Prop where
 ex:∃n:Nat,z.ptr=n/\z.rem=z.buf.cps.toList.drop n/\n+z.rem.length=z.buf.length
 sz:z.buf.length<=100000
 cs:∀c∈z.buf.cps.toList,c<16 ^ 8
theorem R.mono{α:Type}{r:R α}{Q Q':α->Z->Prop}{X':V->V->Prop}(H:r.wp Q X)(h:∀a z,Q a z->Q' a z)(hx:∀c p,X c p->X' c p):r.wp Q' X':=by
 induction r with
 |ok a z=>exact h a z H
 |err c p=>exact hx c p H
 |wall=>exact H
theorem kX{α:Type}{c:Prop}[Decidable c]{a b:R α}{Q:α->Z->Prop}(h:c)(H:(if c then a else b).wp Q X):a.wp Q X:=(if_pos h:(if c then a else b)=a)▸H
theorem qS{α:Type}{c:Prop}[Decidable c]{a b:R α}{Q:α->Z->Prop}(h:¬c)(H:(if c then a else b).wp Q X):b.wp Q X:=(if_neg h:(if c then a else b)=b)▸H
theorem aX{α β:Type}{r:R α}{f:α->Z->R β}{Q:β->Z->Prop}(H:(r.bind f).wp Q X):r.wp (fun a z=>(f a z).wp Q X) X:=by
 induction r with
 |ok a z=>exact H
 |err c p=>exact H
 |wall=>exact H
theorem EX{α β:Type}{r:R α}{f:α->Z->R β}{Q:β->Z->Prop}{Q':α->Z->Prop}(H:(r.bind f).wp Q X)(h:∀a z,(f a z).wp Q X->Q' a z):r.wp Q' X:=R.mono (aX H) h fun U U h=>h
theorem eJ{β:Type}{k:Nat}{f:Nat->Z->R β}{Q:β->Z->Prop}(H:((peek k z).bind f).wp Q X):∃c,z.rem[k]?=some c/\(f c z).wp Q X:=by
 unfold peek at H;cases e:z.rem[k]? with
 |none=>rw[e] at H;exact H.elim
 |some c=>rw[e] at H;exact⟨c,rfl,H⟩
noncomputable abbrev PQ{α:Type}(enc:α->V)(Q:mF):α->Z->Prop:=fun a z=>∀ka ko,Ok z->Q (enc a) (some (z.sc ka ko))
noncomputable abbrev PX(X:nA):V->V->Prop:=fun cm pm=>∀x s,Ek x cm pm->X x s
def Sp(g:Gl)(ρ:dN)(d:Nat)(f:Addr)(args:List V){α:Type}(enc:α->V)(m:Z->R α):Prop:=
 ∀z ka ko (Q:mF) (X:nA),Ok z->(m z).wp (PQ enc Q) (PX X)->FW g d ρ X f (.self::args) (some (z.sc ka ko)) Q
section
variable{D:Nat}{C:Cx}{X:eZ}{loc:aM}
theorem mX{name:Str}{u:V}:∀{ns:List Str} {vs:List V} {i:Nat},ns[i]?=some name->vs[i]?=some u->(name,u)∈ns.zip vs
 |[],_,i,h,_=>by simp at h
 |n::ns,[],i,_,h=>by simp at h
 |n::ns,v::vs,0,h,h'=>by
  simp only[List.getElem?_cons_zero,Option.some.injEq] at h h';rw[h,h'];exact .head _
 |n::ns,v::vs,i+1,h,h'=>.tail _ (mX (i:=i) (by simpa using h) (by simpa using h'))
theorem iT{name:Str}{i:Nat}{u:V}{sc:Sc}(A:iK g 1048 name)(hS:aF C "self")(hi:aJ[i]?=some name)(hv:(gC sc)[i]?=some u)(hp:u.plain=true)
  (he:eval (.Attribute (.Name "self" np) name pos) C.env=(do
   let ov←eval (.Name "self" np) C.env
   standAt pos.atName
   let r←holding [ov] (getAttr ov name true)
   letTemporaryGo (.Name "self" np) ov r
   pure r))
  (h:Q u (("self",.val .self)::loc) (some sc)):EW g D C ρ X (.Attribute (.Name "self" np) name pos) (("self",.val .self)::loc) (some sc) Q:=by
 refine Ef A he (bY hS (.head _) ⟨rfl,sc,u,rfl,?_,hp,h⟩);have n8:i<19:=by
  have:=(List.getElem?_eq_some_iff.mp hv).1
  simpa[gC] using this
 exact mX hi hv
end
def qJ(g:Gl)(Cl:Addr)(l:List (Str×Str))(n:Nat)(jF:List V):Prop:=∀Ω:Prop,(∀(fI qual params body scope dV fW sf cY:_) (a:uO g Cl fI qual params body scope dV fW sf l) (b:∀ρ G,cZ ρ G jF cY) (c:l.length=n+jF.length) (d:∀(vals:List Value),vals.length=n->∀(x:Addr) (s:Shared),g.K.In s.heap->∀name kV doc pm an ct,BindsTo s (fnOf name qual params body scope dV kV doc pm an fW ct) ⟨.ref x::vals,[]⟩ ((sf::l.map (·.2)).zip (.ref x::(vals++cY)))),Ω)->Ω
theorem qJ.mk{n:Nat}(fI qual params body scope dV fW sf cY:_)(a:uO g Cl fI qual params body scope dV fW sf l)(b:∀ρ G,cZ ρ G jF cY)(c:l.length=n+jF.length)(d:∀(vals:List Value),vals.length=n->∀(x:Addr) (s:Shared),g.K.In s.heap->∀name kV doc pm an ct,BindsTo s (fnOf name qual params body scope dV kV doc pm an fW ct) ⟨.ref x::vals,[]⟩ ((sf::l.map (·.2)).zip (.ref x::(vals++cY)))):qJ g Cl l n jF:=fun U φ=>φ fI qual params body scope dV fW sf cY a b c d
def zS(g:Gl)(Cl:Addr)(l:List (Str×Str))(n:Nat)(jF:List V):Prop:=∀Ω:Prop,(∀(fI qual params body scope dV fW sf cY:_) (a:tW g Cl fI qual params body scope dV fW sf l) (b:∀ρ G,cZ ρ G jF cY) (c:l.length=n+jF.length) (d:∀(vals:List Value),vals.length=n->∀(x:Addr) (s:Shared),g.K.In s.heap->∀name kV doc pm an ct,BindsTo s (fnOf name qual params body scope dV kV doc pm an fW ct) ⟨.ref x::vals,[]⟩ ((sf::l.map (·.2)).zip (.ref x::(vals++cY)))),Ω)->Ω
theorem zS.mk{n:Nat}(fI qual params body scope dV fW sf cY:_)(a:tW g Cl fI qual params body scope dV fW sf l)(b:∀ρ G,cZ ρ G jF cY)(c:l.length=n+jF.length)(d:∀(vals:List Value),vals.length=n->∀(x:Addr) (s:Shared),g.K.In s.heap->∀name kV doc pm an ct,BindsTo s (fnOf name qual params body scope dV kV doc pm an fW ct) ⟨.ref x::vals,[]⟩ ((sf::l.map (·.2)).zip (.ref x::(vals++cY)))):zS g Cl l n jF:=fun U φ=>φ fI qual params body scope dV fW sf cY a b c d
def Mq(g:Gl)(Cl:Addr)(l:List (Str×Str))(n:Nat)(kn:Str):Prop:=∀Ω:Prop,(∀(fI qual params body scope dV fW sf:_) (a:uO g Cl fI qual params body scope dV fW sf l) (b:l.length=n+1) (c:∀(vals:List Value) (kv:Value),vals.length=n->∀(x:Addr) (s:Shared),g.K.In s.heap->∀name kV doc pm an ct,BindsTo s (fnOf name qual params body scope dV kV doc pm an fW ct) ⟨.ref x::vals,[(kn,kv)]⟩ ((sf::l.map (·.2)).zip (.ref x::(vals++[kv])))),Ω)->Ω
theorem Mq.mk{n:Nat}{kn:Str}(fI qual params body scope dV fW sf:_)(a:uO g Cl fI qual params body scope dV fW sf l)(b:l.length=n+1)(c:∀(vals:List Value) (kv:Value),vals.length=n->∀(x:Addr) (s:Shared),g.K.In s.heap->∀name kV doc pm an ct,BindsTo s (fnOf name qual params body scope dV kV doc pm an fW ct) ⟨.ref x::vals,[(kn,kv)]⟩ ((sf::l.map (·.2)).zip (.ref x::(vals++[kv])))):Mq g Cl l n kn:=fun U φ=>φ fI qual params body scope dV fW sf a b c
noncomputable def ll(l:List Str):List (Str×Str):=l.map fun x=>(x,x)
noncomputable def pe(n:Str)(a:Addr):Str×Addr:=(n,a)
noncomputable def de(f:Addr)(fd:FD)(ns:List Str)(k:Nat)(jF:List V):Addr×FD×List Str×Nat×List V:=(f,fd,ns,k,jF)
noncomputable def ce(a:Addr)(l:List Str)(n:Nat)(jF:List V):Addr×List Str×Nat×List V:=(a,l,n,jF)
noncomputable def Ma:List (Str×Addr):=[(pe "peek" 152),(pe "prefix" 160),(pe "forward" 168),(pe "get_mark" 175),(pe "check_printable" 182),(pe "update" 189),(pe "get_token" 573),(pe "need_more_tokens" 580),(pe "fetch_more_tokens" 587),(pe "next_possible_simple_key" 594),(pe "stale_possible_simple_keys" 601),(pe "save_possible_simple_key" 608),(pe "remove_possible_simple_key" 615),(pe "unwind_indent" 622),(pe "add_indent" 629),(pe "fetch_stream_start" 636),(pe "fetch_stream_end" 643),(pe "fetch_flow_sequence_start" 678),(pe "fetch_flow_collection_start" 692),(pe "fetch_flow_sequence_end" 699),(pe "fetch_flow_mapping_end" 706),(pe "fetch_flow_collection_end" 713),(pe "fetch_flow_entry" 720),(pe "fetch_block_entry" 727),(pe "fetch_key" 734),(pe "fetch_value" 741),(pe "fetch_alias" 748),(pe "fetch_anchor" 755),(pe "fetch_single" 790),(pe "fetch_flow_scalar" 804),(pe "fetch_plain" 811),(pe "fetch_flow_mapping_start" 685),(pe "check_document_start" 825),(pe "fetch_tag" 762),(pe "check_block_entry" 839),(pe "check_key" 846),(pe "check_value" 853),(pe "check_plain" 860),(pe "scan_to_next_token" 867),(pe "scan_anchor" 930),(pe "scan_flow_scalar" 979),(pe "scan_flow_scalar_non_spaces" 989),(pe "scan_plain" 1010),(pe "scan_plain_spaces" 1017),(pe "scan_line_break" 1045),(pe "fetch_double" 797),(pe "scan_tag" 937),(pe "scan_tag_uri" 1031),(pe "scan_flow_scalar_spaces" 996),(pe "scan_flow_scalar_breaks" 1003)]
noncomputable def LC:List (Addr×FD×List Str×Nat×List V):=[de 152 (aU 8 1) ["self","index"] 2 [],
 de 152 (aU 8 1) ["self","index"] 1 [.int 0],
 de 160 (aU 8 2) ["self","length"] 2 [],
 de 168 (aU 8 3) ["self","length"] 2 [],
 de 168 (aU 8 3) ["self","length"] 1 [.int 1],
 de 175 (aU 8 4) ["self"] 1 [],
 de 182 (aU 8 5) ["self","data"] 2 [],
 de 189 (aU 8 6) ["self","length"] 2 [],
 de 573 (aU 34 3) ["self"] 1 [],
 de 580 (aU 34 4) ["self"] 1 [],
 de 587 (aU 34 5) ["self"] 1 [],
 de 594 (aU 34 6) ["self"] 1 [],
 de 601 (aU 34 7) ["self"] 1 [],
 de 608 (aU 34 8) ["self"] 1 [],
 de 615 (aU 34 9) ["self"] 1 [],
 de 622 (aU 34 10) ["self","column"] 2 [],
 de 629 (aU 34 11) ["self","column"] 2 [],
 de 636 (aU 34 12) ["self"] 1 [],
 de 643 (aU 34 13) ["self"] 1 [],
 de 678 (aU 34 18) ["self"] 1 [],
 de 692 (aU 34 20) ["self","TokenClass"] 2 [],
 de 699 (aU 34 21) ["self"] 1 [],
 de 706 (aU 34 22) ["self"] 1 [],
 de 713 (aU 34 23) ["self","TokenClass"] 2 [],
 de 720 (aU 34 24) ["self"] 1 [],
 de 727 (aU 34 25) ["self"] 1 [],
 de 734 (aU 34 26) ["self"] 1 [],
 de 741 (aU 34 27) ["self"] 1 [],
 de 748 (aU 34 28) ["self"] 1 [],
 de 755 (aU 34 29) ["self"] 1 [],
 de 790 (aU 34 34) ["self"] 1 [],
 de 811 (aU 34 37) ["self"] 1 [],
 de 685 (aU 34 19) ["self"] 1 [],
 de 825 (aU 34 39) ["self"] 1 [],
 de 762 (aU 34 30) ["self"] 1 [],
 de 839 (aU 34 41) ["self"] 1 [],
 de 846 (aU 34 42) ["self"] 1 [],
 de 853 (aU 34 43) ["self"] 1 [],
 de 860 (aU 34 44) ["self"] 1 [],
 de 867 (aU 34 45) ["self"] 1 [],
 de 930 (aU 34 54) ["self","TokenClass"] 2 [],
 de 979 (aU 34 61) ["self","style"] 2 [],
 de 989 (aU 34 64) ["self","double","start_mark"] 3 [],
 de 1010 (aU 34 67) ["self"] 1 [],
 de 1017 (aU 34 68) ["self","indent","start_mark"] 3 [],
 de 1045 (aU 34 72) ["self"] 1 [],
 de 130 (top 7) ["ch"] 1 [],
 de 144 (aU 8 0) ["self","stream"] 2 [],
 de 797 (aU 34 35) ["self"] 1 [],
 de 937 (aU 34 55) ["self"] 1 [],
 de 1031 (aU 34 70) ["self","name","start_mark"] 3 [],
 de 996 (aU 34 65) ["self","double","start_mark"] 3 [],
 de 1003 (aU 34 66) ["self","double","start_mark"] 3 []]
noncomputable def NH:List Str:=["len","list","str","isinstance","enumerate","range","chr"]
noncomputable def VH:List (Str×Addr):=[(pe "Mark" 53),(pe "ScannerError" 511),(pe "SimpleKey" 530),(pe "StreamEndToken" 290),(pe "FlowMappingStartToken" 350),(pe "BlockMappingStartToken" 314),(pe "BlockEndToken" 326),(pe "FlowSequenceStartToken" 338),(pe "FlowSequenceEndToken" 362),(pe "FlowMappingEndToken" 374),(pe "KeyToken" 386),(pe "ValueToken" 398),(pe "BlockEntryToken" 410),(pe "FlowEntryToken" 422),(pe "AliasToken" 441),(pe "AnchorToken" 460),(pe "ScalarToken" 499),(pe "_is_printable" 130),(pe "Scanner" 1048),(pe "StreamStartToken" 278),(pe "TagToken" 479)]
noncomputable def KU:List (Addr×List Str×Nat×List V):=[ce 53 ["name","index","line","column","buffer","pointer"] 6 [],ce 530 ["token_number","required","index","line","column","mark"] 6 [],ce 290 ["start_mark","end_mark"] 2 [],ce 350 ["start_mark","end_mark"] 2 [],ce 314 ["start_mark","end_mark"] 2 [],ce 326 ["start_mark","end_mark"] 2 [],ce 338 ["start_mark","end_mark"] 2 [],ce 362 ["start_mark","end_mark"] 2 [],ce 374 ["start_mark","end_mark"] 2 [],ce 386 ["start_mark","end_mark"] 2 [],ce 398 ["start_mark","end_mark"] 2 [],ce 410 ["start_mark","end_mark"] 2 [],ce 422 ["start_mark","end_mark"] 2 [],ce 441 ["value","start_mark","end_mark"] 3 [],ce 460 ["value","start_mark","end_mark"] 3 [],ce 499 ["value","plain","start_mark","end_mark","style"] 5 [],ce 499 ["value","plain","start_mark","end_mark","style"] 4 [.none],ce 479 ["value","start_mark","end_mark"] 3 []]
structure aP(g:Gl):Prop where
 m:∀{n:Str} {f:Addr} (i:Nat),lR Ma i=some (n,f)->tT g 1048 n f
 d:∀{f:Addr} {fd:FD} {ns:List Str} {k:Nat} {jF:List V} (i:Nat),lR LC i=some (f,fd,ns,k,jF)->vR g f fd ns k [] jF
 n:∀{x:Str} (i:Nat),lR NH i=some x->nsIn g.K mainGlobals x=some none
 gl:∀{x:Str} {a:Addr} (i:Nat),lR VH i=some (x,a)->nsIn g.K mainGlobals x=some (some (.ref a))
 c:∀{a:Addr} {l:List Str} {n:Nat} {jF:List V} (i:Nat),lR KU i=some (a,l,n,jF)->qJ g a (ll l) n jF
 attr:∀n∈aJ,iK g 1048 n
 so:qT g 1048
 Mk:∀n∈aJ,takerIn g.K 1048 n=some none
 lM:vR g 804 (aU 34 36) ["self","style"] 1 ["style"] []
 CI:∀n∈Fw,iK g 530 n
 CK:iK g 53 "index"
 CX:Ki g 130
 CL:Mq g 278 (ll ["start_mark","end_mark","encoding"]) 2 "encoding"
 Wr:zS g 511 (ll sI) 4 [.none]
abbrev Em(g:Gl)(n:Str)(f:Addr):Prop:=tT g 1048 n f/\n∉aJ
theorem Ox:∀p∈Ma,p.1∉aJ:=by decide+kernel
theorem aP.mn(F:aP g){n:Str}(i:Nat)(h:lR Ma i=some (n,f)):Em g n f:=⟨F.m i h,Ox _ (aN i h)⟩
section
variable{D:Nat}{C:Cx}{X:eZ}{loc:aM}
theorem iL{n:Nat}(co:qJ g Cl l n jF)(hn:args.length=n)(hD:Nat.ble 2 D=true)(hs:bA pos args C.env)
  (h:EW g D C ρ X (.Name x np) loc σ (fun v l1 s=>v=.glob (.ref Cl)/\AW g D C ρ X args l1 s (fun vs l2 s=>vs.length=args.length/\Q (.inst Cl (l.map (·.1)) (vs++jF)) l2 s))):
  EW g D C ρ X (.Call (.Name x np) args [] pos) loc σ Q:=by
 refine co _ ?_;clear co
 rintro fI qual params body scope dV fW sf cY co Dv hl hb
 exact EW.mk co (Nat.le_of_ble_eq_true hD) hs Dv (by rw[hl,hn]) (fun vals h=>hb vals (h.trans hn)) h
theorem Nk{n:Nat}{nO:Pos}{Q:eM}(co:zS g Cl l n jF)(hn:args.length=n)(AE:n<=1000)(hh:C.A.handled=Option.none)(hD:Nat.ble 2 D=true)(hs:bA nO args C.env)
  (h:EW g D C ρ X (.Name x np) loc σ (fun v l1 s=>v=.glob (.ref Cl)/\AW g D C ρ X args l1 s (fun vs l2 s=>vs.length=args.length/\X ⟨Cl,l.map (·.1),vs++jF⟩ l2 s))):
  kA g D C ρ X (.Raise (some (.Call (.Name x np) args [] nO)) none pos) loc σ Q:=by
 refine co _ ?_;clear co
 rintro fI qual params body scope dV fW sf cY co Dv hl hb
 exact Sa hh co (Nat.le_of_ble_eq_true hD) hs Dv (by rw[hl,hn]) (hn▸AE) (fun vals h=>hb vals (h.trans hn)) h
theorem gF(F:aP g)(hS:aF C "self")(h:Q (.str z.buf) (("self",.val .self)::loc) (some (z.sc ka ko))):
  EW g D C ρ X (.Attribute (.Name "self" np) "buffer" pos) (("self",.val .self)::loc) (some (z.sc ka ko)) Q:=iT (i:=4) (F.attr _ (by simp[aJ])) hS rfl rfl rfl rfl h
theorem eV(F:aP g)(hS:aF C "self")(h:Q (.int z.ptr) (("self",.val .self)::loc) (some (z.sc ka ko))):
  EW g D C ρ X (.Attribute (.Name "self" np) "pointer" pos) (("self",.val .self)::loc) (some (z.sc ka ko)) Q:=iT (i:=5) (F.attr _ (by simp[aJ])) hS rfl rfl rfl rfl h
theorem vG(F:aP g)(hS:aF C "self")(h:Q (.none) (("self",.val .self)::loc) (some (z.sc ka ko))):
  EW g D C ρ X (.Attribute (.Name "self" np) "raw_buffer" pos) (("self",.val .self)::loc) (some (z.sc ka ko)) Q:=iT (i:=6) (F.attr _ (by simp[aJ])) hS rfl rfl rfl rfl h
theorem Eb(F:aP g)(hS:aF C "self")(h:Q (.none) (("self",.val .self)::loc) (some (z.sc ka ko))):
  EW g D C ρ X (.Attribute (.Name "self" np) "stream" pos) (("self",.val .self)::loc) (some (z.sc ka ko)) Q:=iT (i:=1) (F.attr _ (by simp[aJ])) hS rfl rfl rfl rfl h
theorem Mx(F:aP g)(hS:aF C "self")(h:Q (.str "<unicode string>") (("self",.val .self)::loc) (some (z.sc ka ko))):
  EW g D C ρ X (.Attribute (.Name "self" np) "name" pos) (("self",.val .self)::loc) (some (z.sc ka ko)) Q:=iT (i:=0) (F.attr _ (by simp[aJ])) hS rfl rfl rfl rfl h
theorem oO(F:aP g)(hS:aF C "self")(h:Q (.int z.ptr) (("self",.val .self)::loc) (some (z.sc ka ko))):
  EW g D C ρ X (.Attribute (.Name "self" np) "index" pos) (("self",.val .self)::loc) (some (z.sc ka ko)) Q:=iT (i:=9) (F.attr _ (by simp[aJ])) hS rfl rfl rfl rfl h
theorem tQ(F:aP g)(hS:aF C "self")(h:Q (.int z.line) (("self",.val .self)::loc) (some (z.sc ka ko))):
  EW g D C ρ X (.Attribute (.Name "self" np) "line" pos) (("self",.val .self)::loc) (some (z.sc ka ko)) Q:=iT (i:=10) (F.attr _ (by simp[aJ])) hS rfl rfl rfl rfl h
theorem jB(F:aP g)(hS:aF C "self")(h:Q (.int z.col) (("self",.val .self)::loc) (some (z.sc ka ko))):
  EW g D C ρ X (.Attribute (.Name "self" np) "column" pos) (("self",.val .self)::loc) (some (z.sc ka ko)) Q:=iT (i:=11) (F.attr _ (by simp[aJ])) hS rfl rfl rfl rfl h
theorem Mw(F:aP g)(hS:aF C "self")(h:Q (.bool z.done) (("self",.val .self)::loc) (some (z.sc ka ko))):
  EW g D C ρ X (.Attribute (.Name "self" np) "done" pos) (("self",.val .self)::loc) (some (z.sc ka ko)) Q:=iT (i:=12) (F.attr _ (by simp[aJ])) hS rfl rfl rfl rfl h
theorem bC(F:aP g)(hS:aF C "self")(h:Q (.int z.aH) (("self",.val .self)::loc) (some (z.sc ka ko))):
  EW g D C ρ X (.Attribute (.Name "self" np) "flow_level" pos) (("self",.val .self)::loc) (some (z.sc ka ko)) Q:=iT (i:=13) (F.attr _ (by simp[aJ])) hS rfl rfl rfl rfl h
theorem gZ(F:aP g)(hS:aF C "self")(h:Q (.toks) (("self",.val .self)::loc) (some (z.sc ka ko))):
  EW g D C ρ X (.Attribute (.Name "self" np) "tokens" pos) (("self",.val .self)::loc) (some (z.sc ka ko)) Q:=iT (i:=14) (F.attr _ (by simp[aJ])) hS rfl rfl rfl rfl h
theorem gT(F:aP g)(hS:aF C "self")(h:Q (.int z.taken) (("self",.val .self)::loc) (some (z.sc ka ko))):
  EW g D C ρ X (.Attribute (.Name "self" np) "tokens_taken" pos) (("self",.val .self)::loc) (some (z.sc ka ko)) Q:=iT (i:=15) (F.attr _ (by simp[aJ])) hS rfl rfl rfl rfl h
theorem kW(F:aP g)(hS:aF C "self")(h:Q (.int z.indent) (("self",.val .self)::loc) (some (z.sc ka ko))):
  EW g D C ρ X (.Attribute (.Name "self" np) "indent" pos) (("self",.val .self)::loc) (some (z.sc ka ko)) Q:=iT (i:=16) (F.attr _ (by simp[aJ])) hS rfl rfl rfl rfl h
theorem sC(F:aP g)(hS:aF C "self")(h:Q (.oW) (("self",.val .self)::loc) (some (z.sc ka ko))):
  EW g D C ρ X (.Attribute (.Name "self" np) "indents" pos) (("self",.val .self)::loc) (some (z.sc ka ko)) Q:=iT (i:=17) (F.attr _ (by simp[aJ])) hS rfl rfl rfl rfl h
theorem kE(F:aP g)(hS:aF C "self")(h:Q (.bool z.allow) (("self",.val .self)::loc) (some (z.sc ka ko))):
  EW g D C ρ X (.Attribute (.Name "self" np) "allow_simple_key" pos) (("self",.val .self)::loc) (some (z.sc ka ko)) Q:=iT (i:=18) (F.attr _ (by simp[aJ])) hS rfl rfl rfl rfl h
theorem lV(F:aP g)(hS:aF C "self")(h:Q (.glob (.ref ka)) (("self",.val .self)::loc) (some (z.sc ka ko))):
  EW g D C ρ X (.Attribute (.Name "self" np) "possible_simple_keys" pos) (("self",.val .self)::loc) (some (z.sc ka ko)) Q:=Ec (F.attr _ (by simp[aJ])) rfl (bY hS (.head _) ⟨rfl,_,rfl,h⟩)
theorem Nl{Q:eM}(F:aP g)(hS:aF C "self")(hs:swapsWith e (some (.Attribute (.Name "self" np) "done" p)) pos.line C.env=pure false)
  (h:EW g D C ρ X e loc σ (fun v l s=>∃(b:Bool) (z:Z) (ka:Addr) (ko:Obj) (l':aM),v=.bool b/\s=some (z.sc ka ko)/\l=(("self",.val .self)::l':aM)/\Q .next l (some ({z with done:=b}.sc ka ko)))):
  kA g D C ρ X (.Assign [.Attribute (.Name "self" np) "done" p] e pos) loc σ Q:=by
 refine oR (i:=12) F.so (F.Mk _ (by simp[aJ])) hs rfl (aR rfl) (h.mono fun v l s q=>?_);refine Mu q ?_;try clear q;intro b z ka ko l' fE qR Hg q;subst fE qR Hg;exact bY hS (.head _) ⟨rfl,z.sc ka ko,({z with done:=b}:Z).sc ka ko,rfl,rfl,rfl,rfl,(fH rfl rfl rfl),q⟩
theorem uT{Q:eM}(F:aP g)(hS:aF C "self")(hs:swapsWith e (some (.Attribute (.Name "self" np) "indent" p)) pos.line C.env=pure false)
  (h:EW g D C ρ X e loc σ (fun v l s=>∃(b:Int) (z:Z) (ka:Addr) (ko:Obj) (l':aM),v=.int b/\s=some (z.sc ka ko)/\l=(("self",.val .self)::l':aM)/\Q .next l (some ({z with indent:=b}.sc ka ko)))):
  kA g D C ρ X (.Assign [.Attribute (.Name "self" np) "indent" p] e pos) loc σ Q:=by
 refine oR (i:=16) F.so (F.Mk _ (by simp[aJ])) hs rfl (aR rfl) (h.mono fun v l s q=>?_);refine Mu q ?_;try clear q;intro b z ka ko l' fE qR Hg q;subst fE qR Hg;exact bY hS (.head _) ⟨rfl,z.sc ka ko,({z with indent:=b}:Z).sc ka ko,rfl,rfl,rfl,rfl,(fH rfl rfl rfl),q⟩
theorem aZ{Q:eM}(F:aP g)(hS:aF C "self")(hs:swapsWith e (some (.Attribute (.Name "self" np) "allow_simple_key" p)) pos.line C.env=pure false)
  (h:EW g D C ρ X e loc σ (fun v l s=>∃(b:Bool) (z:Z) (ka:Addr) (ko:Obj) (l':aM),v=.bool b/\s=some (z.sc ka ko)/\l=(("self",.val .self)::l':aM)/\Q .next l (some ({z with allow:=b}.sc ka ko)))):
  kA g D C ρ X (.Assign [.Attribute (.Name "self" np) "allow_simple_key" p] e pos) loc σ Q:=by
 refine oR (i:=18) F.so (F.Mk _ (by simp[aJ])) hs rfl (aR rfl) (h.mono fun v l s q=>?_);refine Mu q ?_;try clear q;intro b z ka ko l' fE qR Hg q;subst fE qR Hg;exact bY hS (.head _) ⟨rfl,z.sc ka ko,({z with allow:=b}:Z).sc ka ko,rfl,rfl,rfl,rfl,(fH rfl rfl rfl),q⟩
theorem Ep{Q:eM}(F:aP g)(hS:aF C "self")(hs:swapsWith e (some (.Attribute (.Name "self" np) "column" p)) pos.line C.env=pure false)
  (h:EW g D C ρ X e loc σ (fun v l s=>∃(b:Int) (z:Z) (ka:Addr) (ko:Obj) (l':aM),v=.int b/\s=some (z.sc ka ko)/\l=(("self",.val .self)::l':aM)/\Q .next l (some ({z with col:=b}.sc ka ko)))):
  kA g D C ρ X (.Assign [.Attribute (.Name "self" np) "column" p] e pos) loc σ Q:=by
 refine oR (i:=11) F.so (F.Mk _ (by simp[aJ])) hs rfl (aR rfl) (h.mono fun v l s q=>?_);refine Mu q ?_;try clear q;intro b z ka ko l' fE qR Hg q;subst fE qR Hg;exact bY hS (.head _) ⟨rfl,z.sc ka ko,({z with col:=b}:Z).sc ka ko,rfl,rfl,rfl,rfl,(fH rfl rfl rfl),q⟩
theorem kH{name:Str}{i:Nat}{Q:eM}(hm:iK g 1048 name)(so:qT g 1048)(tk:takerIn g.K 1048 name=some none)(hi:aJ[i]?=some name)(Ww:i<19)
  (h:EW g D C ρ X o loc σ (fun u l s=>u=.self/\∃sc a,s=some sc/\(name,V.int a)∈aJ.zip (gC sc)/\EW g D C ρ X e l s (fun v l' s'=>s'=s/\∃b kD,v=.int b/\gC kD=(gC sc).set i (.int (a+b))/\kD.tokens=sc.tokens/\kD.aO=sc.aO/\(kD.keys=sc.keys/\kD.dF=sc.dF/\kD.kM=sc.kM)/\Q .next l' (some kD)))):
  kA g D C ρ X (.AugAssign (.Attribute o name p) .Add e pos) loc σ Q:=by
 refine wO (i:=i) (.inl rfl) hm so tk hi Ww (h.mono fun u l s q=>?_);obtain⟨e1,sc,a,e2,e3,q⟩:=q;refine⟨e1,sc,a,e2,e3,q.mono fun v l' s' q=>?_⟩;obtain⟨e4,b,kD,e5,e6,e7⟩:=q;refine⟨e4,b,kD,e5,?_,e7⟩;rw[e6]
 congr 2
theorem Ie{name:Str}{i:Nat}{Q:eM}(hm:iK g 1048 name)(so:qT g 1048)(tk:takerIn g.K 1048 name=some none)(hi:aJ[i]?=some name)(Ww:i<19)
  (h:EW g D C ρ X o loc σ (fun u l s=>u=.self/\∃sc a,s=some sc/\(name,V.int a)∈aJ.zip (gC sc)/\EW g D C ρ X e l s (fun v l' s'=>s'=s/\∃b kD,v=.int b/\gC kD=(gC sc).set i (.int (a-b))/\kD.tokens=sc.tokens/\kD.aO=sc.aO/\(kD.keys=sc.keys/\kD.dF=sc.dF/\kD.kM=sc.kM)/\Q .next l' (some kD)))):
  kA g D C ρ X (.AugAssign (.Attribute o name p) .Sub e pos) loc σ Q:=by
 refine wO (i:=i) (.inr rfl) hm so tk hi Ww (h.mono fun u l s q=>?_);obtain⟨e1,sc,a,e2,e3,q⟩:=q;refine⟨e1,sc,a,e2,e3,q.mono fun v l' s' q=>?_⟩;obtain⟨e4,b,kD,e5,e6,e7⟩:=q;refine⟨e4,b,kD,e5,?_,e7⟩;rw[e6]
 congr 2
theorem Bs{j:Int}{k:Nat}{Q:eM}(F:aP g)(hS:aF C "self")(h:Q .next (("self",.val .self)::loc) (some ({z with line:=z.line+j}.sc ka ko))):
  kA g D C ρ X (.AugAssign (.Attribute (.Name "self" np) "line" p) .Add (.Constant (.int j) k cp) pos) (("self",.val .self)::loc) (some (z.sc ka ko)) Q:=
 kH (i:=10) (F.attr _ (by simp[aJ])) F.so (F.Mk _ (by simp[aJ])) rfl (aR rfl) (bY hS (.head _) ⟨rfl,z.sc ka ko,z.line,rfl,mX (i:=10) rfl rfl,aQ ⟨rfl,j,({z with line:=z.line+j}:Z).sc ka ko,rfl,rfl,rfl,rfl,(fH rfl rfl rfl),h⟩⟩)
theorem wN{j:Int}{k:Nat}{Q:eM}(F:aP g)(hS:aF C "self")(h:Q .next (("self",.val .self)::loc) (some ({z with col:=z.col+j}.sc ka ko))):
  kA g D C ρ X (.AugAssign (.Attribute (.Name "self" np) "column" p) .Add (.Constant (.int j) k cp) pos) (("self",.val .self)::loc) (some (z.sc ka ko)) Q:=
 kH (i:=11) (F.attr _ (by simp[aJ])) F.so (F.Mk _ (by simp[aJ])) rfl (aR rfl) (bY hS (.head _) ⟨rfl,z.sc ka ko,z.col,rfl,mX (i:=11) rfl rfl,aQ ⟨rfl,j,({z with col:=z.col+j}:Z).sc ka ko,rfl,rfl,rfl,rfl,(fH rfl rfl rfl),h⟩⟩)
theorem pI{j:Int}{k:Nat}{Q:eM}(F:aP g)(hS:aF C "self")(h:Q .next (("self",.val .self)::loc) (some ({z with taken:=z.taken+j}.sc ka ko))):
  kA g D C ρ X (.AugAssign (.Attribute (.Name "self" np) "tokens_taken" p) .Add (.Constant (.int j) k cp) pos) (("self",.val .self)::loc) (some (z.sc ka ko)) Q:=
 kH (i:=15) (F.attr _ (by simp[aJ])) F.so (F.Mk _ (by simp[aJ])) rfl (aR rfl) (bY hS (.head _) ⟨rfl,z.sc ka ko,z.taken,rfl,mX (i:=15) rfl rfl,aQ ⟨rfl,j,({z with taken:=z.taken+j}:Z).sc ka ko,rfl,rfl,rfl,rfl,(fH rfl rfl rfl),h⟩⟩)
theorem rH{j:Int}{k:Nat}{Q:eM}(F:aP g)(hS:aF C "self")(h:Q .next (("self",.val .self)::loc) (some ({z with aH:=z.aH+j}.sc ka ko))):
  kA g D C ρ X (.AugAssign (.Attribute (.Name "self" np) "flow_level" p) .Add (.Constant (.int j) k cp) pos) (("self",.val .self)::loc) (some (z.sc ka ko)) Q:=
 kH (i:=13) (F.attr _ (by simp[aJ])) F.so (F.Mk _ (by simp[aJ])) rfl (aR rfl) (bY hS (.head _) ⟨rfl,z.sc ka ko,z.aH,rfl,mX (i:=13) rfl rfl,aQ ⟨rfl,j,({z with aH:=z.aH+j}:Z).sc ka ko,rfl,rfl,rfl,rfl,(fH rfl rfl rfl),h⟩⟩)
theorem rI{j:Int}{k:Nat}{Q:eM}(F:aP g)(hS:aF C "self")(h:Q .next (("self",.val .self)::loc) (some ({z with aH:=z.aH-j}.sc ka ko))):
  kA g D C ρ X (.AugAssign (.Attribute (.Name "self" np) "flow_level" p) .Sub (.Constant (.int j) k cp) pos) (("self",.val .self)::loc) (some (z.sc ka ko)) Q:=
 Ie (i:=13) (F.attr _ (by simp[aJ])) F.so (F.Mk _ (by simp[aJ])) rfl (aR rfl) (bY hS (.head _) ⟨rfl,z.sc ka ko,z.aH,rfl,mX (i:=13) rfl rfl,aQ ⟨rfl,j,({z with aH:=z.aH-j}:Z).sc ka ko,rfl,rfl,rfl,rfl,(fH rfl rfl rfl),h⟩⟩)
end
theorem oS(x:Str)(c:Nat):Txt.contains x ⟨#[c]⟩=x.cps.toList.contains c:=by
 unfold Txt.contains;rw[StrLaws.found_one];rw[List.contains_eq_mem]
theorem fJ{c:Nat}(l:List Nat){k:Bool->Prop}(e:y.cps.toList=l)(hk:k (isIn l c)):sG .In (sv [c]) (.str y) k:=by
 show k (Txt.contains y ⟨#[c]⟩);rw[oS,e];exact hk
theorem nC{c:Nat}(l:List Nat){k:Bool->Prop}(e:y.cps.toList=l)(hk:k (!isIn l c)):sG .NotIn (sv [c]) (.str y) k:=by
 show k (!Txt.contains y ⟨#[c]⟩);rw[oS,e];exact hk
theorem Mi(x y:Str):(x==y)=decide (x.cps.toList=y.cps.toList):=by
 obtain⟨⟨x⟩⟩:=x;obtain⟨⟨y⟩⟩:=y
 by_cases h:x=y
 ·subst h;simp
 ·have:(Str.mk ⟨x⟩==Str.mk ⟨y⟩)=false:=by
   rw[beq_eq_false_iff_ne];intro e;cases e;exact h rfl
  rw[this];simp[h]
theorem rK{l:List Nat}(d:List Nat){k:Bool->Prop}(e:y.cps.toList=d)(hk:k (decide (l=d))):sG .Eq (sv l) (.str y) k:=by
 show k ((⟨l.toArray⟩:Str)==y);rw[Mi,e];exact hk
theorem Iq{l:List Nat}(d:List Nat){k:Bool->Prop}(e:y.cps.toList=d)(hk:k (decide (l≠d))):sG .NotEq (sv l) (.str y) k:=by
 show k ((⟨l.toArray⟩:Str) !=y);have:((⟨l.toArray⟩:Str) !=y)=decide (l≠d):=by
  rw[bne,Mi,e];simp
 rw[this];exact hk
theorem dZ{c:Nat}(d:Nat){k:Bool->Prop}(e:y.cps.toList=[d])(hk:k (decide (c=d))):sG .Eq (sv [c]) (.str y) k:=by
 refine rK [d] e ?_;have:decide ([c]=[d])=decide (c=d):=by simp
 rw[this];exact hk
theorem Ca{c:Nat}(d:Nat){k:Bool->Prop}(e:y.cps.toList=[d])(hk:k (decide (c≠d))):sG .NotEq (sv [c]) (.str y) k:=by
 refine Iq [d] e ?_;have:decide ([c]≠[d])=decide (c≠d):=by simp
 rw[this];exact hk
theorem vV{c:Nat}{k:Bool->Prop}(ex:x.cps.toList=[c])(e:y.cps.toList=[d])(hk:k (decide (c<=d))):sG .LtE (.str x) (.str y) k:=by
 show k (!decide (y.cps.toList<x.cps.toList));have:(!decide (y.cps.toList<x.cps.toList))=decide (c<=d):=by
  rw[e,ex]
  by_cases h:c<=d
  ·have:¬[d]<[c]:=by intro q;rw[List.cons_lt_cons_iff] at q;exact q.elim (fun q=>absurd q (Nat.not_lt.mpr h)) fun q=>List.not_lt_nil _ q.2
   simp[h,this]
  ·have:[d]<[c]:=by rw[List.cons_lt_cons_iff];exact .inl (Nat.not_le.mp h)
   simp[h,this]
 rw[this];exact hk
theorem Jl(l:List Nat){p:Nat}(hp:p<=l.length):∀m,m<=l.length-p->((List.range m).map (p+ ·)).filterMap (fun i=>l[i]?)=(l.drop p).take m:=by
 intro m;induction m with
 |zero=>intro _;simp
 |succ m ih=>
  intro hm;rw[List.range_succ,u6,List.filterMap_append,ih (Nat.le_of_succ_le hm)];have oH:p+m<l.length:=v9 (r9 (v7 ..)) (Nat.add_lt_of_lt_sub hm);rw[List.take_add_one,List.getElem?_drop]
  simp[oH]
theorem Jv(x:Str){lo up:Option Int}{p m:Nat}(hp:p<=x.length)(hm:m<=x.length-p)(hi:Builtin.Str.strSliceIndices lo up 1 x.length=(List.range m).map (p+ ·)):Txt.slice x lo up=⟨((x.cps.toList.drop p).take m).toArray⟩:=by
 obtain⟨⟨l⟩⟩:=x;have hl:Str.length ⟨⟨l⟩⟩=l.length:=rfl;rw[hl] at hp hm hi;unfold Txt.slice;rw[hl,hi]
 split
 ·rename_i h
  simp only[beq_self_eq_true,Bool.true_and,beq_iff_eq,t7,List.length_range] at h;have ZM:l.length=0\/p=0:=(Nat.eq_zero_or_pos l.length).imp_right fun hl=>Nat.eq_zero_of_not_pos fun hp=>absurd (q5 (r9 h.symm) hm) (Nat.not_le.mpr (Nat.sub_lt hl hp))
  rcases ZM with h0|h0
  ·have:l=[]:=List.length_eq_zero_iff.mp h0;subst this;simp
  ·subst h0;rw[List.drop_zero,List.take_of_length_le (by show l.length<=m;exact r9 h.symm)]
 ·have e:(fun(i:Nat)=>(⟨l⟩:Array Nat)[i]?)=fun i=>l[i]?:=by funext i;simp
  show Str.mk (List.filterMap (fun(i:Nat)=>(⟨l⟩:Array Nat)[i]?) _).toArray=_;rw[e,Jl l hp m hm]
theorem yH(p q:Nat):sliceRange (p:Int) (q:Int) 1=(List.range (q-p)).map (p+ ·):=by
 have e:(if(p:Int)<q then((q:Int)-p+1-1)/1 else 0).toNat=q-p:=by
  by_cases h:(p:Int)<q
  ·rw[if_pos h,Int.ediv_one,Int.add_sub_cancel,Int.toNat_sub]
  ·rw[if_neg h,Nat.sub_eq_zero_of_le (Int.ofNat_le.mp (Int.not_lt.mp h))];rfl
 show(List.range (if(p:Int)<q then((q:Int)-p+1-1)/1 else 0).toNat).map _=_;rw[e];exact List.map_congr_left fun k U=>by rw[Int.one_mul];exact Int.toNat_natCast (p+k)
theorem CM(i l:Nat):max (0:Int) (min (if(i:Int)<0 then(i:Int)+l else i) l)=((min i l:Nat):Int):=by
 rw[if_neg (Int.not_lt.mpr (u4 i))]
 rcases Nat.le_total i l with h|h
 ·rw[Nat.min_eq_left h,Int.min_eq_left (Int.ofNat_le.mpr h),Int.max_eq_right (u4 _)]
 ·rw[Nat.min_eq_right h,Int.min_eq_right (Int.ofNat_le.mpr h),Int.max_eq_right (u4 _)]
theorem TR(p n l:Nat):min (p+n) l-p=min n (l-p):=by
 rw[←Nat.sub_min_sub_right,Nat.add_sub_cancel_left]
theorem Pl(x:Str){p n:Nat}(hp:p<=x.length):Txt.slice x (some (p:Int)) (some ((p:Int)+n))=⟨((x.cps.toList.drop p).take n).toArray⟩:=by
 rw[Jv x (p:=p) (m:=min n (x.length-p)) hp (Nat.min_le_right _ _) ?_]
 ·have:(x.cps.toList.drop p).length=x.length-p:=List.length_drop ..;rw[←this,←List.take_eq_take_min]
 ·show sliceRange (max 0 (min (if((p:Nat):Int)<0 then(p:Int)+(x.length:Nat) else p) (x.length:Nat))) (max 0 (min (if(p:Int)+n<0 then(p:Int)+n+(x.length:Nat) else(p:Int)+n) (x.length:Nat))) 1=_;rw[CM p,←Int.natCast_add p n,CM (p+n),yH,Nat.min_eq_left hp,TR]
theorem CO{i:Int}(h0:0<=i)(h1:i<2 ^ 63):fitsSsize i=true:=by
 unfold fitsSsize;rw[u0 (Int.not_lt.mpr (Int.le_trans (aR rfl) h0)),u0 (Int.not_le.mpr h1)];rfl
theorem Ok.item(ok:Ok z){k c:Nat}(h:z.rem[k]?=some c):fitsSsize (z.ptr+k)=true/\-(z.buf.length:Int)<=z.ptr+k/\z.ptr+k<z.buf.length/\Txt.item z.buf (z.ptr+k)=⟨#[c]⟩:=by
 refine jM ok.ex fun n e1 e2 e3=>?_;have hk:k<z.rem.length:=(List.getElem?_eq_some_iff.mp h).1;have hN:n+k<z.buf.length:=e3▸Nat.add_lt_add_left hk n;have oH:((n+k:Nat):Int)<z.buf.length:=Int.ofNat_lt.mpr hN;rw[e1,←Int.natCast_add];refine⟨CO (u4 _) (Int.lt_trans (Int.lt_of_lt_of_le oH (Int.ofNat_le.mpr ok.sz)) (aR rfl)),Int.le_trans (Int.neg_nonpos_of_nonneg (u4 _)) (u4 _),oH,?_⟩
 ·rw[item_meets ⟨u4 _,oH⟩,Int.toNat_natCast];rw[e2,List.getElem?_drop] at h;rw[Array.getD_eq_getD_getElem?,←Array.getElem?_toList,h]
  rfl
section
variable{D:Nat}
theorem Zp(F:aP g){k c:Nat}(ok:Ok z)(hc:z.rem[k]?=some c){X:nA}{Q:mF}(h:Q (sv [c]) (some (z.sc ka ko))):
  FW g 0 ρ X 152 [.self,.int k] (some (z.sc ka ko)) Q:=by
 refine cK (F.d 0 rfl) [] rfl rfl (by kernel_rfl) fun C' B=>?_;have hS:aF C' "self":=B.loc rfl rfl;refine aA rfl (Es ?_);refine aA rfl (bV ?_);refine mC (fun U U U U=>rfl) (fun U U U=>rfl) ?_;refine gF F hS ?_;refine lG ?_;refine eV F hS ?_;refine bY (B.loc rfl rfl) (.tail _ (.head _)) ?_;refine rB (ok.item hc) fun h1 h2 h3 h4=>?_;refine⟨_,_,rfl,rfl,z.buf,_,rfl,rfl,h1,h2,h3,?_⟩;rw[h4];exact h
theorem fU{C:Cx}{X:eZ}{loc:aM}{D':Nat}{name:Str}{sc:Sc}(hh:C.A.handled=Option.none)(m:Em g name f)(hD:Nat.ble (D'+1) D=true)(hS:aF C "self")(he:dJ (.Name "self" np) name apos pos args C.env)(hs:bA pos args C.env)
  (h:AW g D C ρ X args (("self",.val .self)::loc) (some sc) (fun vs l' s'=>FW g D' ρ (fun x s=>X x l' s) f (.self::vs) s' (fun r s2=>Q r l' s2))):
  EW g D C ρ X (.Call (.Attribute (.Name "self" np) name apos) args [] pos) (("self",.val .self)::loc) (some sc) Q:=
 uQ hh m.1 m.2 (Nat.le_of_ble_eq_true hD) he hs (bY hS (.head _) ⟨rfl,rfl,h⟩)
theorem Tu(F:aP g){c:Nat}(ok:Ok z)(hc:z.rem[0]?=some c){X:nA}{Q:mF}(h:Q (sv [c]) (some (z.sc ka ko))):
  FW g 0 ρ X 152 [.self] (some (z.sc ka ko)) Q:=by
 refine cK (F.d 1 rfl) [] rfl rfl (by kernel_rfl) fun C' B=>?_;have hS:aF C' "self":=B.loc rfl rfl;refine aA rfl (Es ?_);refine aA rfl (bV ?_);refine mC (fun U U U U=>rfl) (fun U U U=>rfl) ?_;refine gF F hS ?_;refine lG ?_;refine eV F hS ?_;refine bY (B.loc rfl rfl) (.tail _ (.head _)) ?_;refine rB (ok.item hc) fun h1 h2 h3 h4=>?_;refine⟨_,_,rfl,rfl,z.buf,_,rfl,rfl,h1,h2,h3,?_⟩;rw[show z.ptr+0=z.ptr+((0:Nat):Int) from rfl,h4];exact h
theorem Ac(F:aP g){v:V}{X:nA}{Q:mF}(h:Q .none (some (z.sc ka ko))):
  FW g 0 ρ X 189 [.self,v] (some (z.sc ka ko)) Q:=by
 refine cK (F.d 7 rfl) [] rfl rfl (by kernel_rfl) fun C' B=>?_;have hS:aF C' "self":=B.loc rfl rfl;refine aA rfl (aW rfl (aL rfl ?_));refine vG F hS ?_;refine bT ?_;refine⟨fun U=>?_,fun h=>by cases h⟩;exact aA rfl (Ku h)
theorem Zn(F:aP g){X:nA}{Q:mF}(h:Q z.mark (some (z.sc ka ko))):
  FW g 2 ρ X 175 [.self] (some (z.sc ka ko)) Q:=by
 refine cK (F.d 5 rfl) [] rfl rfl (by kernel_rfl) fun C' B=>?_;have hS:aF C' "self":=B.loc rfl rfl;refine aA rfl (aW rfl (aL rfl ?_));refine Eb F hS ?_;refine bT ?_;refine⟨fun U=>?_,fun h=>by cases h⟩;refine aA rfl (bV (iL (F.c 0 rfl) rfl rfl rfl ?_));refine cR (F.gl 0 rfl) (B.glob rfl) rfl ⟨rfl,?_⟩;refine Mx F hS ?_;refine oO F hS ?_;refine tQ F hS ?_;refine jB F hS ?_;refine gF F hS ?_;refine eV F hS ?_;exact⟨rfl,h⟩
theorem Oh(F:aP g)(k:Nat)(ok:Ok z){X:nA}{Q:mF}(h:Q (sv (z.rem.take k)) (some (z.sc ka ko))):
  FW g 1 ρ X 160 [.self,.int k] (some (z.sc ka ko)) Q:=by
 refine cK (F.d 2 rfl) [] rfl rfl (by kernel_rfl) fun C' B=>?_;have hS:aF C' "self":=B.loc rfl rfl;have fin:SW g 1 C' ρ (fun x U s=>X x s) ((aU 8 2).body.drop 1) [("self",.val .self),("length",.val (.int k))] (some (z.sc ka ko)) (iU Q):=by
  refine aA rfl (bV ?_);refine Eg (fun U U U=>rfl) (fun U U U=>rfl) ?_;refine gF F hS ?_;refine eV F hS ?_;refine lG ?_;refine eV F hS ?_;refine aE B 1 rfl rfl rfl ?_;refine jM ok.ex fun n e1 e2 e3=>?_;have hs:=ok.sz;refine⟨_,_,rfl,rfl,z.buf,_,_,rfl,rfl,rfl,by unfold sizeLine;exact q5 hs (aR rfl),?_⟩;rw[e1,Pl z.buf (e3▸x7 ..),←e2];exact h
 refine aA rfl (aW rfl (aL rfl ?_));refine lG ?_;refine eV F hS ?_;refine aE B 1 rfl rfl rfl ?_;refine⟨_,_,rfl,rfl,?_⟩;refine rC rfl (dY (F.n 0 rfl) rfl (aR rfl) (B.glob rfl) rfl ⟨rfl,?_⟩);refine gF F hS ?_;refine⟨by have:=ok.sz;unfold sizeLine;exact q5 this (aR rfl),?_⟩;refine⟨fun U=>?_,fun U=>aC fin⟩;refine aA rfl (cJ (B.int rfl) rfl ?_);refine fU B.hh (F.mn 5 rfl) (D':=0) rfl hS ⟨_,rfl⟩ rfl ?_;refine aE B 1 rfl rfl rfl ?_;refine Ac F ?_;exact⟨rfl,aC fin⟩
end
section
variable{D:Nat}
theorem AW.mono{C:Cx}{X:eZ}:∀{args:List Expr} {loc:aM} {σ:bX} {Q Q':List V->aM->bX->Prop},AW g D C ρ X args loc σ Q->(∀vs l s,Q vs l s->Q' vs l s)->AW g D C ρ X args loc σ Q'
 |[],_,_,_,_,h,k=>k _ _ _ h
 |_::_,_,_,_,_,h,k=>EW.mono h fun U U U h=>AW.mono h fun U U U h=>k _ _ _ h
theorem Ok.XR(ok:Ok z){c:Nat}(e:z.rem=c::r){z':Z}(e1:z'.buf=z.buf)(e2:z'.ptr=z.ptr+1)(e3:z'.rem=r):Ok z':=by
 refine jM ok.ex fun n a b d=>?_;refine⟨(tS (n+1) ?_ ?_ ?_),?_,by rw[e1];exact ok.cs⟩
 ·rw[e2,a];rfl
 ·rw[e3,e1];have:z.buf.cps.toList.drop (n+1)=(z.buf.cps.toList.drop n).drop 1:=by rw[List.drop_drop]
  rw[this,←b,e];rfl
 ·rw[e3,e1];rw[e] at d;simp only[List.length_cons] at d;exact(Nat.add_right_comm ..).trans d
 ·rw[e1];exact ok.sz
theorem Ok.same{z':Z}(ok:Ok z)(e1:z'.buf=z.buf)(e2:z'.ptr=z.ptr)(e3:z'.rem=z.rem):Ok z':=by
 refine jM ok.ex fun n a b d=>?_;exact⟨(tS n (e2.trans a) (by rw[e3,e1];exact b) (by rw[e3,e1];exact d)),by rw[e1];exact ok.sz,by rw[e1];exact ok.cs⟩
theorem Uv(ok:Ok z):z.buf.length<=sizeLine:=by have:=ok.sz;unfold sizeLine;exact q5 this (aR rfl)
theorem Cg(F:aP g){C:Cx}{X:eZ}(B:Bd C (aU 8 3)){m:Nat}{lv:LV}(ok:Ok z){Q:eM}{P:Z->Prop}(H:(bO z).wp (fun U z=>P z) (fun U U=>True))
  (h:∀z' lv ka ko,Ok z'->P z'->Q .next [("self",.val .self),("length",.val (.int (m:Int))),("ch",lv)] (some (z'.sc ka ko))):
  SW g 1 C ρ X (tM (aU 8 3).body 1 0) [("self",.val .self),("length",.val (.int ((m+1:Nat):Int))),("ch",lv)] (some (z.sc ka ko)) Q:=by
 have hS:aF C "self":=B.loc rfl rfl;cases e:z.rem with
 |nil=>unfold bO at H;rw[e] at H;exact H.elim
 |cons c r=>
 unfold bO at H;rw[e] at H;dsimp only at H;have hc:z.rem[0]?=some c:=by rw[e];rfl
 refine rB (ok.item hc) fun h1 h2 h3 h4=>?_;rw[show z.ptr+((0:Nat):Int)=z.ptr from u9 _] at h1 h2 h3 h4;refine aA rfl (aD rfl (B.loc (x:="ch") rfl rfl).1 ?_);refine mC (fun U U U U=>rfl) (fun U U U=>rfl) ?_;refine gF F hS ?_;refine eV F hS ?_;refine⟨z.buf,_,rfl,rfl,h1,h2,h3,_,.cM 2 rfl rfl,?_⟩;rw[h4];refine aA rfl (kH (i:=5) (F.attr _ (by simp[aJ])) F.so (F.Mk _ (by simp[aJ])) rfl (aR rfl) (bY hS (.head _) ⟨rfl,z.sc ka ko,z.ptr,rfl,mX (i:=5) rfl rfl,aQ ⟨rfl,1,{z.sc ka ko with ptr:=z.ptr+1},rfl,rfl,rfl,rfl,(fH rfl rfl rfl),?_⟩⟩))
 refine aA rfl (kH (i:=9) (F.attr _ (by simp[aJ])) F.so (F.Mk _ (by simp[aJ])) rfl (aR rfl) (bY hS (.head _) ⟨rfl,{z.sc ka ko with ptr:=z.ptr+1},z.ptr,rfl,mX (i:=9) rfl rfl,aQ ⟨rfl,1,({z with ptr:=z.ptr+1,rem:=r}:Z).sc ka ko,rfl,rfl,rfl,rfl,(fH rfl rfl rfl),?_⟩⟩))
 have PW:Ok {z with ptr:=z.ptr+1,rem:=r}:=ok.XR e rfl rfl rfl
 have fin:∀z',Ok z'->P z'->SW g 1 C ρ X ((tM (aU 8 3).body 1 0).drop 4) [("self",.val .self),("length",.val (.int ((m+1:Nat):Int))),("ch",.val (sv [c]))] (some (z'.sc ka ko)) Q:=by
  intro z' Gj hP;refine aA rfl (nZ (B.loc (x:="length") rfl rfl).1 (aN 1 rfl) (aQ ⟨1,rfl,_,.cM 1 rfl rfl,aC ?_⟩));rw[show(((m+1:Nat):Int)-1)=(m:Int) from Int.add_sub_cancel (m:Int) 1];exact h z' _ ka ko Gj hP
 have nl:P {z with ptr:=z.ptr+1,rem:=r,line:=z.line+1,col:=0}->SW g 1 C ρ X (tM (tM (aU 8 3).body 1 0) 3 0) [("self",.val .self),("length",.val (.int ((m+1:Nat):Int))),("ch",.val (sv [c]))] (some (({z with ptr:=z.ptr+1,rem:=r}:Z).sc ka ko))
   (lQ g 1 C ρ X ((tM (aU 8 3).body 1 0).drop 4) Q):=by
  intro hP;refine aA rfl (Bs F hS ?_);refine aA rfl (Ep F hS rfl (aQ (oP _ _ ka ko _ rfl rfl rfl (aC ?_))));exact fin _ (PW.same rfl rfl rfl) hP
 have el:(if c=65279 then P {z with ptr:=z.ptr+1,rem:=r} else P {z with ptr:=z.ptr+1,rem:=r,col:=z.col+1})->SW g 1 C ρ X (tM (tM (aU 8 3).body 1 0) 3 1) [("self",.val .self),("length",.val (.int ((m+1:Nat):Int))),("ch",.val (sv [c]))] (some (({z with ptr:=z.ptr+1,rem:=r}:Z).sc ka ko))
   (lQ g 1 C ρ X ((tM (aU 8 3).body 1 0).drop 4) Q):=by
  intro hP;refine aA rfl (aW rfl (aL rfl ?_));refine bY (B.loc rfl rfl) (.tail _ (.tail _ (.head _))) ?_;refine aB ?_;refine Ca 65279 rfl ⟨fun hb=>?_,fun hb=>?_⟩
  ·rw[if_neg (r8 hb)] at hP;refine aA rfl (wN F hS (aC (aC ?_)));exact fin _ (PW.same rfl rfl rfl) hP
  ·rw[if_pos (by simpa using hb)] at hP;exact aC (aC (fin _ PW hP))
 refine aA rfl (aW rfl (gS (aL rfl ?_)));refine bY (B.loc rfl rfl) (.tail _ (.tail _ (.head _))) ?_;refine aB ?_;refine fJ [10,133,8232,8233] rfl ⟨fun hb=>?_,fun hb=>?_⟩
 ·refine⟨fun U=>?_,fun h=>by cases h⟩;rw[if_pos hb] at H;exact nl H
 rw[if_neg (by rw[hb];decide)] at H;refine iS (cV (aL rfl ?_));refine bY (B.loc rfl rfl) (.tail _ (.tail _ (.head _))) ?_;refine aB ?_;refine dZ 13 rfl ⟨fun hc=>?_,fun hc=>?_⟩
 ·rw[if_neg (of_decide_eq_false hc)] at H;refine⟨fun h=>(by cases h),fun U=>?_⟩;refine el ?_
  split
  ·rename_i q;rw[if_pos q] at H;exact H
  ·rename_i q;rw[if_neg q] at H;exact H
 ·have hc:=r8 hc;rw[if_pos hc] at H;induction r with
  |nil=>exact H.elim
  |cons d r'=>
  dsimp only at H;refine rB (PW.item (k:=0) (c:=d) rfl) fun h1 h2 h3 h4=>?_;refine eP (aL rfl ?_);refine mC (fun U U U U=>rfl) (fun U U U=>rfl) ?_;refine gF F hS ?_;refine eV F hS ?_;rw[show({z with ptr:=z.ptr+1,rem:=d::r'}:Z).ptr+((0:Nat):Int)=z.ptr+1 by show z.ptr+1+0=_;omega] at h1 h2 h3 h4
  refine(EA z.buf _ rfl rfl h1 h2 h3 ?_);rw[h4];refine aB ?_;refine Ca 10 rfl ⟨fun hb=>?_,fun hb=>?_⟩
  ·rw[if_neg (r8 hb)] at H;exact nl H
  ·rw[if_pos (by simpa using hb)] at H;refine el ?_;rw[if_neg (fun e=>absurd (hc.symm.trans e) (aR rfl))];exact H
theorem xJ{P:Z->Prop}(H:(bO z).wp (fun U z=>P z) X):(bO z).wp (fun U z=>P z) (fun U U=>True):=by
 refine R.mono H (fun U U h=>h) (fun U U U=>trivial)
theorem sL(F:aP g){C':Cx}(B:Bd C' (aU 8 3)){n:Nat}(ok:Ok z){X:nA}{Q:mF}(H:(qC n z).wp (fun U z'=>∀ka ko,Ok z'->Q .none (some (z'.sc ka ko))) Xw):
  SW g 1 C' ρ (fun x U s=>X x s) (aU 8 3).body [("self",.val .self),("length",.val (.int n)),("ch",.un)] (some (z.sc ka ko)) (iU Q):=by
 have hS:aF C' "self":=B.loc rfl rfl;have fin:SW g 1 C' ρ (fun x U s=>X x s) ((aU 8 3).body.drop 1) [("self",.val .self),("length",.val (.int n)),("ch",.un)] (some (z.sc ka ko)) (iU Q):=by
  refine aA rfl (iV rfl (fun m l s=>∃z lv ka ko,l=([("self",.val .self),("length",.val (.int (m:Int))),("ch",lv)]:aM)/\s=some (Z.sc z ka ko)/\Ok z/\(qC m z).wp (fun U z'=>∀ka ko,Ok z'->Q .none (some (z'.sc ka ko))) Xw) n (QR z _ ka ko rfl rfl ok H) ?_)
  rintro m l s ⟨z,lv,ka,ko,rfl,rfl,ok,H⟩
  refine bZ (fun U=>rfl) (bY (B.loc rfl rfl) (.tail _ (.head _)) ?_);induction m with
  |zero=>
   refine⟨fun h=>(by cases h),fun U=>aC (H ka ko ok)⟩
  |succ m=>
   refine⟨fun U=>?_,fun h=>?_⟩
   ·refine Cg F B ok (P:=fun z=>(qC m z).wp (fun U z'=>∀ka ko,Ok z'->Q .none (some (z'.sc ka ko))) Xw) (xJ (aX H)) ?_;intro z' lv ka ko Gj hP;exact⟨m,x9 _,z',lv,ka,ko,rfl,rfl,Gj,hP⟩
   ·exfalso
    have:(((m+1:Nat):Int) !=0)=true:=by rw[bne_iff_ne];exact Int.natCast_ne_zero.mpr (Nat.succ_ne_zero _)
    rw[this] at h;cases h
 refine aA rfl (aW rfl (aL rfl ?_));refine lG ?_;refine lG ?_;refine eV F hS ?_;refine aE B 1 rfl rfl rfl ?_;refine⟨_,_,rfl,rfl,?_⟩;refine aQ ⟨_,_,rfl,rfl,?_⟩;refine rC rfl (dY (F.n 0 rfl) rfl (aR rfl) (B.glob rfl) rfl ⟨rfl,?_⟩);refine gF F hS ?_;refine⟨Uv ok,?_⟩;refine⟨fun U=>?_,fun U=>aC fin⟩;refine aA rfl (cJ (B.int rfl) rfl ?_);refine fU B.hh (F.mn 5 rfl) (D':=0) rfl hS ⟨_,rfl⟩ rfl ?_;refine lG ?_;refine aE B 1 rfl rfl rfl ?_;refine aQ ⟨_,_,rfl,rfl,?_⟩;refine Ac F ?_;exact⟨rfl,aC fin⟩
theorem Iw(F:aP g){n:Nat}(ok:Ok z){X:nA}{Q:mF}(H:(qC n z).wp (fun U z'=>∀ka ko,Ok z'->Q .none (some (z'.sc ka ko))) Xw):
  FW g 1 ρ X 168 [.self,.int n] (some (z.sc ka ko)) Q:=
 cK (F.d 3 rfl) ["ch"] rfl rfl (by kernel_rfl) fun C' B=>sL F B ok H
theorem Fj(F:aP g)(ok:Ok z){X:nA}{Q:mF}(H:(qC 1 z).wp (fun U z'=>∀ka ko,Ok z'->Q .none (some (z'.sc ka ko))) Xw):
  FW g 1 ρ X 168 [.self] (some (z.sc ka ko)) Q:=
 cK (F.d 4 rfl) ["ch"] rfl rfl (by kernel_rfl) fun C' B=>sL F B (n:=1) ok H
theorem Zr{P:Unit->Z->Prop}(H:(bO z).wp P X):(qC 1 z).wp P X:=by
 change ((bO z).bind fun U z=>qC 0 z).wp P X;cases e:bO z with
 |ok a z=>rw[e] at H;exact H
 |err c p=>rw[e] at H;exact H
 |wall=>rw[e] at H;exact H
section
variable{C:Cx}{X:eZ}{loc:aM}{pos':Pos}
noncomputable abbrev gN:Str×LV:=("self",.val .self)
def Rv(Q:tU)(v:V)(l:aM)(s:bX):Prop:=∀Ω:Prop,(∀(k c:Nat) (z:Z) (ka:Addr) (ko:Obj) (ev:v=.int k) (es:s=some (z.sc ka ko)) (ok:Ok z) (hc:z.rem[k]?=some c) (h:Q (sv [c]) l s),Ω)->Ω
theorem Rv.mk{v:V}{l:aM}{s:bX}(k c:Nat)(z:Z)(ka:Addr)(ko:Obj)(ev:v=.int k)(es:s=some (z.sc ka ko))(ok:Ok z)(hc:z.rem[k]?=some c)(h:Q (sv [c]) l s):Rv Q v l s:=fun U φ=>φ k c z ka ko ev es ok hc h
def Rw(Q:tU)(v:V)(l:aM)(s:bX):Prop:=∀Ω:Prop,(∀(k:Nat) (z:Z) (ka:Addr) (ko:Obj) (ev:v=.int k) (es:s=some (z.sc ka ko)) (ok:Ok z) (h:Q (sv (z.rem.take k)) l s),Ω)->Ω
theorem Rw.mk{v:V}{l:aM}{s:bX}(k:Nat)(z:Z)(ka:Addr)(ko:Obj)(ev:v=.int k)(es:s=some (z.sc ka ko))(ok:Ok z)(h:Q (sv (z.rem.take k)) l s):Rw Q v l s:=fun U φ=>φ k z ka ko ev es ok h
def DY(z:Z)(ka:Addr)(ko:Obj)(loc:aM)(P:Z->Prop)(Xw:V->V->Prop)(v:V)(l:aM)(s:bX):Prop:=∀Ω:Prop,(∀(k:Nat) (ev:v=.int k) (es:s=some (z.sc ka ko)) (el:l=gN::loc) (H:(qC k z).wp (fun U z=>P z) Xw),Ω)->Ω
theorem DY.mk{loc:aM}{P:Z->Prop}{v:V}{l:aM}{s:bX}(k:Nat)(ev:v=.int k)(es:s=some (z.sc ka ko))(el:l=gN::loc)(H:(qC k z).wp (fun U z=>P z) Xw):DY z ka ko loc P Xw v l s:=fun U φ=>φ k ev es el H
noncomputable def UW{α:Type}(enc:α->V)(Q:tU)(l:aM):α->Z->Prop:=fun a z'=>∀ka ko,Ok z'->Q (enc a) l (some (z'.sc ka ko))
noncomputable def UX(X:eZ)(l:aM):V->V->Prop:=fun cm pm=>∀x s,Ek x cm pm->X x l s
def OV{α:Type}(m:Z->R α)(enc:α->V)(rA:List V)(Q:tU)(X:eZ)(vs:List V)(l:aM)(s:bX):Prop:=∀Ω:Prop,(∀(z:Z) (ka:Addr) (ko:Obj) (ev:vs=rA) (es:s=some (z.sc ka ko)) (ok:Ok z) (H:(m z).wp (UW enc Q l) (UX X l)),Ω)->Ω
theorem OV.mk{α:Type}{m:Z->R α}{enc:α->V}{rA:List V}{X:eZ}{l:aM}{s:bX}(z:Z)(ka:Addr)(ko:Obj)(ev:vs=rA)(es:s=some (z.sc ka ko))(ok:Ok z)(H:(m z).wp (UW enc Q l) (UX X l)):OV m enc rA Q X vs l s:=fun U φ=>φ z ka ko ev es ok H
theorem dI{c:Nat}(F:aP g)(B:Bd C fd)(hD:Nat.ble 1 D=true)(hS:aF C "self")(he:dJ (.Name "self" np) "peek" apos pos [] C.env)(ok:Ok z)(hc:z.rem[0]?=some c)(h:Q (sv [c]) (gN::loc) (some (z.sc ka ko))):
  EW g D C ρ X (.Call (.Attribute (.Name "self" np) "peek" apos) [] [] pos) (gN::loc) (some (z.sc ka ko)) Q:=
 fU B.hh (F.mn 0 rfl) hD hS he rfl (Tu F ok hc h)
theorem eS(F:aP g)(B:Bd C fd)(hD:Nat.ble 1 D=true)(hS:aF C "self")(he:dJ (.Name "self" np) "peek" apos pos [e] C.env)(hs:bA pos [e] C.env)
  (h:EW g D C ρ X e (gN::loc) (some (z.sc ka ko)) (Rv Q)):
  EW g D C ρ X (.Call (.Attribute (.Name "self" np) "peek" apos) [e] [] pos) (gN::loc) (some (z.sc ka ko)) Q:=by
 refine fU B.hh (F.mn 0 rfl) hD hS he hs (h.mono fun v l s q=>?_);refine q _ ?_;clear q
 rintro k c z ka ko rfl rfl ok hc q
 exact Zp F ok hc q
theorem fO(F:aP g)(B:Bd C fd)(hD:Nat.ble 2 D=true)(hS:aF C "self")(he:dJ (.Name "self" np) "prefix" apos pos [e] C.env)(hs:bA pos [e] C.env)
  (h:EW g D C ρ X e (gN::loc) (some (z.sc ka ko)) (Rw Q)):
  EW g D C ρ X (.Call (.Attribute (.Name "self" np) "prefix" apos) [e] [] pos) (gN::loc) (some (z.sc ka ko)) Q:=by
 refine fU B.hh (F.mn 1 rfl) hD hS he hs (h.mono fun v l s q=>?_);refine q _ ?_;clear q
 rintro k z ka ko rfl rfl ok q
 exact Oh F k ok q
theorem dO(F:aP g)(B:Bd C fd)(hD:Nat.ble 3 D=true)(hS:aF C "self")(he:dJ (.Name "self" np) "get_mark" apos pos [] C.env)(h:Q z.mark (gN::loc) (some (z.sc ka ko))):
  EW g D C ρ X (.Call (.Attribute (.Name "self" np) "get_mark" apos) [] [] pos) (gN::loc) (some (z.sc ka ko)) Q:=
 fU B.hh (F.mn 3 rfl) hD hS he rfl (Zn F h)
theorem gU{Q:eM}{P:Z->Prop}(F:aP g)(B:Bd C fd)(hD:Nat.ble 2 D=true)(hS:aF C "self")(he:dJ (.Name "self" np) "forward" apos pos [] C.env)(ok:Ok z)(H:(bO z).wp (fun U z=>P z) Xw)(h:∀z' ka ko,Ok z'->P z'->Q .next (gN::loc) (some (z'.sc ka ko)))
  (hi:interactive C.env=false):kA g D C ρ X (.Expr (.Call (.Attribute (.Name "self" np) "forward" apos) [] [] pos) pos') (gN::loc) (some (z.sc ka ko)) Q:=by
 refine cJ hi rfl (fU B.hh (F.mn 2 rfl) hD hS he rfl (Fj F ok (Zr (R.mono H (fun U z' p ka ko Gj=>?_) fun U U x=>x))));exact⟨rfl,h z' ka ko Gj p⟩
theorem oQ{Q:eM}{P:Z->Prop}(F:aP g)(B:Bd C fd)(hD:Nat.ble 2 D=true)(hS:aF C "self")(he:dJ (.Name "self" np) "forward" apos pos [e] C.env)(hs:bA pos [e] C.env)(hi:interactive C.env=false)
  (hv:EW g D C ρ X e (gN::loc) (some (z.sc ka ko)) (DY z ka ko loc P Xw)) (ok:Ok z) (h:∀z' ka ko,Ok z'->P z'->Q .next (gN::loc) (some (z'.sc ka ko))):
  kA g D C ρ X (.Expr (.Call (.Attribute (.Name "self" np) "forward" apos) [e] [] pos) pos') (gN::loc) (some (z.sc ka ko)) Q:=by
 refine cJ hi rfl (fU B.hh (F.mn 2 rfl) hD hS he hs (hv.mono fun v l s q=>?_));refine q _ ?_;clear q
 rintro k rfl rfl rfl H
 refine Iw F ok (R.mono H (fun U z' p ka ko Gj=>?_) fun U U x=>x);exact⟨rfl,h z' ka ko Gj p⟩
theorem iN{α:Type}{m:Z->R α}{enc:α->V}{rA:List V}{name:Str}(S:Sp g ρ d f rA enc m)(M:Em g name f)(B:Bd C fd)(hD:Nat.ble (d+1) D=true)(hS:aF C "self")(he:dJ (.Name "self" np) name apos pos args C.env)(hs:bA pos args C.env)
  (h:AW g D C ρ X args (gN::loc) (some (z.sc ka ko)) (OV m enc rA Q X)):
  EW g D C ρ X (.Call (.Attribute (.Name "self" np) name apos) args [] pos) (gN::loc) (some (z.sc ka ko)) Q:=by
 refine fU B.hh M hD hS he hs ?_;refine AW.mono h fun vs l s q=>?_;refine q _ ?_;clear q
 rintro z ka ko rfl rfl ok H
 exact S z ka ko _ _ ok H
theorem hM{α:Type}{m:Z->R α}{enc:α->V}{rA:List V}{name:Str}{Q:eM}(S:Sp g ρ d f rA enc m)(M:Em g name f)(B:Bd C fd)(hD:Nat.ble (d+1) D=true)(hS:aF C "self")(he:dJ (.Name "self" np) name apos pos args C.env)(hs:bA pos args C.env)(hi:interactive C.env=false)
  (AB:∀a,(enc a).small=true)
  (h:AW g D C ρ X args (gN::loc) (some (z.sc ka ko)) (OV m enc rA (fun U=>Q .next) X)) (Uk:swapsWith (.Call (.Attribute (.Name "self" np) name apos) args [] pos) none pos'.line C.env=pure false):
  kA g D C ρ X (.Expr (.Call (.Attribute (.Name "self" np) name apos) args [] pos) pos') (gN::loc) (some (z.sc ka ko)) Q:=by
 refine cJ hi Uk (iN S M B hD hS he hs (AW.mono h fun vs l s q=>?_));refine q _ fun z ka ko e1 e2 ok H=>?_;refine(.mk z ka ko e1 e2 ok (R.mono H (fun a z' p ka ko Gj=>?_) fun U U x=>x));exact⟨AB a,p ka ko Gj⟩
end
end
theorem sR(b:Str)(k:Int):∀ks:List (Int×lL),sQ (ks.map fun p=>(p.1,p.2.toV b)) k=(eE ks k).map (lL.toV b)
 |[]=>rfl
 |(j,v)::r=>by
  have ih:=sR b k r;unfold sQ eE at ih⊢;rw[List.map_cons,List.find?_cons,List.find?_cons]
  by_cases e:j=k
  ·simp[e]
  ·simpa[e] using ih
theorem Up(b:Str)(k:Int)(ks:List (Int×lL)):Oq (ks.map fun p=>(p.1,p.2.toV b)) k=(cA ks k).map fun p=>(p.1,p.2.toV b):=by
 unfold Oq cA;rw[List.filter_map];rfl
theorem Ur(b:Str)(k:Int)(v:lL)(ks:List (Int×lL)):Ou (ks.map fun p=>(p.1,p.2.toV b)) k (v.toV b)=(sS ks k v).map fun p=>(p.1,p.2.toV b):=by
 unfold Ou sS;rw[List.any_map];have e:((fun kv:Int×V=>decide (kv.1=k))∘fun p:Int×lL=>(p.1,p.2.toV b))=fun kv=>decide (kv.1=k):=rfl;rw[e]
 split
 ·rw[List.map_map,List.map_map];refine List.map_congr_left fun p U=>?_
  by_cases h:p.1=k<;>simp[h]
 ·simp
section
variable{D:Nat}
section
variable{C:Cx}{X:eZ}{loc:aM}{AV uW pos':Pos}
def EG(z:Z)(ka:Addr)(ko:Obj)(loc:aM)(Q:nX)(a:V)(l:aM)(s:bX):Prop:=∀Ω:Prop,(∀(k:Int) (ea:a=.int k) (el:l=gN::loc) (es:s=some (z.sc ka ko)) (h:Q (eE z.keys k).isSome l s),Ω)->Ω
theorem EG.mk{loc:aM}{Q:nX}{a:V}{l:aM}{s:bX}(k:Int)(ea:a=.int k)(el:l=gN::loc)(es:s=some (z.sc ka ko))(h:Q (eE z.keys k).isSome l s):EG z ka ko loc Q a l s:=fun U φ=>φ k ea el es h
def Hx(z:Z)(ka:Addr)(ko:Obj)(Q:tU)(a:V)(l:aM)(s:bX):Prop:=∀Ω:Prop,(∀(k:Int) (key:lL) (ea:a=.int k) (es:s=some (z.sc ka ko)) (hk:eE z.keys k=some key) (h:Q (key.toV z.buf) l s),Ω)->Ω
theorem Hx.mk{a:V}{l:aM}{s:bX}(k:Int)(key:lL)(ea:a=.int k)(es:s=some (z.sc ka ko))(hk:eE z.keys k=some key)(h:Q (key.toV z.buf) l s):Hx z ka ko Q a l s:=fun U φ=>φ k key ea es hk h
def Rm(z:Z)(ka:Addr)(ko:Obj)(Q:eM)(a:V)(l:aM)(s:bX):Prop:=∀Ω:Prop,(∀(k:Int) (ea:a=.int k) (es:s=some (z.sc ka ko)) (hk:(eE z.keys k).isSome=true) (hl:z.keys.length<=1000) (h:∀ob,Q .next l (some (({z with keys:=cA z.keys k}:Z).sc ka ob))),Ω)->Ω
theorem Rm.mk{Q:eM}{a:V}{l:aM}{s:bX}(k:Int)(ea:a=.int k)(es:s=some (z.sc ka ko))(hk:(eE z.keys k).isSome=true)(hl:z.keys.length<=1000)(h:∀ob,Q .next l (some (({z with keys:=cA z.keys k}:Z).sc ka ob))):Rm z ka ko Q a l s:=fun U φ=>φ k ea es hk hl h
def Ko(z:Z)(ka:Addr)(ko:Obj)(key:lL)(Q:eM)(a:V)(l:aM)(s:bX):Prop:=∀Ω:Prop,(∀(k:Int) (ea:a=.int k) (es:s=some (z.sc ka ko)) (hl:z.keys.length<=1000) (h:∀ob,Q .next l (some (({z with keys:=sS z.keys k key}:Z).sc ka ob))),Ω)->Ω
theorem Ko.mk{key:lL}{Q:eM}{a:V}{l:aM}{s:bX}(k:Int)(ea:a=.int k)(es:s=some (z.sc ka ko))(hl:z.keys.length<=1000)(h:∀ob,Q .next l (some (({z with keys:=sS z.keys k key}:Z).sc ka ob))):Ko z ka ko key Q a l s:=fun U φ=>φ k ea es hl h
def Rn(g:Gl)(D:Nat)(C:Cx)(ρ:dN)(X:eZ)(z:Z)(ka:Addr)(ko:Obj)(loc:aM)(e:Expr)(Q:eM)(v:V)(l:aM)(s:bX):Prop:=∀Ω:Prop,(∀(key:lL) (ev:v=lL.toV z.buf key) (el:l=gN::loc) (es:s=some (z.sc ka ko)) (h:EW g D C ρ X e l s (Ko z ka ko key Q)),Ω)->Ω
theorem Rn.mk{D:Nat}{C:Cx}{X:eZ}{loc:aM}{Q:eM}{v:V}{l:aM}{s:bX}(key:lL)(ev:v=lL.toV z.buf key)(el:l=gN::loc)(es:s=some (z.sc ka ko))(h:EW g D C ρ X e l s (Ko z ka ko key Q)):Rn g D C ρ X z ka ko loc e Q v l s:=fun U φ=>φ key ev el es h
def DU(X:eZ)(vs:List V)(l:aM)(s:bX):Prop:=∀Ω:Prop,(∀(c cm p pm:V) (ev:vs=[c,cm,p,pm]) (h:∀x,Ek x cm pm->X x l s),Ω)->Ω
theorem DU.mk{X:eZ}{l:aM}{s:bX}(c cm p pm:V)(ev:vs=[c,cm,p,pm])(h:∀x,Ek x cm pm->X x l s):DU X vs l s:=fun U φ=>φ c cm p pm ev h
theorem Qu{Q:nX}(F:aP g)(hS:aF C "self")(hm:behindInMarks .In (.Attribute (.Name "self" AV) "possible_simple_keys" uW)=false)
  (h:EW g D C ρ X e (gN::loc) (some (z.sc ka ko)) (EG z ka ko loc Q)):
  BW g D C ρ X (.Compare e [.In] [.Attribute (.Name "self" AV) "possible_simple_keys" uW] pos) (gN::loc) (some (z.sc ka ko)) Q:=by
 refine Mp hm (h.mono fun a l s q=>?_);refine q _ ?_;clear q
 rintro k rfl rfl rfl q
 refine lV F hS (Xz k _ rfl rfl rfl ?_);have:(sQ (z.sc ka ko).keys k).isSome=(eE z.keys k).isSome:=by
  show(sQ (z.keys.map fun p=>(p.1,p.2.toV z.buf)) k).isSome=_;rw[sR];cases eE z.keys k<;>rfl
 rw[this];exact q
theorem sE(F:aP g)(hS:aF C "self")
  (hs:∀a i u,subscripted e false (.ref a) (.int i u)=operate [.ref a,.int i u] (getItem (.ref a) (.int i u)))
  (h:EW g D C ρ X e (gN::loc) (some (z.sc ka ko)) (Hx z ka ko Q)):
  EW g D C ρ X (.Subscript (.Attribute (.Name "self" AV) "possible_simple_keys" uW) e pos) (gN::loc) (some (z.sc ka ko)) Q:=by
 refine Ed hs (lV F hS (h.mono fun a l s q=>?_));refine q _ ?_;clear q
 rintro k key rfl rfl hk q
 refine(JW k _ _ rfl rfl rfl ?_ q);show sQ (z.keys.map fun p=>(p.1,p.2.toV z.buf)) k=_;rw[sR,hk];rfl
theorem Bu{Q:eM}(F:aP g)(hS:aF C "self")
  (h:EW g D C ρ X e (gN::loc) (some (z.sc ka ko)) (Rm z ka ko Q)):
  kA g D C ρ X (.Delete [.Subscript (.Attribute (.Name "self" AV) "possible_simple_keys" uW) e pos] pos') (gN::loc) (some (z.sc ka ko)) Q:=by
 refine Ii (lV F hS (h.mono fun a l s q=>?_));refine q _ ?_;clear q
 rintro k rfl rfl hk hl q
 refine(EA k _ rfl rfl rfl ?_ ?_ (fun ob=>?_))
 ·show(sQ (z.keys.map fun p=>(p.1,p.2.toV z.buf)) k).isSome=true;rw[sR];cases e:eE z.keys k with
  |none=>rw[e] at hk;cases hk
  |some _=>rfl
 ·show(z.keys.map _).length<=_;rw[t7];unfold sizeLine;exact q5 hl (aR rfl)
 ·have:=q ob;have e:({z.sc ka ko with keys:=Oq (z.sc ka ko).keys k,kM:=ob}:Sc)=({z with keys:=cA z.keys k}:Z).sc ka ob:=by
   unfold Z.sc;simp only[Up]
  rw[e];exact this
theorem Yh{es:Expr}{Q:eM}(F:aP g)(hS:aF C "self")(Uk:swapsWith es (some (.Subscript (.Attribute (.Name "self" AV) "possible_simple_keys" uW) e pos)) pos'.line C.env=pure false)
  (h:EW g D C ρ X es (gN::loc) (some (z.sc ka ko)) (Rn g D C ρ X z ka ko loc e Q)):
  kA g D C ρ X (.Assign [.Subscript (.Attribute (.Name "self" AV) "possible_simple_keys" uW) e pos] es pos') (gN::loc) (some (z.sc ka ko)) Q:=by
 refine Ik Uk (h.mono fun v l s q=>?_);refine q _ ?_;clear q
 rintro key rfl rfl rfl q
 refine lV F hS (q.mono fun a l s q=>?_);refine q _ ?_;clear q
 rintro k rfl rfl hl q
 refine(QP k _ rfl rfl rfl ?_ (fun ob=>?_))
 ·show(z.keys.map _).length<=_;rw[t7];unfold sizeLine;exact q5 hl (aR rfl)
 ·have:=q ob;have e:({z.sc ka ko with keys:=Ou (z.sc ka ko).keys k (key.toV z.buf),kM:=ob}:Sc)=({z with keys:=sS z.keys k key}:Z).sc ka ob:=by
   unfold Z.sc;simp only[Ur]
  rw[e];exact this
theorem fK{name:Str}{i:Nat}{u:V}{key:lL}{b:Str}(F:aP g)(hx:aF C x)(hv:(x,LV.val (key.toV b))∈loc)(hi:Fw[i]?=some name)(hu:(key.vals b)[i]?=some u)(hp:u.plain=true)
  (he:eval (.Attribute (.Name x np) name pos) C.env=(do
   let ov←eval (.Name x np) C.env
   standAt pos.atName
   let r←holding [ov] (getAttr ov name true)
   letTemporaryGo (.Name x np) ov r
   pure r))
  (h:Q u loc σ):EW g D C ρ X (.Attribute (.Name x np) name pos) loc σ Q:=
 jD he (bY hx hv (Ya 530 Fw (key.vals b) u rfl (F.CI _ (List.mem_of_getElem? hi)) (aR rfl) (mX hi hu) hp h))
theorem Ry{nO:Pos}{Q:eM}(F:aP g)(B:Bd C fd)(hD:Nat.ble 2 D=true)(hn:args.length=4)(hs:bA nO args C.env)(hx:x="ScannerError")(Ui:fd.scope.names.lookup x=some .globalImplicit)
  (h:AW g D C ρ X args loc σ (DU X)):
  kA g D C ρ X (.Raise (some (.Call (.Name x np) args [] nO)) none pos) loc σ Q:=by
 subst hx;refine Nk F.Wr hn (aR rfl) B.hh hD hs (cR (F.gl 1 rfl) (B.glob Ui) rfl ⟨rfl,AW.mono h fun vs l s q=>?_⟩);refine q _ ?_;clear q
 rintro c cm p pm rfl q
 exact⟨by rw[hn];rfl,q _ ⟨rfl,rfl,c,p,rfl⟩⟩
end
theorem oZ(F:aP g):Sp g ρ 2 1045 [] sv dH:=by
 intro z ka ko Q X ok H;refine cK (F.d 45 rfl) ["ch"] rfl rfl (by kernel_rfl) fun C' B=>?_;have hS:aF C' "self":=B.loc rfl rfl;unfold dH at H;cases e:z.rem with
 |nil=>rw[e] at H;exact H.elim
 |cons c r=>
 rw[e] at H;dsimp only at H;have hc:z.rem[0]?=some c:=by rw[e];rfl
 refine aA rfl (aD rfl (B.loc (x:="ch") rfl rfl).1 (dI F B rfl hS ⟨_,rfl⟩ ok hc ⟨_,.cM 1 rfl rfl,?_⟩));refine aA rfl (aW rfl (aL rfl ?_));refine aE B 1 rfl rfl rfl (aB ?_);refine fJ [13,10,133] rfl ⟨fun hb=>?_,fun hb=>?_⟩
 ·rw[if_pos hb] at H;refine aA rfl (aW rfl (aL rfl ?_));refine fO F B rfl hS ⟨_,rfl⟩ rfl (aQ (.mk 2 z ka ko rfl rfl ok ?_));refine aB (rK [13,10] rfl ⟨fun hb=>?_,fun hb=>?_⟩)
  ·rw[e] at hb;rw[if_pos (r8 hb)] at H;have H:=aX H;refine aA rfl (oQ F B rfl hS ⟨_,rfl⟩ rfl (B.int rfl) (aQ (.mk 2 rfl rfl rfl H)) ok fun z' ka ko Gj H=>aC ?_);exact aA rfl (bV (aB (H ka ko Gj)))
  ·rw[e] at hb;rw[if_neg (of_decide_eq_false hb)] at H;refine aA rfl (gU F B rfl hS ⟨_,rfl⟩ ok (aX (f:=fun U z=>qC 0 z) (aX H)) (fun z' ka ko Gj H=>aC ?_) (B.int rfl));exact aA rfl (bV (aB (H ka ko Gj)))
 ·rw[if_neg (by rw[hb];decide)] at H;refine aA rfl (aW rfl (aL rfl ?_));refine bY (B.loc rfl rfl) (.tail _ (.head _)) (aB ?_);refine fJ [8232,8233] rfl ⟨fun hb=>?_,fun hb=>?_⟩
  ·rw[if_pos hb] at H;refine aA rfl (gU F B rfl hS ⟨_,rfl⟩ ok (aX (f:=fun U z=>qC 0 z) (aX H)) (fun z' ka ko Gj H=>?_) (B.int rfl));exact aA rfl (bV (bY (B.loc rfl rfl) (.tail _ (.head _)) (H ka ko Gj)))
  ·rw[if_neg (by rw[hb];decide)] at H;exact aC (aC (aA rfl (bV (aB (H ka ko ok)))))
theorem kR(F:aP g):Sp g ρ 3 615 [] (fun U=>V.none) fA:=by
 intro z ka ko Q X ok H;refine cK (F.d 14 rfl) ["key"] rfl rfl (by kernel_rfl) fun C' B=>?_;have hS:aF C' "self":=B.loc rfl rfl;unfold fA at H;refine aA rfl (aW rfl (Qu F hS rfl (bC F hS (.mk _ rfl rfl rfl ?_))));cases e:eE z.keys z.aH with
 |none=>
  rw[e] at H;exact⟨fun h=>(by cases h),fun U=>aC (aC (H ka ko ok))⟩
 |some k=>
  rw[e] at H;dsimp only at H;refine⟨fun U=>?_,fun h=>by cases h⟩;refine aA rfl (aD rfl (B.loc (x:="key") rfl rfl).1 (sE F hS (fun U U U=>rfl) (bC F hS (.mk _ k rfl rfl e ⟨_,.cM 1 rfl rfl,?_⟩))));refine aA rfl (aW rfl (bZ (fun U=>rfl) (fK (i:=1) F (B.loc rfl rfl) (aN 1 rfl) rfl rfl rfl rfl ⟨fun hb=>?_,fun hb=>?_⟩)))
  ·rw[if_pos hb] at H;exact H.elim
  ·rw[if_neg (by rw[hb];decide)] at H
   by_cases hl:z.keys.length<=1000
   ·rw[if_pos hl] at H;refine aC (aA rfl (Bu F hS (bC F hS (.mk _ rfl rfl (by rw[e];rfl) hl (fun ob=>aC (aC ?_))))));exact H ka ob (ok.same rfl rfl rfl)
   ·rw[if_neg hl] at H;exact H.elim
end
theorem Yi{D:Nat}{C:Cx}{X:eZ}{loc:aM}{Q:eM}(h:Q .next loc σ):kA g D C ρ X (.Pass pos) loc σ Q:=by
 refine .of fun ok G fo m s I Qr Er q qe=>?_;exact wpAny_Pass (q .next loc σ G m _ s.heap s.toks h (.refl _) .next I)
theorem Kq{α:Type}{t:V}{f:Unit->Z->R α}{Q:α->Z->Prop}(H:((push t z).bind f).wp Q X):z.tokens.length<=1000/\(f () {z with tokens:=z.tokens++[t]}).wp Q X:=by
 unfold push at H
 by_cases h:z.tokens.length<=1000
 ·rw[if_pos h] at H;exact⟨h,H⟩
 ·rw[if_neg h] at H;exact H.elim
theorem hH{t:V}{Q:Unit->Z->Prop}(H:(push t z).wp Q X):z.tokens.length<=1000/\Q () {z with tokens:=z.tokens++[t]}:=by
 unfold push at H
 by_cases h:z.tokens.length<=1000
 ·rw[if_pos h] at H;exact⟨h,H⟩
 ·rw[if_neg h] at H;exact H.elim
section
variable{D:Nat}
section
variable{C:Cx}{X:eZ}{loc:aM}{AV ap uW pos':Pos}
def Rx(Q:eM)(v:V)(l:aM)(s:bX):Prop:=∀Ω:Prop,(∀(z:Z) (ka:Addr) (ko:Obj) (es:s=some (z.sc ka ko)) (hl:z.tokens.length<=1000) (h:Q .next l (some (({z with tokens:=z.tokens++[v]}:Z).sc ka ko))),Ω)->Ω
theorem Rx.mk{Q:eM}{v:V}{l:aM}{s:bX}(z:Z)(ka:Addr)(ko:Obj)(es:s=some (z.sc ka ko))(hl:z.tokens.length<=1000)(h:Q .next l (some (({z with tokens:=z.tokens++[v]}:Z).sc ka ko))):Rx Q v l s:=fun U φ=>φ z ka ko es hl h
def EE(Q:eM)(iv v:V)(l:aM)(s:bX):Prop:=∀Ω:Prop,(∀(i:Int) (z:Z) (ka:Addr) (ko:Obj) (ei:iv=.int i) (es:s=some (z.sc ka ko)) (h0:0<=i) (h1:i.toNat<=z.tokens.length) (hl:z.tokens.length<=1000) (h:Q .next l (some (({z with tokens:=z.tokens.take i.toNat++v::z.tokens.drop i.toNat}:Z).sc ka ko))),Ω)->Ω
theorem EE.mk{Q:eM}{iv v:V}{l:aM}{s:bX}(i:Int)(z:Z)(ka:Addr)(ko:Obj)(ei:iv=.int i)(es:s=some (z.sc ka ko))(h0:0<=i)(h1:i.toNat<=z.tokens.length)(hl:z.tokens.length<=1000)(h:Q .next l (some (({z with tokens:=z.tokens.take i.toNat++v::z.tokens.drop i.toNat}:Z).sc ka ko))):EE Q iv v l s:=fun U φ=>φ i z ka ko ei es h0 h1 hl h
theorem iE{Q:eM}(F:aP g)(hS:aF C "self")(hi:interactive C.env=false)(he:dJ (.Attribute (.Name "self" np) "tokens" ap) "append" apos pos [e] C.env)(hs:bA pos [e] C.env)
  (Uk:swapsWith (.Call (.Attribute (.Attribute (.Name "self" np) "tokens" ap) "append" apos) [e] [] pos) none pos'.line C.env=pure false)
  (h:EW g D C ρ X e (gN::loc) (some (z.sc ka ko)) (Rx Q)):
  kA g D C ρ X (.Expr (.Call (.Attribute (.Attribute (.Name "self" np) "tokens" ap) "append" apos) [e] [] pos) pos') (gN::loc) (some (z.sc ka ko)) Q:=by
 refine cJ hi Uk (Bm he hs (gZ F hS (fH rfl rfl (h.mono fun v l s q=>?_))));refine q _ ?_;clear q
 rintro z ka ko rfl hl q
 exact⟨_,rfl,by show z.tokens.length<=_;unfold sizeLine;exact q5 hl (aR rfl),rfl,q⟩
theorem zQ{ei:Expr}{Q:eM}(F:aP g)(hS:aF C "self")(hi:interactive C.env=false)(he:dJ (.Attribute (.Name "self" np) "tokens" ap) "insert" apos pos [ei,e] C.env)(hs:bA pos [ei,e] C.env)
  (Uk:swapsWith (.Call (.Attribute (.Attribute (.Name "self" np) "tokens" ap) "insert" apos) [ei,e] [] pos) none pos'.line C.env=pure false)
  (h:EW g D C ρ X ei (gN::loc) (some (z.sc ka ko)) (Kp g D C ρ X e (EE Q))):
  kA g D C ρ X (.Expr (.Call (.Attribute (.Attribute (.Name "self" np) "tokens" ap) "insert" apos) [ei,e] [] pos) pos') (gN::loc) (some (z.sc ka ko)) Q:=by
 refine cJ hi Uk (Bn he hs (gZ F hS (fH rfl rfl (h.mono fun iv l s q=>q.mono fun v l s q=>?_))));refine q _ ?_;clear q
 rintro i z ka ko rfl rfl h0 h1 hl qq
 exact⟨_,i,rfl,rfl,h0,h1,by show z.tokens.length<=_;unfold sizeLine;exact q5 hl (aR rfl),rfl,qq⟩
end
theorem qH(F:aP g):Sp g ρ 4 608 [] (fun U=>V.none) lT:=by
 intro z ka ko Q X ok H;refine cK (F.d 13 rfl) ["required","token_number","key"] rfl rfl (by kernel_rfl) fun C' B=>?_;have hS:aF C' "self":=B.loc rfl rfl;unfold lT at H;have go:SW g 4 C' ρ (fun x U s=>X x s) ((aU 34 8).body.drop 1) [gN,("required",.val (.bool (decide (z.aH=0)&&decide (z.indent=z.col)))),("token_number",.un),("key",.un)] (some (z.sc ka ko)) (iU Q):=by
  refine aA rfl (aW rfl (bZ (fun U=>rfl) (kE F hS ⟨fun hb=>?_,fun hb=>?_⟩)))
  ·rw[if_pos hb] at H;have H:=aX H;refine aA rfl (hM (kR F) (F.mn 12 rfl) B rfl hS ⟨_,rfl⟩ rfl (B.int rfl) (fun U=>rfl) (.mk z ka ko rfl rfl ok (R.mono H (fun a z1 H ka ko ok=>?_) fun U U x=>x)) rfl)
   by_cases hl:z1.keys.length<=1000/\z1.tokens.length<=1000
   ·rw[if_pos hl] at H;refine aA rfl (aD rfl (B.loc (x:="token_number") rfl rfl).1 (lG (gT F hS (rC rfl (dY (F.n 0 rfl) rfl (aR rfl) (B.glob rfl) rfl ⟨rfl,?_⟩)))));refine gZ F hS ⟨_,rfl,by have:=hl.2;show z1.tokens.length<=_;unfold sizeLine;exact q5 this (aR rfl),_,_,rfl,rfl,_,.cM 2 rfl rfl,?_⟩;refine aA rfl (aD rfl (B.loc (x:="key") rfl rfl).1 (iL (F.c 1 rfl) rfl rfl rfl (cR (F.gl 2 rfl) (B.glob rfl) rfl ⟨rfl,?_⟩)));refine aE B 2 rfl rfl rfl (aE B 1 rfl rfl rfl ?_);refine oO F hS (tQ F hS (jB F hS (dO F B rfl hS ⟨_,rfl⟩ ⟨rfl,_,.tail (.tail (.tail .head)),?_⟩)));refine aA rfl (Yh F hS rfl (bY (B.loc rfl rfl) (.tail _ (.tail _ (.tail _ (.head _)))) (.mk ⟨z1.taken+z1.tokens.length,decide (z.aH=0)&&decide (z.indent=z.col),z1.ptr,z1.line,z1.col⟩ rfl rfl rfl ?_)));refine bC F hS (.mk _ rfl rfl hl.1 (fun ob=>aC (aC ?_)));exact H ka ob (ok.same rfl rfl rfl)
   ·rw[if_neg hl] at H;exact H.elim
  ·rw[if_neg (by rw[hb];decide)] at H;exact aC (aC (H ka ko ok))
 refine aA rfl (aD rfl (B.loc (x:="required") rfl rfl).1 (mA (Hu (bC F hS ?_))))
 by_cases hf:z.aH=0
 ·have e1:(!(z.aH !=0))=true:=by simp[hf]
  have e2:decide (z.aH=0)=true:=by simp[hf]
  rw[e2,Bool.true_and] at go;show Hm _ _ _ _ _ _ _ _ (.bool (!(z.aH !=0))) _ _ (!(z.aH !=0));rw[e1];refine⟨fun h=>(by cases h),fun U=>wD (oN rfl (kW F hS (jB F hS ⟨_,.tail .head,?_⟩)))⟩;have e3:(z.indent==z.col)=decide (z.indent=z.col):=rfl;exact go
 ·have e1:(!(z.aH !=0))=false:=by simp[hf]
  have e2:decide (z.aH=0)=false:=by simp[hf]
  rw[e2,Bool.false_and] at go;show Hm _ _ _ _ _ _ _ _ (.bool (!(z.aH !=0))) _ _ (!(z.aH !=0));rw[e1];exact⟨fun U=>⟨_,.tail .head,go⟩,fun h=>(by cases h)⟩
theorem Dk(F:aP g)(c:Int):Sp g ρ 0 629 [.int c] (fun b=>V.bool b) (tX c):=by
 intro z ka ko Q X ok H;refine cK (F.d 16 rfl) [] rfl rfl (by kernel_rfl) fun C' B=>?_;have hS:aF C' "self":=B.loc rfl rfl;unfold tX at H;refine aA rfl (aW rfl (aL rfl (kW F hS (aE B 1 rfl rfl rfl ⟨fun hb=>?_,fun hb=>?_⟩))))
 ·rw[if_pos (r8 hb)] at H
  by_cases hl:z.aO.length<=1000
  ·rw[if_pos hl] at H;refine aA rfl (cJ (B.int rfl) rfl (Bk ⟨_,rfl⟩ rfl (sC F hS (fH rfl rfl (kW F hS ⟨_,_,rfl,rfl,by show z.aO.length<=_;unfold sizeLine;exact q5 hl (aR rfl),rfl,?_⟩)))));refine aA rfl (uT F hS rfl (aE B 1 rfl rfl rfl (oP c ({z with aO:=z.aO++[z.indent]}) ka ko _ rfl rfl rfl ?_)))
   exact aA rfl (bV (cC (H ka ko (ok.same rfl rfl rfl))))
  ·rw[if_neg hl] at H;exact H.elim
 ·rw[if_neg (of_decide_eq_false hb)] at H;exact aC (aA rfl (bV (cC (H ka ko ok))))
def FG(c:Int)(Q:mF)(X:nA)(n:Nat)(l:aM)(s:bX):Prop:=∀Ω:Prop,(∀(z:Z) (lv:LV) (ka:Addr) (ko:Obj) (el:l=[gN,("column",.val (.int c)),("mark",lv)]) (es:s=some (z.sc ka ko)) (ok:Ok z) (H:(pD n c z).wp (PQ (fun U=>V.none) Q) (PX X)),Ω)->Ω
theorem FG.mk{c:Int}{Q:mF}{X:nA}{n:Nat}{l:aM}{s:bX}(z:Z)(lv:LV)(ka:Addr)(ko:Obj)(el:l=[gN,("column",.val (.int c)),("mark",lv)])(es:s=some (z.sc ka ko))(ok:Ok z)(H:(pD n c z).wp (PQ (fun U=>V.none) Q) (PX X)):FG c Q X n l s:=fun U φ=>φ z lv ka ko el es ok H
theorem Ba(F:aP g)(c:Int):Sp g ρ 3 622 [.int c] (fun U=>V.none) (fB c):=by
 intro z ka ko Q X ok H;refine cK (F.d 15 rfl) ["mark"] rfl rfl (by kernel_rfl) fun C' B=>?_;have hS:aF C' "self":=B.loc rfl rfl;unfold fB at H;refine aA rfl (aW rfl (bZ (fun U=>rfl) (bC F hS ⟨fun hb=>?_,fun hb=>?_⟩)))
 ·rw[if_neg (by simpa using hb)] at H;exact aA rfl (Ku (H ka ko ok))
 ·rw[if_pos (by simpa using hb)] at H;refine aC (aA rfl (iV rfl (FG c Q X) 4 (.mk z _ ka ko rfl rfl ok H) ?_))
  rintro n l s q_
  refine q_ _ ?_;clear q_
  rintro z lv ka ko rfl rfl ok H
  refine aL rfl (kW F hS (aE B 1 rfl rfl rfl ⟨fun hb=>?_,fun hb=>?_⟩))
  ·have hb:=r8 hb;induction n with
   |zero=>rw[Hb,if_pos hb] at H;exact H.elim
   |succ n=>
   rw[Hc,if_pos hb] at H;cases e:z.aO.getLast? with
   |none=>rw[e] at H;exact H.elim
   |some i=>
   rw[e] at H;dsimp only at H
   by_cases hl:z.aO.length<=1000
   ·rw[if_pos hl] at H;have H:=Kq H;have ei:z.aO=z.aO.dropLast++[i]:=by
     rw[List.getLast?_eq_some_iff] at e;obtain⟨ys,e⟩:=e;rw[e];simp
    refine aA rfl (aD rfl (B.loc (x:="mark") rfl rfl).1 (dO F B rfl hS ⟨_,rfl⟩ ⟨_,.cM 2 rfl rfl,?_⟩));refine aA rfl (uT F hS rfl (My ⟨_,rfl⟩ rfl (sC F hS ⟨rfl,_,i,z.aO.dropLast,rfl,ei,by show z.aO.length<=_;unfold sizeLine;exact q5 hl (aR rfl),i,{z with aO:=z.aO.dropLast},ka,ko,_,rfl,rfl,rfl,?_⟩)))
    refine aA rfl (iE F hS (B.int rfl) ⟨_,rfl⟩ rfl rfl (iL (F.c 5 rfl) rfl rfl rfl (cR (F.gl 6 rfl) (B.glob rfl) rfl ⟨rfl,?_⟩)));refine aE B 2 rfl rfl rfl (aE B 2 rfl rfl rfl ⟨rfl,.mk ({z with indent:=i,aO:=z.aO.dropLast}) ka ko rfl H.1 (aC ?_)⟩)
    exact⟨n,x9 _,.mk _ _ ka ko rfl rfl (ok.same rfl rfl rfl) H.2⟩
   ·rw[if_neg hl] at H;exact H.elim
  ·have hb:=of_decide_eq_false hb;refine aC ?_;induction n with
   |zero=>rw[Hb,if_neg hb] at H;exact H ka ko ok
   |succ n=>rw[Hc,if_neg hb] at H;exact H ka ko ok
theorem tE(F:aP g)(Cl:Addr)(hC:qJ g Cl (ll ["start_mark","end_mark"]) 2 []):Sp g ρ 5 692 [.glob (.ref Cl)] (fun U=>V.none) (iF Cl):=by
 intro z ka ko Q X ok H;refine cK (F.d 20 rfl) ["start_mark","end_mark"] rfl rfl (by kernel_rfl) fun C' B=>?_;have hS:aF C' "self":=B.loc rfl rfl;have H:=aX H;refine aA rfl (hM (qH F) (F.mn 11 rfl) B rfl hS ⟨_,rfl⟩ rfl (B.int rfl) (fun U=>rfl) (.mk z ka ko rfl rfl ok (R.mono H (fun a z H ka ko ok=>?_) fun U U x=>x)) rfl);refine aA rfl (rH F hS ?_);refine aA rfl (aZ F hS rfl (cC (oP _ ({z with aH:=z.aH+1}) ka ko _ rfl rfl rfl ?_)))
 have ok:Ok {z with aH:=z.aH+1,allow:=true}:=ok.same rfl rfl rfl
 ·skip
  unfold fF at H;have H:=aX H;refine aA rfl (aD rfl (B.loc (x:="start_mark") rfl rfl).1 (dO F B rfl hS ⟨_,rfl⟩ ⟨_,.cM 2 rfl rfl,?_⟩));refine aA rfl (gU F B rfl hS ⟨_,rfl⟩ ok H (fun z1 ka ko ok H=>?_) (B.int rfl));refine aA rfl (aD rfl (B.loc (x:="end_mark") rfl rfl).1 (dO F B rfl hS ⟨_,rfl⟩ ⟨_,.cM 3 rfl rfl,?_⟩));have H:=hH H;refine aA rfl (iE F hS (B.int rfl) ⟨_,rfl⟩ rfl rfl (iL hC rfl (aR rfl) rfl (aE B 1 rfl rfl rfl ⟨rfl,?_⟩)));refine aE B 2 rfl rfl rfl (aE B 3 rfl rfl rfl ⟨rfl,.mk z1 ka ko rfl H.1 (aC ?_)⟩);exact H.2 ka ko (ok.same rfl rfl rfl)
theorem yI(F:aP g)(Cl:Addr)(hC:qJ g Cl (ll ["start_mark","end_mark"]) 2 []):Sp g ρ 4 713 [.glob (.ref Cl)] (fun U=>V.none) (lS Cl):=by
 intro z ka ko Q X ok H;refine cK (F.d 23 rfl) ["start_mark","end_mark"] rfl rfl (by kernel_rfl) fun C' B=>?_;have hS:aF C' "self":=B.loc rfl rfl;have H:=aX H;refine aA rfl (hM (kR F) (F.mn 12 rfl) B rfl hS ⟨_,rfl⟩ rfl (B.int rfl) (fun U=>rfl) (.mk z ka ko rfl rfl ok (R.mono H (fun a z H ka ko ok=>?_) fun U U x=>x)) rfl);refine aA rfl (rI F hS ?_);refine aA rfl (aZ F hS rfl (cC (oP _ ({z with aH:=z.aH-1}) ka ko _ rfl rfl rfl ?_)))
 have ok:Ok {z with aH:=z.aH-1,allow:=false}:=ok.same rfl rfl rfl
 ·skip
  unfold fF at H;have H:=aX H;refine aA rfl (aD rfl (B.loc (x:="start_mark") rfl rfl).1 (dO F B rfl hS ⟨_,rfl⟩ ⟨_,.cM 2 rfl rfl,?_⟩));refine aA rfl (gU F B rfl hS ⟨_,rfl⟩ ok H (fun z1 ka ko ok H=>?_) (B.int rfl));refine aA rfl (aD rfl (B.loc (x:="end_mark") rfl rfl).1 (dO F B rfl hS ⟨_,rfl⟩ ⟨_,.cM 3 rfl rfl,?_⟩));have H:=hH H;refine aA rfl (iE F hS (B.int rfl) ⟨_,rfl⟩ rfl rfl (iL hC rfl (aR rfl) rfl (aE B 1 rfl rfl rfl ⟨rfl,?_⟩)));refine aE B 2 rfl rfl rfl (aE B 3 rfl rfl rfl ⟨rfl,.mk z1 ka ko rfl H.1 (aC ?_)⟩);exact H.2 ka ko (ok.same rfl rfl rfl)
theorem Dn(F:aP g):Sp g ρ 4 720 [] (fun U=>V.none) oF:=by
 intro z ka ko Q X ok H;refine cK (F.d 24 rfl) ["start_mark","end_mark"] rfl rfl (by kernel_rfl) fun C' B=>?_;have hS:aF C' "self":=B.loc rfl rfl;have H:=aX H;refine aA rfl (aZ F hS rfl (cC (oP _ z ka ko _ rfl rfl rfl ?_)));refine aA rfl (hM (kR F) (F.mn 12 rfl) B rfl hS ⟨_,rfl⟩ rfl (B.int rfl) (fun U=>rfl) (.mk ({z with allow:=true}) ka ko rfl rfl (ok.same rfl rfl rfl) (R.mono H (fun a z H ka ko ok=>?_) fun U U x=>x)) rfl)
 ·skip
  unfold fF at H;have H:=aX H;refine aA rfl (aD rfl (B.loc (x:="start_mark") rfl rfl).1 (dO F B rfl hS ⟨_,rfl⟩ ⟨_,.cM 1 rfl rfl,?_⟩));refine aA rfl (gU F B rfl hS ⟨_,rfl⟩ ok H (fun z1 ka ko ok H=>?_) (B.int rfl));refine aA rfl (aD rfl (B.loc (x:="end_mark") rfl rfl).1 (dO F B rfl hS ⟨_,rfl⟩ ⟨_,.cM 2 rfl rfl,?_⟩));have H:=hH H;refine aA rfl (iE F hS (B.int rfl) ⟨_,rfl⟩ rfl rfl (iL (F.c 12 rfl) rfl rfl rfl (cR (F.gl 13 rfl) (B.glob rfl) rfl ⟨rfl,?_⟩)));refine aE B 1 rfl rfl rfl (aE B 2 rfl rfl rfl ⟨rfl,.mk z1 ka ko rfl H.1 (aC ?_)⟩);exact H.2 ka ko (ok.same rfl rfl rfl)
theorem zJ(F:aP g):Sp g ρ 4 727 [] (fun U=>V.none) iW:=by
 intro z ka ko Q X ok H;refine cK (F.d 25 rfl) ["mark","start_mark","end_mark"] rfl rfl (by kernel_rfl) fun C' B=>?_;have hS:aF C' "self":=B.loc rfl rfl;unfold iW at H;have go:∀(z:Z) ka ko lv,Ok z->((fA {z with allow:=true}).bind fun U z=>fF 410 z).wp (PQ (fun U=>V.none) Q) (PX X)->SW g 4 C' ρ (fun x U s=>X x s) ((aU 34 25).body.drop 1) [gN,("mark",lv),("start_mark",.un),("end_mark",.un)] (some (z.sc ka ko)) (iU Q):=by
  intro z ka ko lv ok H;have H:=aX H;refine aA rfl (aZ F hS rfl (cC (oP _ z ka ko _ rfl rfl rfl ?_)));refine aA rfl (hM (kR F) (F.mn 12 rfl) B rfl hS ⟨_,rfl⟩ rfl (B.int rfl) (fun U=>rfl) (.mk ({z with allow:=true}) ka ko rfl rfl (ok.same rfl rfl rfl) (R.mono H (fun a z H ka ko ok=>?_) fun U U x=>x)) rfl)
  unfold fF at H;have H:=aX H;refine aA rfl (aD rfl (B.loc (x:="start_mark") rfl rfl).1 (dO F B rfl hS ⟨_,rfl⟩ ⟨_,.cM 2 rfl rfl,?_⟩));refine aA rfl (gU F B rfl hS ⟨_,rfl⟩ ok H (fun z1 ka ko ok H=>?_) (B.int rfl));refine aA rfl (aD rfl (B.loc (x:="end_mark") rfl rfl).1 (dO F B rfl hS ⟨_,rfl⟩ ⟨_,.cM 3 rfl rfl,?_⟩));have H:=hH H;refine aA rfl (iE F hS (B.int rfl) ⟨_,rfl⟩ rfl rfl (iL (F.c 11 rfl) rfl rfl rfl (cR (F.gl 12 rfl) (B.glob rfl) rfl ⟨rfl,?_⟩)));refine aE B 2 rfl rfl rfl (aE B 3 rfl rfl rfl ⟨rfl,.mk z1 ka ko rfl H.1 (aC ?_)⟩);exact H.2 ka ko (ok.same rfl rfl rfl)
 refine aA rfl (aW rfl (gJ (bZ (fun U=>rfl) (bC F hS ⟨fun hb=>?_,fun hb=>?_⟩))))
 ·rw[if_pos (by simpa using hb)] at H;exact H.elim
 ·rw[if_neg (by simpa using hb)] at H;exact aA rfl (Yi (aC (go _ _ _ _ ok H)))
theorem Gs(F:aP g):Sp g ρ 4 734 [] (fun U=>V.none) oD:=by
 intro z ka ko Q X ok H;refine cK (F.d 26 rfl) ["mark","start_mark","end_mark"] rfl rfl (by kernel_rfl) fun C' B=>?_;have hS:aF C' "self":=B.loc rfl rfl;unfold oD at H;refine aA rfl (aW rfl (gJ (bZ (fun U=>rfl) (bC F hS ⟨fun hb=>?_,fun hb=>?_⟩))))
 ·rw[if_pos (by simpa using hb)] at H;exact H.elim
 ·have hf:¬z.aH=0:=by simpa using hb
  rw[if_neg hf] at H;have e:(!(z.aH !=0))=false:=by simp[hf]
  have H:=aX H;refine aC (aA rfl (aZ F hS rfl (Hu (bC F hS ⟨_,z,ka,ko,_,rfl,rfl,rfl,?_⟩))));rw[e];refine aA rfl (hM (kR F) (F.mn 12 rfl) B rfl hS ⟨_,rfl⟩ rfl (B.int rfl) (fun U=>rfl) (.mk ({z with allow:=false}) ka ko rfl rfl (ok.same rfl rfl rfl) (R.mono H (fun a z H ka ko ok=>?_) fun U U x=>x)) rfl)
  unfold fF at H;have H:=aX H;refine aA rfl (aD rfl (B.loc (x:="start_mark") rfl rfl).1 (dO F B rfl hS ⟨_,rfl⟩ ⟨_,.cM 2 rfl rfl,?_⟩));refine aA rfl (gU F B rfl hS ⟨_,rfl⟩ ok H (fun z1 ka ko ok H=>?_) (B.int rfl));refine aA rfl (aD rfl (B.loc (x:="end_mark") rfl rfl).1 (dO F B rfl hS ⟨_,rfl⟩ ⟨_,.cM 3 rfl rfl,?_⟩));have H:=hH H;refine aA rfl (iE F hS (B.int rfl) ⟨_,rfl⟩ rfl rfl (iL (F.c 9 rfl) rfl rfl rfl (cR (F.gl 10 rfl) (B.glob rfl) rfl ⟨rfl,?_⟩)));refine aE B 2 rfl rfl rfl (aE B 3 rfl rfl rfl ⟨rfl,.mk z1 ka ko rfl H.1 (aC ?_)⟩);exact H.2 ka ko (ok.same rfl rfl rfl)
end
theorem Ni{α:Type}{i:Int}{t:V}{f:Unit->Z->R α}{Q:α->Z->Prop}(H:((iH i t z).bind f).wp Q X):(0<=i/\i.toNat<=z.tokens.length/\z.tokens.length<=1000)/\(f () {z with tokens:=z.tokens.take i.toNat++t::z.tokens.drop i.toNat}).wp Q X:=by
 unfold iH at H
 by_cases h:0<=i/\i.toNat<=z.tokens.length/\z.tokens.length<=1000
 ·rw[if_pos h] at H;exact⟨h,H⟩
 ·rw[if_neg h] at H;exact H.elim
theorem Ia{i:Int}{t:V}{Q:Unit->Z->Prop}(H:(iH i t z).wp Q X):(0<=i/\i.toNat<=z.tokens.length/\z.tokens.length<=1000)/\Q () {z with tokens:=z.tokens.take i.toNat++t::z.tokens.drop i.toNat}:=by
 unfold iH at H
 by_cases h:0<=i/\i.toNat<=z.tokens.length/\z.tokens.length<=1000
 ·rw[if_pos h] at H;exact⟨h,H⟩
 ·rw[if_neg h] at H;exact H.elim
section
variable{D:Nat}
def OW(Q:mF)(X:nA)(vs:List V)(l:aM)(s:bX):Prop:=∀Ω:Prop,(∀(ls:List Int) (z:Z) (Lx Ly:LV) (ka:Addr) (ko:Obj) (ev:vs=ls.map V.int) (el:l=[gN,("level",Lx),("key",Ly)]) (es:s=some (z.sc ka ko)) (ok:Ok z) (H:(iI ls z).wp (PQ (fun U=>V.none) Q) (PX X)),Ω)->Ω
theorem OW.mk{Q:mF}{X:nA}{l:aM}{s:bX}(ls:List Int)(z:Z)(Lx Ly:LV)(ka:Addr)(ko:Obj)(ev:vs=ls.map V.int)(el:l=[gN,("level",Lx),("key",Ly)])(es:s=some (z.sc ka ko))(ok:Ok z)(H:(iI ls z).wp (PQ (fun U=>V.none) Q) (PX X)):OW Q X vs l s:=fun U φ=>φ ls z Lx Ly ka ko ev el es ok H
theorem Gx(F:aP g):Sp g ρ 3 601 [] (fun U=>V.none) stale:=by
 intro z ka ko Q X ok H;refine cK (F.d 12 rfl) ["level","key"] rfl rfl (by kernel_rfl) fun C' B=>?_;have hS:aF C' "self":=B.loc rfl rfl;unfold stale at H
 by_cases hz:z.keys.length<=1000
 case neg=>rw[if_neg hz] at H;exact H.elim
 rw[if_pos hz] at H;refine aA rfl (wQ B.hh (B.loc rfl rfl) (OW Q X) ?_ ?_ ?_ (fun U=>rfl))
 ·refine Ee B.hh rfl (dY (F.n 1 rfl) rfl (aR rfl) (B.glob rfl) rfl ⟨rfl,lV F hS ⟨_,rfl,rfl,?_,_,rfl,?_⟩⟩)
  ·show(z.keys.map _).length<=_;rw[t7];unfold sizeLine;exact q5 hz (aR rfl)
  ·refine(.mk (z.keys.map (·.1)) z _ _ ka ko ?_ rfl rfl ok H);show((z.keys.map fun p=>(p.1,p.2.toV z.buf)).map (·.1)).map V.int=_;simp only[List.map_map];rfl
 ·rintro v r l s q_
  refine q_ _ ?_;clear q_
  rintro ls z Lx Ly ka ko e rfl rfl ok H
  induction ls with
  |nil=>cases e
  |cons lv ls=>
  cases e;refine(.mk _ (.cM 1 rfl rfl) ?_);rw[Pu] at H;cases ek:eE z.keys lv with
  |none=>rw[ek] at H;exact H.elim
  |some k=>
  rw[ek] at H;dsimp only at H;refine aA rfl (aD rfl (B.loc (x:="key") rfl rfl).1 (sE F hS (fun U U U=>rfl) (aE B 1 rfl rfl rfl (.mk _ k rfl rfl ek ⟨_,.cM 2 rfl rfl,?_⟩))));have go:∀{Qo},(if k.req=true then .wall else if z.keys.length<=1000 then iI ls {z with keys:=cA z.keys lv} else .wall).wp (PQ (fun U=>V.none) Q) (PX X)->
    SW g 3 C' ρ (fun x U s=>X x s) (tM (tM (aU 34 7).body 0 0) 1 0) [gN,("level",.val (.int lv)),("key",.val (k.toV z.buf))] (some (z.sc ka ko)) (lQ g 3 C' ρ (fun x U s=>X x s) [] (pH (OW Q X (ls.map V.int)) Qo)):=by
   intro Qo H;refine aA rfl (aW rfl (bZ (fun U=>rfl) (fK (i:=1) F (B.loc rfl rfl) (aN 2 rfl) rfl rfl rfl rfl ⟨fun hb=>?_,fun hb=>?_⟩)))
   ·rw[if_pos hb] at H;exact H.elim
   ·rw[if_neg (by rw[hb];decide)] at H
    by_cases hl:z.keys.length<=1000
    ·rw[if_pos hl] at H;refine aC (aA rfl (Bu F hS (aE B 1 rfl rfl rfl (.mk _ rfl rfl (by rw[ek];rfl) hl (fun ob=>aC (aC ?_))))));exact(.mk ls _ _ _ ka ob rfl rfl rfl (ok.same rfl rfl rfl) H)
    ·rw[if_neg hl] at H;exact H.elim
  refine aA rfl (aW rfl (gS (aL rfl (fK (i:=3) F (B.loc rfl rfl) (.tail _ (.tail _ (.head _))) rfl rfl rfl rfl (tQ F hS ⟨fun hb=>?_,fun hb=>?_⟩)))))
  ·have hb:k.line≠z.line:=by simpa using hb
   rw[if_pos (.inl hb)] at H;exact⟨fun U=>go H,fun h=>(by cases h)⟩
  ·have hb:k.line=z.line:=by simpa using hb
   refine iS (aL rfl (tR (oO F hS (fK (i:=2) F (B.loc rfl rfl) (aN 2 rfl) rfl rfl rfl rfl ⟨_,_,rfl,rfl,aQ ⟨fun hc=>?_,fun hc=>?_⟩⟩))))
   ·rw[if_pos (.inr (r8 hc))] at H;exact go H
   ·rw[if_neg (fun q=>q.elim (fun q=>q hb) (of_decide_eq_false hc))] at H;exact aC (aC (.mk ls z _ _ ka ko rfl rfl rfl ok H))
 ·rintro l s q_
  refine q_ _ ?_;clear q_
  rintro ls z Lx Ly ka ko e rfl rfl ok H
  induction ls with
  |nil=>exact aC (H ka ko ok)
  |cons _ _=>cases e
def QX(z:Z)(ka:Addr)(ko:Obj)(m:Option Int)(r:List (Int×V))(l:aM)(s:bX):Prop:=∀Ω:Prop,(∀(m':Option Int) (Lx Ly:LV) (hn:jW z.keys m' (r.map (·.1))=some m) (el:l=[gN,("min_token_number",.val (Vl m')),("level",Lx),("key",Ly)]) (es:s=some (z.sc ka ko)),Ω)->Ω
theorem QX.mk{m:Option Int}{r:List (Int×V)}{l:aM}{s:bX}(m':Option Int)(Lx Ly:LV)(hn:jW z.keys m' (r.map (·.1))=some m)(el:l=[gN,("min_token_number",.val (Vl m')),("level",Lx),("key",Ly)])(es:s=some (z.sc ka ko)):QX z ka ko m r l s:=fun U φ=>φ m' Lx Ly hn el es
theorem Zo(F:aP g){m:Option Int}(ok:Ok z){X:nA}{Q:mF}(hm:jW z.keys none (z.keys.map (·.1))=some m)(h:Q (Vl m) (some (z.sc ka ko))):
  FW g 3 ρ X 594 [.self] (some (z.sc ka ko)) Q:=by
 refine cK (F.d 11 rfl) ["min_token_number","level","key"] rfl rfl (by kernel_rfl) fun C' B=>?_;have hS:aF C' "self":=B.loc rfl rfl;refine aA rfl (aD rfl (B.loc (x:="min_token_number") rfl rfl).1 (bT ⟨_,.cM 1 rfl rfl,?_⟩));refine aA rfl (Ih B.hh (B.loc rfl rfl) (z.sc ka ko).keys ka ko (QX z ka ko m) ?_ ?_ ?_ ?_ (fun U=>rfl))
 ·rintro r l s q_
  refine q_ _ ?_;clear q_
  rintro m' Lx Ly _ _ rfl
  exact(DZ _ rfl rfl rfl rfl)
 ·refine lV F hS ⟨rfl,.mk none _ _ ?_ rfl rfl⟩;rw[←hm];show jW z.keys none ((z.keys.map fun p=>(p.1,p.2.toV z.buf)).map (·.1))=_;rw[List.map_map];rfl
 ·rintro k v r l s q_
  refine q_ _ ?_;clear q_
  rintro m' Lx Ly hn rfl rfl
  refine(.mk _ (.tail (.tail .head)) ?_);rw[List.map_cons] at hn;rw[Vb] at hn;cases ek:eE z.keys k with
  |none=>dsimp only at hn;rw[ek] at hn;cases hn
  |some key=>
  dsimp only at hn;rw[ek] at hn;dsimp only at hn;refine aA rfl (aD rfl (B.loc (x:="key") rfl rfl).1 (sE F hS (fun U U U=>rfl) (aE B 2 rfl rfl rfl (.mk _ key rfl rfl ek ⟨_,.tail (.tail (.tail .head)),?_⟩))));refine aA rfl (aW rfl (gS (Bf (bY (B.loc rfl rfl) (.tail _ (.head _)) (fG m' rfl ?_)))));induction m' with
  |none=>
   refine⟨fun U=>⟨fun U=>?_,fun h=>(by cases h)⟩,fun h=>by cases h⟩;refine aA rfl (aD rfl (B.loc (x:="min_token_number") rfl rfl).1 (fK (i:=0) F (B.loc rfl rfl) (aN 3 rfl) rfl rfl rfl rfl ⟨_,.tail .head,aC (aC ?_)⟩));exact(.mk (some key.no) _ _ hn rfl rfl)
  |some i=>
   refine⟨fun h=>(by cases h),fun U=>?_⟩;refine iS (aL rfl (fK (i:=0) F (B.loc rfl rfl) (aN 3 rfl) rfl rfl rfl rfl (aE B 1 rfl rfl rfl ⟨fun hc=>?_,fun hc=>?_⟩)))
   ·have hc:=r8 hc;refine aA rfl (aD rfl (B.loc (x:="min_token_number") rfl rfl).1 (fK (i:=0) F (B.loc rfl rfl) (aN 3 rfl) rfl rfl rfl rfl ⟨_,.tail .head,aC (aC ?_)⟩));refine(.mk (some key.no) _ _ ?_ rfl rfl);rw[←hn];show _=jW z.keys (some (if key.no<i then key.no else i)) _;rw[if_pos hc]
   ·have hc:=of_decide_eq_false hc;refine aC (aC (.mk (some i) _ _ ?_ rfl rfl));rw[←hn];show _=jW z.keys (some (if key.no<i then key.no else i)) _;rw[if_neg hc]
 ·rintro l s q_
  refine q_ _ ?_;clear q_
  rintro m' Lx Ly hn rfl rfl
  cases hn;exact aA rfl (bV (aE B 1 rfl rfl rfl h))
theorem Dq(F:aP g):Sp g ρ 4 643 [] (fun U=>V.none) iJ:=by
 intro z ka ko Q X ok H;refine cK (F.d 18 rfl) ["mark"] rfl rfl (by kernel_rfl) fun C' B=>?_;have hS:aF C' "self":=B.loc rfl rfl;unfold iJ at H;have H:=aX H;refine aA rfl (hM (Ba F (-1)) (F.mn 13 rfl) B rfl hS ⟨_,rfl⟩ rfl (B.int rfl) (fun U=>rfl) (wH (aQ ⟨_,rfl,.mk z ka ko rfl rfl ok (R.mono H (fun a z H ka ko ok=>?_) fun U U x=>x)⟩)) rfl);have H:=aX H;refine aA rfl (hM (kR F) (F.mn 12 rfl) B rfl hS ⟨_,rfl⟩ rfl (B.int rfl) (fun U=>rfl) (.mk z ka ko rfl rfl ok (R.mono H (fun a z H ka ko ok=>?_) fun U U x=>x)) rfl);refine aA rfl (aZ F hS rfl (cC (oP _ z ka ko _ rfl rfl rfl ?_)));refine aA rfl (Ij F.so (F.Mk _ (by simp[aJ])) (bY hS (.head _) ⟨rfl,_,rfl,fun ka ko=>?_⟩));have H:=Kq H;have ok:Ok {z with allow:=false,keys:=[]}:=ok.same rfl rfl rfl
 show SW _ _ _ _ _ _ _ (some (({z with allow:=false,keys:=[]}:Z).sc ka ko)) _
 refine aA rfl (aD rfl (B.loc (x:="mark") rfl rfl).1 (dO F B rfl hS ⟨_,rfl⟩ ⟨_,.cM 1 rfl rfl,?_⟩));refine aA rfl (iE F hS (B.int rfl) ⟨_,rfl⟩ rfl rfl (iL (F.c 2 rfl) rfl rfl rfl (cR (F.gl 3 rfl) (B.glob rfl) rfl ⟨rfl,?_⟩)));refine aE B 1 rfl rfl rfl (aE B 1 rfl rfl rfl ⟨rfl,.mk ({z with allow:=false,keys:=[]}) ka ko rfl H.1 ?_⟩)
 refine aA rfl (Nl F hS rfl (cC (oP true ({z with allow:=false,keys:=[],tokens:=z.tokens++[tk 290 z.mark z.mark]}) ka ko _ rfl rfl rfl (aC ?_))))
 exact H.2 ka ko (ok.same rfl rfl rfl)
theorem zK(F:aP g):Sp g ρ 4 741 [] (fun U=>V.none) eA:=by
 intro z ka ko Q X ok H;refine cK (F.d 27 rfl) ["key","mark","start_mark","end_mark"] rfl rfl (by kernel_rfl) fun C' B=>?_;have hS:aF C' "self":=B.loc rfl rfl;unfold eA at H;have go:∀(z:Z) ka ko lv NF,Ok z->(fF 398 z).wp (PQ (fun U=>V.none) Q) (PX X)->SW g 4 C' ρ (fun x U s=>X x s) ((aU 34 27).body.drop 1) [gN,("key",lv),("mark",NF),("start_mark",.un),("end_mark",.un)] (some (z.sc ka ko)) (iU Q):=by
  intro z ka ko lv NF ok H;unfold fF at H;have H:=aX H;refine aA rfl (aD rfl (B.loc (x:="start_mark") rfl rfl).1 (dO F B rfl hS ⟨_,rfl⟩ ⟨_,.cM 3 rfl rfl,?_⟩));refine aA rfl (gU F B rfl hS ⟨_,rfl⟩ ok H (fun z1 ka ko ok H=>?_) (B.int rfl));refine aA rfl (aD rfl (B.loc (x:="end_mark") rfl rfl).1 (dO F B rfl hS ⟨_,rfl⟩ ⟨_,.cM 4 rfl rfl,?_⟩));have H:=hH H;refine aA rfl (iE F hS (B.int rfl) ⟨_,rfl⟩ rfl rfl (iL (F.c 10 rfl) rfl rfl rfl (cR (F.gl 11 rfl) (B.glob rfl) rfl ⟨rfl,?_⟩)));refine bY (B.loc rfl rfl) (.tail _ (.tail _ (.tail _ (.head _)))) (bY (B.loc rfl rfl) (.tail _ (.tail _ (.tail _ (.tail _ (.head _))))) ⟨rfl,.mk z1 ka ko rfl H.1 (aC ?_)⟩);exact H.2 ka ko (ok.same rfl rfl rfl)
 refine aA rfl (aW rfl (Qu F hS rfl (bC F hS (.mk _ rfl rfl rfl ?_))));cases e:eE z.keys z.aH with
 |some k=>
  rw[e] at H;dsimp only at H;refine⟨fun U=>?_,fun h=>by cases h⟩
  by_cases hl:z.keys.length<=1000
  ·rw[if_pos hl] at H;refine aA rfl (aD rfl (B.loc (x:="key") rfl rfl).1 (sE F hS (fun U U U=>rfl) (bC F hS (.mk _ k rfl rfl e ⟨_,.cM 1 rfl rfl,?_⟩))));refine aA rfl (Bu F hS (bC F hS (.mk _ rfl rfl (by rw[e];rfl) hl (fun ob=>?_))));have H:=Ni H;refine aA rfl (zQ F hS (B.int rfl) ⟨_,rfl⟩ rfl rfl (tR (fK (i:=0) F (B.loc rfl rfl) (aN 1 rfl) rfl rfl rfl rfl (gT F hS ⟨_,_,rfl,rfl,iL (F.c 9 rfl) rfl rfl rfl (cR (F.gl 10 rfl) (B.glob rfl) rfl ⟨rfl,fK (i:=5) F (B.loc rfl rfl) (aN 1 rfl) rfl rfl rfl rfl (fK (i:=5) F (B.loc rfl rfl) (aN 1 rfl) rfl rfl rfl rfl ⟨rfl,.mk _ ({z with keys:=cA z.keys z.aH}) ka ob rfl rfl H.1.1 H.1.2.1 H.1.2.2 ?_⟩)⟩)⟩))))
   obtain⟨_,H⟩:=H;have tN:Ok {z with keys:=cA z.keys z.aH,tokens:=z.tokens.take (k.no-z.taken).toNat++tk 386 (k.mark z.buf) (k.mark z.buf)::z.tokens.drop (k.no-z.taken).toNat}:=ok.same rfl rfl rfl
   have fin:∀(z1:Z) ka ko NF,Ok z1->(fF 398 {z1 with allow:=false}).wp (PQ (fun U=>V.none) Q) (PX X)->SW g 4 C' ρ (fun x U s=>X x s) ((tM (aU 34 27).body 0 0).drop 4) [gN,("key",.val (k.toV z.buf)),("mark",NF),("start_mark",.un),("end_mark",.un)] (some (z1.sc ka ko))
     (lQ g 4 C' ρ (fun x U s=>X x s) ((aU 34 27).body.drop 1) (iU Q)):=by
    intro z1 ka ko NF tN H;refine aA rfl (aZ F hS rfl (cC (oP _ z1 ka ko _ rfl rfl rfl (aC ?_))));exact go _ _ _ _ _ (tN.same rfl rfl rfl) H
   have H:=aX H;refine aA rfl (aW rfl (gJ (bZ (fun U=>rfl) (bC (z:={z with keys:=cA z.keys z.aH,tokens:=z.tokens.take (k.no-z.taken).toNat++tk 386 (k.mark z.buf) (k.mark z.buf)::z.tokens.drop (k.no-z.taken).toNat}) F hS ⟨fun hb=>?_,fun hb=>?_⟩))))
   ·have hf:z.aH=0:=by simpa using hb
    rw[if_pos hf] at H;have H:=aX H;refine aA rfl (aW rfl (bZ (fun U=>rfl) (iN (Dk F k.col) (F.mn 14 rfl) B rfl hS ⟨_,rfl⟩ rfl (fK (i:=4) F (B.loc rfl rfl) (aN 1 rfl) rfl rfl rfl rfl (.mk ({z with keys:=cA z.keys z.aH,tokens:=z.tokens.take (k.no-z.taken).toNat++tk 386 (k.mark z.buf) (k.mark z.buf)::z.tokens.drop (k.no-z.taken).toNat}) ka ob rfl rfl tN (R.mono H (fun b z1 H ka ko ok=>?_) fun U U x=>x))))))
    refine⟨fun hb=>?_,fun hb=>?_⟩
    ·rw[if_pos hb] at H;have H:=Ia H;refine aA rfl (zQ F hS (B.int rfl) ⟨_,rfl⟩ rfl rfl (tR (fK (i:=0) F (B.loc rfl rfl) (aN 1 rfl) rfl rfl rfl rfl (gT F hS ⟨_,_,rfl,rfl,iL (F.c 4 rfl) rfl rfl rfl (cR (F.gl 5 rfl) (B.glob rfl) rfl ⟨rfl,fK (i:=5) F (B.loc rfl rfl) (aN 1 rfl) rfl rfl rfl rfl (fK (i:=5) F (B.loc rfl rfl) (aN 1 rfl) rfl rfl rfl rfl ⟨rfl,.mk _ z1 ka ko rfl rfl H.1.1 H.1.2.1 H.1.2.2 ?_⟩)⟩)⟩))));refine aC (aC (fin _ ka ko _ (ok.same rfl rfl rfl) H.2))
    ·rw[if_neg (by rw[hb];decide)] at H;exact aC (aC (fin _ ka ko _ ok H))
   ·have hf:¬z.aH=0:=by simpa using hb
    rw[if_neg hf] at H;exact aC (fin _ ka ob _ tN H)
  ·rw[if_neg hl] at H;exact H.elim
 |none=>
  rw[e] at H;dsimp only at H;refine⟨fun h=>(by cases h),fun U=>?_⟩;refine aA rfl (aW rfl (gJ (bZ (fun U=>rfl) (bC F hS ⟨fun hb=>?_,fun hb=>?_⟩))))
  ·rw[if_pos (by simpa using hb)] at H;refine aA rfl (aW rfl (gJ (bZ (fun U=>rfl) (kE F hS ⟨fun hb=>?_,fun hb=>?_⟩))))
   ·rw[if_neg (by simpa using hb)] at H;refine aA rfl (Ry F B rfl rfl rfl rfl rfl (bT (bT (aB (dO F B rfl hS ⟨_,rfl⟩ ?_)))));exact fun U φ=>φ _ _ _ _ rfl fun x hx=>H x _ hx
   ·rw[if_pos (by simpa using hb)] at H;exact H.elim
  ·have hf:¬z.aH=0:=by simpa using hb
   rw[if_neg hf] at H;have e:(!(z.aH !=0))=false:=by simp[hf]
   have H:=aX H;refine aC (aA rfl (aW rfl (gJ (bZ (fun U=>rfl) (bC F hS ⟨fun hb=>absurd (by simpa using hb) hf,fun hb=>?_⟩)))));refine aC (aA rfl (aZ F hS rfl (Hu (bC F hS ⟨_,z,ka,ko,_,rfl,rfl,rfl,?_⟩))));rw[e];refine aA rfl (hM (kR F) (F.mn 12 rfl) B rfl hS ⟨_,rfl⟩ rfl (B.int rfl) (fun U=>rfl) (.mk ({z with allow:=false}) ka ko rfl rfl (ok.same rfl rfl rfl) (R.mono H (fun a z H ka ko ok=>aC (go _ _ _ _ _ ok H)) fun U U x=>x)) rfl)
end
theorem lX{p:Nat->Bool}:∀{l:List Nat} {k m:Nat},span p (l.drop k)=some m->∃c,l[k]?=some c/\((p c=true/\∃m',m=m'+1/\span p (l.drop (k+1))=some m')\/(p c=false/\m=0))
 |[],k,m,h=>by rw[List.drop_nil] at h;exact nomatch h
 |c::r,0,m,h=>by
  refine(fG c rfl ?_);rw[List.drop_zero,nV] at h
  by_cases hp:p c=true
  ·rw[if_pos hp] at h;cases e:span p r with
   |none=>rw[e] at h;cases h
   |some m'=>rw[e] at h;cases h;exact .inl ⟨hp,m',rfl,e⟩
  ·rw[if_neg hp] at h;cases h;exact .inr ⟨by simpa using hp,rfl⟩
 |c::r,k+1,m,h=>by
  have:=lX (l:=r) (k:=k) (m:=m) h
  simpa using this
theorem yY{P:Unit->Z->Prop}(H:(bO z).wp P X):(bO z).wp (fun a z'=>P a z'/\z'.rem=z.rem.drop 1) X:=by
 unfold bO at H⊢;cases e:z.rem with
 |nil=>rw[e] at H;exact H.elim
 |cons c r=>
  rw[e] at H;dsimp only at H⊢
  split at H
  ·rename_i h;rw[if_pos h];exact⟨H,rfl⟩
  ·rename_i h;rw[if_neg h]
   split at H
   ·rename_i h;rw[if_pos h]
    induction r with
    |nil=>exact H.elim
    |cons d r=>
     dsimp only at H⊢
     split at H
     ·rename_i h;rw[if_pos h];exact⟨H,rfl⟩
     ·rename_i h;rw[if_neg h];exact⟨H,rfl⟩
   ·rename_i h;rw[if_neg h]
    split at H
    ·rename_i h;rw[if_pos h];exact⟨H,rfl⟩
    ·rename_i h;rw[if_neg h];exact⟨H,rfl⟩
section
variable{D:Nat}
section
variable{C:Cx}{X:eZ}{loc:aM}{AV ap uW pos' OK:Pos}
def RH(p:Nat->Bool)(loc:aM)(P:Unit->Z->Prop)(Xw:V->V->Prop)(n:Nat)(l:aM)(s:bX):Prop:=∀Ω:Prop,(∀(el:l=gN::loc) (z:Z) (ka:Addr) (ko:Obj) (es:s=some (z.sc ka ko)) (ok:Ok z) (e:span p z.rem=some n) (H:(qC n z).wp P Xw),Ω)->Ω
theorem RH.mk{p:Nat->Bool}{loc:aM}{P:Unit->Z->Prop}{n:Nat}{l:aM}{s:bX}(el:l=gN::loc)(z:Z)(ka:Addr)(ko:Obj)(es:s=some (z.sc ka ko))(ok:Ok z)(e:span p z.rem=some n)(H:(qC n z).wp P Xw):RH p loc P Xw n l s:=fun U φ=>φ el z ka ko es ok e H
structure QB(Yq:Bool)(TP:aM)(UQ:bX)(b:Bool)(l:aM)(s:bX):Prop where
 eb:b=Yq
 el:l=TP
 es:s=UQ
def RI(p:Nat->Bool)(z:Z)(ka:Addr)(ko:Obj)(n:Nat)(L:LV->aM)(m:Nat)(l:aM)(s:bX):Prop:=∀Ω:Prop,(∀(k:Nat) (hk:k+m=n) (el:l=L (.val (.int k))) (es:s=some (z.sc ka ko)) (e:span p (z.rem.drop k)=some m),Ω)->Ω
theorem RI.mk{p:Nat->Bool}{n:Nat}{L:LV->aM}{m:Nat}{l:aM}{s:bX}(k:Nat)(hk:k+m=n)(el:l=L (.val (.int k)))(es:s=some (z.sc ka ko))(e:span p (z.rem.drop k)=some m):RI p z ka ko n L m l s:=fun U φ=>φ k hk el es e
theorem Kv{p:Nat->Bool}{test:Expr}{Q:eM}{P:Unit->Z->Prop}(F:aP g)(B:Bd C fd)(hD:Nat.ble 2 D=true)(hS:aF C "self")(hi:interactive C.env=false)(he:dJ (.Name "self" np) "forward" apos pos [] C.env)
  (hp:∀(z:Z) ka ko c,Ok z->z.rem[0]?=some c->BW g D C ρ X test (gN::loc) (some (z.sc ka ko)) (QB (p c) (gN::loc) (some (z.sc ka ko))))
  (ok:Ok z) (H:(qY p z).wp P Xw) (fin:∀z' ka ko,Ok z'->P () z'->Q .next (gN::loc) (some (z'.sc ka ko))):
  kA g D C ρ X (.While test [.Expr (.Call (.Attribute (.Name "self" np) "forward" apos) [] [] pos) pos'] [] OK) (gN::loc) (some (z.sc ka ko)) Q:=by
 unfold qY at H;cases e:span p z.rem with
 |none=>rw[e] at H;exact H.elim
 |some n=>
 rw[e] at H;dsimp only at H;refine oA (RH p loc P Xw) n (.mk rfl z ka ko rfl ok e H) ?_
 rintro n l s q_
 refine q_ _ ?_;clear q_
 rintro rfl z ka ko rfl ok e H
 refine bQ (lX (l:=z.rem) (k:=0) e) fun c hc h=>?_;refine(hp z ka ko c ok hc).mono ?_
 rintro b l s ⟨rfl,rfl,rfl⟩
 rcases h with⟨h1,m,rfl,h2⟩|⟨h1,rfl⟩
 ·refine⟨fun U=>?_,fun h=>(by rw[h1] at h;cases h)⟩;have H:((bO z).bind fun U z=>qC m z).wp P Xw:=H;have H:=yY (aX H);refine bW (gU (P:=fun z1=>(qC m z1).wp P Xw/\z1.rem=z.rem.drop 1) F B hD hS he ok H (fun z' ka ko Gj H=>aC ?_) hi);exact⟨m,x9 _,.mk rfl z' ka ko rfl Gj (by rw[H.2];exact h2) H.1⟩
 ·refine⟨fun h=>(by rw[h1] at h;cases h),fun U=>?_⟩;exact fin z ka ko ok H
theorem uU{p:Nat->Bool}{test:Expr}{n:Nat}{g7:Pos}{kk:Nat}{Q:eM}(L:LV->aM)(hx:aF C "length")(hL:∀v,(("length":Str),v)∈L v)(hU:∀v v',dW "length" v' (L v) (L v'))
  (hp:∀(k c:Nat),z.rem[k]?=some c->BW g D C ρ X test (L (.val (.int k))) (some (z.sc ka ko)) (QB (p c) (L (.val (.int k))) (some (z.sc ka ko))))
  (hn:span p z.rem=some n) (fin:Q .next (L (.val (.int n))) (some (z.sc ka ko))):
  kA g D C ρ X (.While test [.AugAssign (.Name "length" g7) .Add (.Constant (.int 1) kk cp) pos'] [] OK) (L (.val (.int 0))) (some (z.sc ka ko)) Q:=by
 refine oA (RI p z ka ko n L) n (.mk 0 (Nat.zero_add _) rfl rfl hn) ?_
 rintro m l s q_
 refine q_ _ ?_;clear q_
 rintro k hk rfl rfl e
 refine bQ (lX e) fun c hc h=>?_;refine(hp k c hc).mono ?_
 rintro b l s ⟨rfl,rfl,rfl⟩
 rcases h with⟨h1,m',rfl,h2⟩|⟨h1,rfl⟩
 ·refine⟨fun U=>?_,fun h=>(by rw[h1] at h;cases h)⟩;refine bW (iD hx.1 (hL _) (aQ ⟨1,rfl,_,hU _ _,aC ?_⟩));exact⟨m',x9 _,.mk (k+1) ((Nat.add_right_comm ..).trans hk) rfl rfl h2⟩
 ·refine⟨fun h=>(by rw[h1] at h;cases h),fun U=>?_⟩;have:k=n:=hk;subst this;exact fin
end
theorem zB{P:List Nat->Z->Prop}(H:(dH z).wp P X):(dH z).wp (fun lb z'=>P lb z'/\lb.length<=1) X:=by
 unfold dH at H⊢;cases e:z.rem with
 |nil=>rw[e] at H;exact H.elim
 |cons c r=>
  rw[e] at H;dsimp only at H⊢
  split at H
  ·rename_i h;rw[if_pos h]
   split at H
   ·rename_i h;rw[if_pos h]
    exact R.mono (aX H) (fun U U h=>h) (fun U U h=>h)|>fun H=>by
     cases e2:qC 2 z with
     |ok a z1=>rw[e2] at H;exact⟨H,by simp⟩
     |err _ _=>rw[e2] at H;exact H
     |wall=>rw[e2] at H;exact H
   ·rename_i h;rw[if_neg h]
    exact R.mono (aX H) (fun U U h=>h) (fun U U h=>h)|>fun H=>by
     cases e2:qC 1 z with
     |ok a z1=>rw[e2] at H;exact⟨H,by simp⟩
     |err _ _=>rw[e2] at H;exact H
     |wall=>rw[e2] at H;exact H
  ·rename_i h;rw[if_neg h]
   split at H
   ·rename_i h;rw[if_pos h]
    exact R.mono (aX H) (fun U U h=>h) (fun U U h=>h)|>fun H=>by
     cases e2:qC 1 z with
     |ok a z1=>rw[e2] at H;exact⟨H,by simp⟩
     |err _ _=>rw[e2] at H;exact H
     |wall=>rw[e2] at H;exact H
   ·rename_i h;rw[if_neg h];exact⟨H,by simp⟩
theorem yK(l:List Nat):Str.length ⟨l.toArray⟩=l.length:=by simp[Str.length]
def OP(Q:mF)(X:nA)(n:Nat)(l:aM)(s:bX):Prop:=∀Ω:Prop,(∀(z:Z) (ka:Addr) (ko:Obj) (b:Bool) (el:l=[gN,("found",.val (.bool b))]) (es:s=some (z.sc ka ko)) (ok:Ok z) (h1:b=false->(bP n z).wp (PQ (fun U=>V.none) Q) (PX X)) (h2:b=true->Q .none (some (z.sc ka ko))),Ω)->Ω
theorem OP.mk{Q:mF}{X:nA}{n:Nat}{l:aM}{s:bX}(z:Z)(ka:Addr)(ko:Obj)(b:Bool)(el:l=[gN,("found",.val (.bool b))])(es:s=some (z.sc ka ko))(ok:Ok z)(h1:b=false->(bP n z).wp (PQ (fun U=>V.none) Q) (PX X))(h2:b=true->Q .none (some (z.sc ka ko))):OP Q X n l s:=fun U φ=>φ z ka ko b el es ok h1 h2
theorem Pt(F:aP g)(n:Nat):Sp g ρ 3 867 [] (fun U=>V.none) (pC n):=by
 intro z ka ko Q X ok H;refine cK (F.d 39 rfl) ["found"] rfl rfl (by kernel_rfl) fun C' B=>?_;have hS:aF C' "self":=B.loc rfl rfl;unfold pC at H;have go:(bP n z).wp (PQ (fun U=>V.none) Q) (PX X)->SW g 3 C' ρ (fun x U s=>X x s) ((aU 34 45).body.drop 1) [gN,("found",.un)] (some (z.sc ka ko)) (iU Q):=by
  intro H;refine bW (aD rfl (B.loc (x:="found") rfl rfl).1 (cC ⟨_,.tail .head,?_⟩));refine bW (oA (OP Q X) n (.mk z ka ko false rfl rfl ok (fun U=>H) (fun h=>(by cases h))) ?_)
  rintro n l s q_
  refine q_ _ ?_;clear q_
  rintro z ka ko b rfl rfl ok H1 H2
  refine gJ (bZ (fun U=>rfl) (bY (B.loc rfl rfl) (.tail _ (.head _)) ?_));induction b with
  |true=>exact⟨fun h=>(by cases h),fun U=>aC (H2 rfl)⟩
  |false=>
  have H:=H1 rfl;refine⟨fun U=>?_,fun h=>by cases h⟩;induction n with
  |zero=>exact H.elim
  |succ n=>
  rw[fC] at H;have H:=aX H;refine bW (Kv (p:=fun c=>c==32) F B rfl hS (B.int rfl) ⟨_,rfl⟩ (fun z ka ko c ok hc=>?_) ok H fun z ka ko ok H=>?_)
  ·refine aL rfl (dI F B rfl hS ⟨_,rfl⟩ ok hc (aB (dZ 32 rfl ⟨?_,rfl,rfl⟩)))
   by_cases h:c=32<;>simp[h]
  refine bQ (eJ H) fun c hc H=>?_;have tl:∀(z:Z) ka ko,Ok z->((dH z).bind fun lb z=>if lb=[] then .ok () z else bP n (if z.aH=0 then{z with allow:=true} else z)).wp (PQ (fun U=>V.none) Q) (PX X)->SW g 3 C' ρ (fun x U s=>X x s) ((tM (aU 34 45).body 2 0).drop 2) [gN,("found",.val (.bool false))] (some (z.sc ka ko)) (Qe (OP Q X) (n+1) (lQ g 3 C' ρ (fun x U s=>X x s) [] (iU Q))):=by
   intro z ka ko ok H;have H:=aX H;refine(aA rfl (aW rfl (bZ (fun U=>rfl) (iN (oZ F) (F.mn 44 rfl) B rfl hS ⟨_,rfl⟩ rfl (.mk z ka ko rfl rfl ok (R.mono (zB H) (fun lb z H ka ko ok=>?_) fun U U x=>x))))));refine⟨by rw[yK];have:=H.2;unfold sizeLine;exact q5 this (by decide),?_⟩;rw[yK];obtain⟨H,_⟩:=H;induction lb with
   |cons a r=>
    have H:=qS (List.cons_ne_nil _ _) H;refine⟨fun U=>?_,fun h=>(by cases h)⟩;refine bW (kI (gJ (bZ (fun U=>rfl) (bC F hS ⟨fun hb=>?_,fun hb=>?_⟩))))
    ·rw[if_pos (by simpa using hb)] at H;refine bW (aZ F hS rfl (cC (oP _ z ka ko _ rfl rfl rfl (aC (aC (aC ?_))))));exact⟨n,x9 _,.mk _ ka ko false rfl rfl (ok.same rfl rfl rfl) (fun U=>H) (fun h=>(by cases h))⟩
    ·rw[if_neg (by simpa using hb)] at H;exact aC (aC (aC ⟨n,x9 _,.mk _ ka ko false rfl rfl ok (fun U=>H) (fun h=>(by cases h))⟩))
   |nil=>
    have H:=kX rfl H;refine⟨fun h=>(by cases h),fun U=>?_⟩;refine bW (aD rfl (B.loc (x:="found") rfl rfl).1 (cC ⟨_,.tail .head,aC (aC ?_)⟩));exact⟨0,Nat.zero_lt_succ _,.mk z ka ko true rfl rfl ok (fun h=>(by cases h)) (fun U=>H ka ko ok)⟩
  have H:=aX H;refine bW (kI (aL rfl (dI F B rfl hS ⟨_,rfl⟩ ok hc (aB (dZ 35 rfl ⟨fun hb=>?_,fun hb=>?_⟩)))))
  ·rw[if_pos (r8 hb)] at H;refine bW (Kv (p:=fun c=>!isIn Qp c) F B rfl hS (B.int rfl) ⟨_,rfl⟩ (fun z ka ko c ok hc=>?_) ok H fun z ka ko ok H=>aC (tl z ka ko ok H));exact aL rfl (dI F B rfl hS ⟨_,rfl⟩ ok hc (aB (nC Qp rfl ⟨rfl,rfl,rfl⟩)))
  ·rw[if_neg (of_decide_eq_false hb)] at H;exact aC (tl z ka ko ok H)
 refine bW (kI (cV (aL rfl (oO F hS (aQ ⟨fun hb=>?_,fun hb=>?_⟩)))))
 ·have h0:¬z.ptr=0:=by
   intro q;rw[q] at hb;cases hb
  have H:=qS h0 H;exact⟨fun h=>(by cases h),fun U=>aC (go H)⟩
 ·have h0:z.ptr=0:=by simpa using hb
  have H:=kX h0 H;refine bQ (eJ H) fun c hc H=>?_;refine eP (aL rfl (dI F B rfl hS ⟨_,rfl⟩ ok hc (aB (dZ 65279 rfl ⟨fun hb=>?_,fun hb=>?_⟩))))
  ·have H:=kX (r8 hb) H;exact H.elim
  ·have H:=qS (of_decide_eq_false hb) H;exact aC (go H)
end
section
variable{D:Nat}
section
variable{C:Cx}{X:eZ}{loc:aM}
theorem Bh{c:Nat}(l:List Nat){k1 k2 k3 k4 k5 k6 k7:Nat}{p1 p2 p3 p4 p5 p6 p7 q1 q2 q3 q4 r1 r2 r3 r4:Pos}{Q:nX}(hx:aF C x)(hv:(x,LV.val (sv [c]))∈loc)(hl:y.cps.toList=l)(h:Q (uV c||isIn l c) loc σ):
  BW g D C ρ X (.BoolOp .Or [.Compare (.Constant (.str "0") k1 p1) [.LtE,.LtE] [.Name x q1,.Constant (.str "9") k2 p2] r1,.Compare (.Constant (.str "A") k3 p3) [.LtE,.LtE] [.Name x q2,.Constant (.str "Z") k4 p4] r2,
   .Compare (.Constant (.str "a") k5 p5) [.LtE,.LtE] [.Name x q3,.Constant (.str "z") k6 p6] r3,.Compare (.Name x q4) [.In] [.Constant (.str y) k7 p7] r4] pos) loc σ Q:=by
 have DI:∀{a b:Str} {a' b':Nat} {ka kb:Nat} {pa pb q r:Pos} {Q:nX},a.cps.toList=[a']->b.cps.toList=[b']->Q (decide (a'<=c)&&decide (c<=b')) loc σ->
   BW g D C ρ X (.Compare (.Constant (.str a) ka pa) [.LtE,.LtE] [.Name x q,.Constant (.str b) kb pb] r) loc σ Q:=by
  intro a b a' b' ka kb pa pb q r Q ea eb hq;refine Xf rfl (aB (bY hx hv (vV ea rfl ⟨fun hb=>?_,fun hb=>aB (vV rfl eb ?_)⟩)))
  ·rw[hb] at hq;exact hq
  ·rw[hb] at hq;exact hq
 refine gS (DI (a':=48) (b':=57) rfl rfl ⟨fun hb=>?_,fun hb=>?_⟩)
 ·unfold uV at h;rw[hb] at h;simpa using h
 refine gS (DI (a':=65) (b':=90) rfl rfl ⟨fun Zz=>?_,fun Zz=>?_⟩)
 ·unfold uV at h;rw[hb,Zz] at h;simpa using h
 refine gS (DI (a':=97) (b':=122) rfl rfl ⟨fun GR=>?_,fun GR=>?_⟩)
 ·unfold uV at h;rw[hb,Zz,GR] at h;simpa using h
 refine iS (aL rfl (bY hx hv (aB (fJ l hl ?_))));unfold uV at h;rw[hb,Zz,GR] at h;simpa using h
end
def QA(Cl:Addr)(z z1:Z)(ka:Addr)(ko:Obj)(c0:Nat)(nm:Str)(n m:Nat)(l:aM)(s:bX):Prop:=∀Ω:Prop,(∀(k c:Nat) (hk:k+m=n) (el:l=[gN,("TokenClass",.val (.glob (.ref Cl))),("start_mark",.val z.mark),("indicator",.val (sv [c0])),("name",.val (.str nm)),("length",.val (.int (k:Int))),("ch",.val (sv [c])),("value",.un),("end_mark",.un)]) (es:s=some (z1.sc ka ko)) (hc:z1.rem[k]?=some c) (e:span nQ (z1.rem.drop k)=some m),Ω)->Ω
theorem QA.mk{z1:Z}{c0:Nat}{nm:Str}{n m:Nat}{l:aM}{s:bX}(k c:Nat)(hk:k+m=n)(el:l=[gN,("TokenClass",.val (.glob (.ref Cl))),("start_mark",.val z.mark),("indicator",.val (sv [c0])),("name",.val (.str nm)),("length",.val (.int (k:Int))),("ch",.val (sv [c])),("value",.un),("end_mark",.un)])(es:s=some (z1.sc ka ko))(hc:z1.rem[k]?=some c)(e:span nQ (z1.rem.drop k)=some m):QA Cl z z1 ka ko c0 nm n m l s:=fun U φ=>φ k c hk el es hc e
theorem Az(F:aP g)(Cl:Addr)(hC:qJ g Cl (ll ["value","start_mark","end_mark"]) 3 []):Sp g ρ 3 930 [.glob (.ref Cl)] id (mS Cl):=by
 intro z ka ko Q X ok H;refine cK (F.d 40 rfl) ["start_mark","indicator","name","length","ch","value","end_mark"] rfl rfl (by kernel_rfl) fun C' B=>?_;have hS:aF C' "self":=B.loc rfl rfl;unfold mS at H;refine bQ (eJ H) fun c0 Wv H=>?_;have H:=aX H;refine aA rfl (aD rfl (B.loc (x:="start_mark") rfl rfl).1 (dO F B rfl hS ⟨_,rfl⟩ ⟨_,.cM 2 rfl rfl,?_⟩));refine aA rfl (aD rfl (B.loc (x:="indicator") rfl rfl).1 (dI F B rfl hS ⟨_,rfl⟩ ok Wv ⟨_,.cM 3 rfl rfl,?_⟩));have go:∀nm:Str,SW g 3 C' ρ (fun x U s=>X x s) ((aU 34 54).body.drop 3) [gN,("TokenClass",.val (.glob (.ref Cl))),("start_mark",.val z.mark),("indicator",.val (sv [c0])),("name",.val (.str nm)),("length",.un),("ch",.un),("value",.un),("end_mark",.un)] (some (z.sc ka ko)) (iU Q):=by
  intro nm;refine aA rfl (gU F B rfl hS ⟨_,rfl⟩ ok H (fun z1 ka ko tN H=>?_) (B.int rfl));cases e:span nQ z1.rem with
  |none=>rw[e] at H;exact H.elim
  |some n=>
  rw[e] at H;refine bQ (lX (l:=z1.rem) (k:=0) e) fun c1 VS U=>?_;refine aA rfl (aD rfl (B.loc (x:="length") rfl rfl).1 (aQ ⟨_,.cM 5 rfl rfl,?_⟩));refine aA rfl (aD rfl (B.loc (x:="ch") rfl rfl).1 (eS F B rfl hS ⟨_,rfl⟩ rfl (aE B 5 rfl rfl rfl (.mk 0 c1 z1 ka ko rfl rfl tN VS ⟨_,.tail (.tail (.tail (.tail (.tail (.tail .head))))),?_⟩))));refine aA rfl (iV rfl (QA Cl z z1 ka ko c0 nm n) n (.mk 0 c1 (Nat.zero_add n) rfl rfl VS e) ?_)
  rintro m l s q_
  refine q_ _ ?_;clear q_
  rintro k c hk rfl rfl hc es
  refine Bh [45,95] (B.loc rfl rfl) (.tail _ (.tail _ (.tail _ (.tail _ (.tail _ (.tail _ (.head _))))))) rfl ?_;refine bQ (lX es) fun c' VQ h=>?_;rw[hc] at VQ;cases VQ;have ew:(uV c||isIn [45,95] c)=nQ c:=rfl;rw[ew]
  rcases h with⟨h1,m',rfl,h2⟩|⟨h1,rfl⟩
  ·refine⟨fun U=>?_,fun h=>(by rw[h1] at h;cases h)⟩;refine bQ (lX h2) fun c2 VT U=>?_;refine aA rfl (iD (B.loc rfl rfl).1 (aN 5 rfl) (aQ ⟨1,rfl,_,.cM 5 rfl rfl,?_⟩));refine aA rfl (aD rfl (B.loc (x:="ch") rfl rfl).1 (eS F B rfl hS ⟨_,rfl⟩ rfl (aE B 5 rfl rfl rfl (.mk (k+1) c2 z1 ka ko rfl rfl tN VT ⟨_,.tail (.tail (.tail (.tail (.tail (.tail .head))))),aC ?_⟩))));exact⟨m',x9 m',.mk (k+1) c2 ((Nat.succ_add k m').trans hk) rfl rfl VT h2⟩
  ·refine⟨fun h=>(by rw[h1] at h;cases h),fun U=>?_⟩;have:k=n:=hk;subst this;refine aA rfl (aW rfl (gJ (bZ (fun U=>rfl) (aE B 5 rfl rfl rfl ⟨fun hb=>?_,fun hb=>?_⟩))))
   ·have h0:k=0:=by
     have:((k:Int) !=0)=false:=by simpa using hb
     have:=bne_eq_false_iff_eq.mp this;exact Int.ofNat_inj.mp this
    subst h0;exact H.elim
   ·have h0:k≠0:=by
     intro q;subst q;cases hb
    obtain⟨k',rfl⟩:=Nat.exists_eq_succ_of_ne_zero h0;have H:=aX H;refine aC (aA rfl (aD rfl (B.loc (x:="value") rfl rfl).1 (fO F B rfl hS ⟨_,rfl⟩ rfl (aE B 5 rfl rfl rfl (.mk (k'+1) z1 ka ko rfl rfl tN ⟨_,.cM 7 rfl rfl,?_⟩)))));refine aA rfl (oQ F B rfl hS ⟨_,rfl⟩ rfl (B.int rfl) (aE B 5 rfl rfl rfl (.mk (k'+1) rfl rfl rfl H)) tN fun z2 ka ko qP H=>?_);refine bQ (eJ H) fun c3 IY H=>?_;refine aA rfl (aD rfl (B.loc (x:="ch") rfl rfl).1 (dI F B rfl hS ⟨_,rfl⟩ qP IY ⟨_,.cM 6 rfl rfl,?_⟩));refine aA rfl (aW rfl (aL rfl (aE B 6 rfl rfl rfl (aB (nC nF rfl ⟨fun hb=>?_,fun hb=>?_⟩)))))
    ·rw[if_neg (by simpa using hb)] at H;exact H.elim
    ·rw[if_pos (by simpa using hb)] at H;refine aC (aA rfl (aD rfl (B.loc (x:="end_mark") rfl rfl).1 (dO F B rfl hS ⟨_,rfl⟩ ⟨_,.cM 8 rfl rfl,?_⟩)));refine aA rfl (bV (iL hC rfl (aR rfl) rfl (aE B 1 rfl rfl rfl ⟨rfl,?_⟩)));refine aE B 7 rfl rfl rfl (aE B 2 rfl rfl rfl (aE B 8 rfl rfl rfl ⟨rfl,?_⟩));exact H ka ko qP
 refine aA rfl (aW rfl (aL rfl (aE B 3 rfl rfl rfl (aB (dZ 42 rfl ⟨fun hb=>?_,fun hb=>?_⟩)))))
 ·exact aA rfl (aD rfl (B.loc (x:="name") rfl rfl).1 (aB ⟨_,.cM 4 rfl rfl,aC (go _)⟩))
 ·exact aA rfl (aD rfl (B.loc (x:="name") rfl rfl).1 (aB ⟨_,.cM 4 rfl rfl,aC (go _)⟩))
theorem Wb(F:aP g):Sp g ρ 5 748 [] (fun U=>V.none) (gG 441):=by
 intro z ka ko Q X ok H;refine cK (F.d 28 rfl) [] rfl rfl (by kernel_rfl) fun C' B=>?_;have hS:aF C' "self":=B.loc rfl rfl;have H:=aX H;refine aA rfl (hM (qH F) (F.mn 11 rfl) B rfl hS ⟨_,rfl⟩ rfl (B.int rfl) (fun U=>rfl) (.mk z ka ko rfl rfl ok (R.mono H (fun a z H ka ko ok=>?_) fun U U x=>x)) rfl);refine aA rfl (aZ F hS rfl (cC (oP _ z ka ko _ rfl rfl rfl ?_)));have H:=aX H;refine aA rfl (iE F hS (B.int rfl) ⟨_,rfl⟩ rfl rfl (iN (Az F 441 (F.c 13 rfl)) (F.mn 39 rfl) B rfl hS ⟨_,rfl⟩ rfl (cR (F.gl 14 rfl) (B.glob rfl) rfl (.mk ({z with allow:=false}) ka ko rfl rfl (ok.same rfl rfl rfl) (R.mono H (fun t z H ka ko ok=>?_) fun U U x=>x)))))
 have H:=hH H;exact(.mk z ka ko rfl H.1 (aC (H.2 ka ko (ok.same rfl rfl rfl))))
theorem Jx(F:aP g):Sp g ρ 5 755 [] (fun U=>V.none) (gG 460):=by
 intro z ka ko Q X ok H;refine cK (F.d 29 rfl) [] rfl rfl (by kernel_rfl) fun C' B=>?_;have hS:aF C' "self":=B.loc rfl rfl;have H:=aX H;refine aA rfl (hM (qH F) (F.mn 11 rfl) B rfl hS ⟨_,rfl⟩ rfl (B.int rfl) (fun U=>rfl) (.mk z ka ko rfl rfl ok (R.mono H (fun a z H ka ko ok=>?_) fun U U x=>x)) rfl);refine aA rfl (aZ F hS rfl (cC (oP _ z ka ko _ rfl rfl rfl ?_)));have H:=aX H;refine aA rfl (iE F hS (B.int rfl) ⟨_,rfl⟩ rfl rfl (iN (Az F 460 (F.c 14 rfl)) (F.mn 39 rfl) B rfl hS ⟨_,rfl⟩ rfl (cR (F.gl 15 rfl) (B.glob rfl) rfl (.mk ({z with allow:=false}) ka ko rfl rfl (ok.same rfl rfl rfl) (R.mono H (fun t z H ka ko ok=>?_) fun U U x=>x)))))
 have H:=hH H;exact(.mk z ka ko rfl H.1 (aC (H.2 ka ko (ok.same rfl rfl rfl))))
end
theorem Of:∀(cs:List (List Nat)) (acc:Array Nat),((cs.map fun l=>(⟨l.toArray⟩:Str)).foldl (fun acc p=>acc++(Str.ofString "").cps++p.cps) acc)=acc++cs.flatten.toArray:=by
 intro eN;induction eN with
 |nil=>
  intro acc;exact by simp
 |cons c cs ih=>
  intro acc;rw[List.map_cons,List.foldl_cons,ih];have e:(Str.ofString "").cps= #[]:=rfl;rw[e];simp
theorem Oo(cs:List (List Nat)):Txt.join (Str.ofString "") (cs.map fun l=>⟨l.toArray⟩)=⟨cs.flatten.toArray⟩:=by
 unfold Txt.join Builtin.Str.glued;induction cs with
 |nil=>rfl
 |cons c cs=>
  rw[List.map_cons,List.drop_one,List.tail_cons,Of]
  simp
theorem Wk(cs:List (List Nat)):((cs.map fun l=>(⟨l.toArray⟩:Str)).map (·.length)).sum=cs.flatten.length:=by
 rw[List.map_map,List.length_flatten]
 congr 1
section
variable{D:Nat}
theorem wG{C:Cx}{X:eZ}{loc:aM}{k:Nat}{sp:Pos}{cs:List (List Nat)}(hx:aF C x)(h0:(x,LV.ml (cs.map sv))∈loc)(iX:cs.flatten.length+cs.length<=1000000)
  (he:dJ (.Constant (.str (Str.ofString "")) k sp) "join" apos pos [.Name x np] C.env) (hs:bA pos [.Name x np] C.env) (h:Q (sv cs.flatten) loc σ):
  EW g D C ρ X (.Call (.Attribute (.Constant (.str (Str.ofString "")) k sp) "join" apos) [.Name x np] [] pos) loc σ Q:=by
 refine Ht (ys:=cs.map fun l=>⟨l.toArray⟩) hx h0 (by rw[List.map_map];rfl) (aR rfl) ?_ he hs ?_
 ·rw[Wk,t7];exact q5 iX (aR rfl)
 ·rw[Oo];exact h
theorem Gw(F:aP g):Sp g ρ 6 678 [] (fun U=>V.none) (iF 338):=by
 intro z ka ko Q X ok H;refine cK (F.d 19 rfl) [] rfl rfl (by kernel_rfl) fun C' B=>?_;have hS:aF C' "self":=B.loc rfl rfl;exact aA rfl (hM (tE F 338 (F.c 6 rfl)) (F.mn 18 rfl) B rfl hS ⟨_,rfl⟩ rfl (B.int rfl) (fun U=>rfl) (cR (F.gl 7 rfl) (B.glob rfl) rfl (.mk z ka ko rfl rfl ok (R.mono H (fun a z H ka ko ok=>aC (H ka ko ok)) fun U U x=>x))) rfl)
theorem Gv(F:aP g):Sp g ρ 6 685 [] (fun U=>V.none) (iF 350):=by
 intro z ka ko Q X ok H;refine cK (F.d 32 rfl) [] rfl rfl (by kernel_rfl) fun C' B=>?_;have hS:aF C' "self":=B.loc rfl rfl;exact aA rfl (hM (tE F 350 (F.c 3 rfl)) (F.mn 18 rfl) B rfl hS ⟨_,rfl⟩ rfl (B.int rfl) (fun U=>rfl) (cR (F.gl 4 rfl) (B.glob rfl) rfl (.mk z ka ko rfl rfl ok (R.mono H (fun a z H ka ko ok=>aC (H ka ko ok)) fun U U x=>x))) rfl)
theorem Pp(F:aP g):Sp g ρ 5 699 [] (fun U=>V.none) (lS 362):=by
 intro z ka ko Q X ok H;refine cK (F.d 21 rfl) [] rfl rfl (by kernel_rfl) fun C' B=>?_;have hS:aF C' "self":=B.loc rfl rfl;exact aA rfl (hM (yI F 362 (F.c 7 rfl)) (F.mn 21 rfl) B rfl hS ⟨_,rfl⟩ rfl (B.int rfl) (fun U=>rfl) (cR (F.gl 8 rfl) (B.glob rfl) rfl (.mk z ka ko rfl rfl ok (R.mono H (fun a z H ka ko ok=>aC (H ka ko ok)) fun U U x=>x))) rfl)
theorem Po(F:aP g):Sp g ρ 5 706 [] (fun U=>V.none) (lS 374):=by
 intro z ka ko Q X ok H;refine cK (F.d 22 rfl) [] rfl rfl (by kernel_rfl) fun C' B=>?_;have hS:aF C' "self":=B.loc rfl rfl;exact aA rfl (hM (yI F 374 (F.c 8 rfl)) (F.mn 21 rfl) B rfl hS ⟨_,rfl⟩ rfl (B.int rfl) (fun U=>rfl) (cR (F.gl 9 rfl) (B.glob rfl) rfl (.mk z ka ko rfl rfl ok (R.mono H (fun a z H ka ko ok=>aC (H ka ko ok)) fun U U x=>x))) rfl)
theorem rS(F:aP g)(ok:Ok z)(hd:z.rem[1]?=some d){X:nA}{Q:mF}(h:Q (.bool (isIn lP d)) (some (z.sc ka ko))):FW g 1 ρ X 839 [.self] (some (z.sc ka ko)) Q:=by
 refine cK (F.d 35 rfl) [] rfl rfl (by kernel_rfl) fun C' B=>?_;have hS:aF C' "self":=B.loc rfl rfl;exact aA rfl (bV (oN rfl (eS F B rfl hS ⟨_,rfl⟩ rfl (aQ (.mk 1 d z ka ko rfl rfl ok hd (aB (fJ lP rfl h)))))))
def Kh(z:Z)(b:Bool):Prop:=(z.aH≠0/\b=true)\/(z.aH=0/\∃d,z.rem[1]?=some d/\b=isIn lP d)
theorem Ci(F:aP g){b:Bool}(ok:Ok z)(hb:Kh z b){X:nA}{Q:mF}(h:Q (.bool b) (some (z.sc ka ko))):FW g 1 ρ X 846 [.self] (some (z.sc ka ko)) Q:=by
 refine cK (F.d 36 rfl) [] rfl rfl (by kernel_rfl) fun C' B=>?_;have hS:aF C' "self":=B.loc rfl rfl;refine aA rfl (aW rfl (bZ (fun U=>rfl) (bC F hS ?_)))
 rcases hb with⟨hf,rfl⟩|⟨hf,d,hd,rfl⟩
 ·exact⟨fun U=>aA rfl (bV (cC h)),fun q=>absurd (by simpa using q) hf⟩
 ·refine⟨fun q=>?_,fun U=>?_⟩
  ·rw[hf] at q;cases q
  ·exact aA rfl (bV (oN rfl (eS F B rfl hS ⟨_,rfl⟩ rfl (aQ (.mk 1 d z ka ko rfl rfl ok hd (aB (fJ lP rfl h)))))))
theorem xK(F:aP g){b:Bool}(ok:Ok z)(hb:Kh z b){X:nA}{Q:mF}(h:Q (.bool b) (some (z.sc ka ko))):FW g 1 ρ X 853 [.self] (some (z.sc ka ko)) Q:=by
 refine cK (F.d 37 rfl) [] rfl rfl (by kernel_rfl) fun C' B=>?_;have hS:aF C' "self":=B.loc rfl rfl;refine aA rfl (aW rfl (bZ (fun U=>rfl) (bC F hS ?_)))
 rcases hb with⟨hf,rfl⟩|⟨hf,d,hd,rfl⟩
 ·exact⟨fun U=>aA rfl (bV (cC h)),fun q=>absurd (by simpa using q) hf⟩
 ·refine⟨fun q=>?_,fun U=>?_⟩
  ·rw[hf] at q;cases q
  ·exact aA rfl (bV (oN rfl (eS F B rfl hS ⟨_,rfl⟩ rfl (aQ (.mk 1 d z ka ko rfl rfl ok hd (aB (fJ lP rfl h)))))))
theorem oU(F:aP g)(ok:Ok z)(hc:¬(z.col=0/\z.rem.take 3=[45,45,45])){X:nA}{Q:mF}(h:Q .none (some (z.sc ka ko))):FW g 2 ρ X 825 [.self] (some (z.sc ka ko)) Q:=by
 refine cK (F.d 33 rfl) [] rfl rfl (by kernel_rfl) fun C' B=>?_;have hS:aF C' "self":=B.loc rfl rfl;refine aA rfl (aW rfl (aL rfl (jB F hS (aQ ⟨fun hb=>?_,fun hb=>aC (aC h)⟩))));have h0:z.col=0:=by simpa using hb
 refine aA rfl (aW rfl (cV (aL rfl (fO F B rfl hS ⟨_,rfl⟩ rfl (aQ (.mk 3 z ka ko rfl rfl ok (aB (rK [45,45,45] rfl ⟨fun hb=>⟨fun h=>(by cases h),fun U=>aC (aC (aC h))⟩,fun hb=>?_⟩))))))));exact absurd ⟨h0,r8 hb⟩ hc
def Dz(z:Z)(c:Nat)(b:Bool):Prop:=(isIn oJ c=false/\b=true)\/(isIn oJ c=true/\b=false/\∃d,z.rem[1]?=some d/\isIn lP d=true)
theorem yZ(F:aP g){c:Nat}{b:Bool}(ok:Ok z)(hc:z.rem[0]?=some c)(hb:Dz z c b){X:nA}{Q:mF}(h:Q (.bool b) (some (z.sc ka ko))):FW g 1 ρ X 860 [.self] (some (z.sc ka ko)) Q:=by
 refine cK (F.d 38 rfl) ["ch"] rfl rfl (by kernel_rfl) fun C' B=>?_;have hS:aF C' "self":=B.loc rfl rfl;refine aA rfl (aD rfl (B.loc (x:="ch") rfl rfl).1 (dI F B rfl hS ⟨_,rfl⟩ ok hc ⟨_,.tail .head,?_⟩));refine aA rfl (bV (mA (oN rfl (bY (B.loc rfl rfl) (.tail _ (.head _)) (aB (nC oJ rfl ?_))))))
 rcases hb with⟨h1,rfl⟩|⟨h1,rfl,d,hd,hd2⟩
 ·rw[h1];exact⟨fun U=>h,fun h=>(by cases h)⟩
 rw[h1];refine⟨fun h=>(by cases h),fun U=>?_⟩;refine wD (mA (oN rfl (eS F B rfl hS ⟨_,rfl⟩ rfl (aQ (.mk 1 d z ka ko rfl rfl ok hd (aB (nC lP rfl ?_)))))));rw[hd2];exact⟨fun U=>h,fun h=>(by cases h)⟩
noncomputable def BS:List Nat:=[45,59,47,63,58,64,38,61,43,36,44,95,46,33,126,42,39,40,41,91,93,37]
theorem BU{c:Nat}(h:isIn rZ c=true):(uV c||isIn BS c)=false:=by
 have k:∀x∈rZ,(uV x||isIn BS x)=false:=by decide+kernel
 exact k c (s9.mp h)
inductive RM(z:Z)(ka:Addr)(ko:Obj)(nm sm:V)(c:Nat):Nat->aM->bX->Prop
 |a:RM z ka ko nm sm c 1 [gN,("name",.val nm),("start_mark",.val sm),("chunks",.ml []),("length",.val (.int 0)),("ch",.val (sv [103]))] (some (z.sc ka ko))
 |b:RM z ka ko nm sm c 0 [gN,("name",.val nm),("start_mark",.val sm),("chunks",.ml []),("length",.val (.int 1)),("ch",.val (sv [c]))] (some (z.sc ka ko))
theorem Vs{l:List Nat}{x:Nat}{xs:List Nat}{n:Nat}(h:l.take (n+1)=x::xs):l[0]?=some x:=by
 cases l with
 |nil=>exact nomatch h
 |cons y r=>exact congrArg some (List.cons.inj h).1
theorem Pc{l:List Nat}{x y:Nat}{xs:List Nat}{n:Nat}(h:l.take (n+2)=x::y::xs):l[1]?=some y:=by
 cases l with
 |nil=>exact nomatch h
 |cons a r=>
  cases r with
  |nil=>exact nomatch h
  |cons b r=>exact congrArg some (List.cons.inj (List.cons.inj h).2).1
theorem IH(F:aP g)(nm sm:V):Sp g ρ 2 1031 [nm,sm] sv qG:=by
 intro z ka ko Q X ok H;refine cK (F.d 50 rfl) ["chunks","length","ch"] rfl rfl (by kernel_rfl) fun C' B=>?_;have hS:aF C' "self":=B.loc rfl rfl;unfold qG at H
 by_cases h1:z.rem.take 1=[103]
 case neg=>rw[if_neg h1] at H;exact H.elim
 rw[if_pos h1] at H;refine bQ (eJ H) fun c hc H=>?_
 by_cases hb:isIn rZ c=true
 case neg=>rw[if_neg hb] at H;exact H.elim
 rw[if_pos hb] at H;have H:=aX H;have h0:=Vs h1;refine aA rfl (cO (B.loc (x:="chunks") rfl rfl) rfl ⟨by decide,_,.cM 3 rfl rfl,?_⟩);refine aA rfl (aD rfl (B.loc (x:="length") rfl rfl).1 (aQ ⟨_,.cM 4 rfl rfl,?_⟩));refine aA rfl (aD rfl (B.loc (x:="ch") rfl rfl).1 (eS F B rfl hS ⟨_,rfl⟩ rfl (aE B 4 rfl rfl rfl (.mk 0 103 z ka ko rfl rfl ok h0 ⟨_,.cM 5 rfl rfl,?_⟩))));refine aA rfl (iV rfl (RM z ka ko nm sm c) 1 .a ?_)
 rintro n l s hj
 induction hj with
 |a=>
  refine Bh BS (B.loc rfl rfl) (aN 5 rfl) rfl ?_;refine⟨fun U=>?_,fun h=>(by cases h)⟩;refine aA rfl (aW rfl (aL rfl (aE B 5 rfl rfl rfl (aB (dZ 37 rfl ⟨fun hb=>(by cases hb),fun U=>?_⟩)))));refine aA rfl (iD (B.loc rfl rfl).1 (aN 4 rfl) (aQ ⟨1,rfl,_,.cM 4 rfl rfl,aC ?_⟩));refine aA rfl (aD rfl (B.loc (x:="ch") rfl rfl).1 (eS F B rfl hS ⟨_,rfl⟩ rfl (aE B 4 rfl rfl rfl (.mk 1 c z ka ko rfl rfl ok hc ⟨_,.cM 5 rfl rfl,aC ?_⟩))));exact⟨0,by decide,.b⟩
 |b=>
  refine Bh BS (B.loc rfl rfl) (aN 5 rfl) rfl ?_;rw[BU hb];refine⟨fun h=>(by cases h),fun U=>?_⟩;refine aA rfl (aW rfl (bZ (fun U=>rfl) (aE B 4 rfl rfl rfl ⟨fun U=>?_,fun hb=>(by cases hb)⟩)));refine aA rfl (cJ (B.int rfl) rfl (cF (B.loc rfl rfl) (aN 3 rfl) ⟨_,rfl⟩ rfl (fO F B rfl hS ⟨_,rfl⟩ rfl (aE B 4 rfl rfl rfl (.mk 1 z ka ko rfl rfl ok ⟨_,_,(aN 3 rfl),by decide,.cM 3 rfl rfl,rfl,?_⟩)))));refine aA rfl (oQ F B rfl hS ⟨_,rfl⟩ rfl (B.int rfl) (aE B 4 rfl rfl rfl (.mk 1 rfl rfl rfl H)) ok fun z2 ka ko qP H=>?_);refine aA rfl (aD rfl (B.loc (x:="length") rfl rfl).1 (aQ ⟨_,.cM 4 rfl rfl,aC ?_⟩));refine aA rfl (aW rfl (gJ (Qv (B.loc rfl rfl) (aN 3 rfl) (by show 1<=_;decide) ⟨fun h=>(by cases h),fun U=>aC ?_⟩)));rw[h1];refine aA rfl (bV (wG (cs:=[[103]]) (B.loc rfl rfl) (aN 3 rfl) (aR rfl) ⟨_,rfl⟩ rfl ?_));exact H ka ko qP
inductive RK(z:Z)(ka:Addr)(ko:Obj)(c:Nat):Nat->aM->bX->Prop
 |a:RK z ka ko c 1 [gN,("start_mark",.val z.mark),("ch",.val (sv [103])),("length",.val (.int 1)),("use_handle",.val (.bool false)),("handle",.un),("suffix",.un),("value",.un),("end_mark",.un)] (some (z.sc ka ko))
 |b:RK z ka ko c 0 [gN,("start_mark",.val z.mark),("ch",.val (sv [c])),("length",.val (.int 2)),("use_handle",.val (.bool false)),("handle",.un),("suffix",.un),("value",.un),("end_mark",.un)] (some (z.sc ka ko))
theorem IG(F:aP g):Sp g ρ 3 937 [] id tA:=by
 intro z ka ko Q X ok H;refine cK (F.d 49 rfl) ["start_mark","ch","length","use_handle","handle","suffix","value","end_mark"] rfl rfl (by kernel_rfl) fun C' B=>?_;have hS:aF C' "self":=B.loc rfl rfl;unfold tA at H
 by_cases h2:z.rem.take 2=[33,103]
 case neg=>rw[if_neg h2] at H;exact H.elim
 rw[if_pos h2] at H;refine bQ (eJ H) fun c hc H=>?_
 by_cases hb:isIn rZ c=true
 case neg=>rw[if_neg hb] at H;exact H.elim
 rw[if_pos hb] at H;have H:=aX H;have h1:=Pc h2;refine aA rfl (aD rfl (B.loc (x:="start_mark") rfl rfl).1 (dO F B rfl hS ⟨_,rfl⟩ ⟨_,.cM 1 rfl rfl,?_⟩));refine aA rfl (aD rfl (B.loc (x:="ch") rfl rfl).1 (eS F B rfl hS ⟨_,rfl⟩ rfl (aQ (.mk 1 103 z ka ko rfl rfl ok h1 ⟨_,.cM 2 rfl rfl,?_⟩))));refine aA rfl (aW rfl (aL rfl (aE B 2 rfl rfl rfl (aB (dZ 60 rfl ⟨fun hb=>(by cases hb),fun U=>?_⟩)))));refine aA rfl (aW rfl (aL rfl (aE B 2 rfl rfl rfl (aB (fJ lP rfl ⟨fun hb=>(by cases hb),fun U=>?_⟩)))));refine aA rfl (aD rfl (B.loc (x:="length") rfl rfl).1 (aQ ⟨_,.cM 3 rfl rfl,?_⟩));refine aA rfl (aD rfl (B.loc (x:="use_handle") rfl rfl).1 (cC ⟨_,.cM 4 rfl rfl,?_⟩));refine aA rfl (iV rfl (RK z ka ko c) 1 .a ?_)
 rintro n l s hj
 induction hj with
 |a=>
  refine aL rfl (aE B 2 rfl rfl rfl (aB (nC rZ rfl ⟨fun U=>?_,fun h=>(by cases h)⟩)));refine aA rfl (aW rfl (aL rfl (aE B 2 rfl rfl rfl (aB (dZ 33 rfl ⟨fun hb=>(by cases hb),fun U=>aC ?_⟩)))));refine aA rfl (iD (B.loc rfl rfl).1 (aN 3 rfl) (aQ ⟨1,rfl,_,.cM 3 rfl rfl,?_⟩));refine aA rfl (aD rfl (B.loc (x:="ch") rfl rfl).1 (eS F B rfl hS ⟨_,rfl⟩ rfl (aE B 3 rfl rfl rfl (.mk 2 c z ka ko rfl rfl ok hc ⟨_,.cM 2 rfl rfl,aC ?_⟩))));exact⟨0,by decide,.b⟩
 |b=>
  refine aL rfl (aE B 2 rfl rfl rfl (aB (nC rZ rfl ?_)));rw[hb];refine⟨fun h=>(by cases h),fun U=>?_⟩;refine aA rfl (aD rfl (B.loc (x:="handle") rfl rfl).1 (aB ⟨_,.cM 5 rfl rfl,?_⟩));refine aA rfl (aW rfl (bZ (fun U=>rfl) (aE B 4 rfl rfl rfl ⟨fun h=>(by cases h),fun U=>?_⟩)));refine aA rfl (aD rfl (B.loc (x:="handle") rfl rfl).1 (aB ⟨_,.cM 5 rfl rfl,?_⟩));refine aA rfl (gU F B rfl hS ⟨_,rfl⟩ ok H (fun z1 ka ko tN H=>aC ?_) (B.int rfl));have H:=aX H;refine aA rfl (aD rfl (B.loc (x:="suffix") rfl rfl).1 (iN (IH F (.str "tag") z.mark) (F.mn 47 rfl) B rfl hS ⟨_,rfl⟩ rfl (aB (aE B 1 rfl rfl rfl (.mk z1 ka ko rfl rfl tN (R.mono H (fun s z2 H ka ko qP=>⟨_,.cM 6 rfl rfl,aC (aC ?_)⟩) fun U U x=>x))))));refine bQ (eJ H) fun c3 IY H=>?_
  by_cases GR:isIn rZ c3=true
  case neg=>rw[if_neg GR] at H;exact H.elim
  rw[if_pos GR] at H;refine aA rfl (aD rfl (B.loc (x:="ch") rfl rfl).1 (dI F B rfl hS ⟨_,rfl⟩ qP IY ⟨_,.cM 2 rfl rfl,?_⟩));refine aA rfl (aW rfl (aL rfl (aE B 2 rfl rfl rfl (aB (nC rZ rfl ⟨fun hb=>(by rw[GR] at hb;cases hb),fun U=>aC ?_⟩)))));refine aA rfl (aD rfl (B.loc (x:="value") rfl rfl).1 (eW rfl (aE B 5 rfl rfl rfl (aE B 6 rfl rfl rfl ⟨by show 2<=_;decide,_,.cM 7 rfl rfl,?_⟩))));refine aA rfl (aD rfl (B.loc (x:="end_mark") rfl rfl).1 (dO F B rfl hS ⟨_,rfl⟩ ⟨_,.cM 8 rfl rfl,?_⟩));refine aA rfl (bV (iL (F.c 17 rfl) rfl rfl rfl (cR (F.gl 20 rfl) (B.glob rfl) rfl ⟨rfl,?_⟩)));refine aE B 7 rfl rfl rfl (aE B 1 rfl rfl rfl (aE B 8 rfl rfl rfl ⟨rfl,?_⟩));exact H ka ko qP
theorem BP(F:aP g):Sp g ρ 5 762 [] (fun U=>V.none) pN:=by
 intro z ka ko Q X ok H;refine cK (F.d 34 rfl) [] rfl rfl (by kernel_rfl) fun C' B=>?_;have hS:aF C' "self":=B.loc rfl rfl;have H:=aX H;refine aA rfl (hM (qH F) (F.mn 11 rfl) B rfl hS ⟨_,rfl⟩ rfl (B.int rfl) (fun U=>rfl) (.mk z ka ko rfl rfl ok (R.mono H (fun a z H ka ko ok=>?_) fun U U x=>x)) rfl);refine aA rfl (aZ F hS rfl (cC (oP _ z ka ko _ rfl rfl rfl ?_)));have H:=aX H;refine aA rfl (iE F hS (B.int rfl) ⟨_,rfl⟩ rfl rfl (iN (IG F) (F.mn 46 rfl) B rfl hS ⟨_,rfl⟩ rfl (.mk ({z with allow:=false}) ka ko rfl rfl (ok.same rfl rfl rfl) (R.mono H (fun t z H ka ko ok=>?_) fun U U x=>x))))
 have H:=hH H;exact(.mk z ka ko rfl H.1 (aC (H.2 ka ko (ok.same rfl rfl rfl))))
end
noncomputable abbrev lv(cs:List (List Nat)):V:=.lst (cs.map sv)
section
variable{D:Nat}
theorem Vc{α:Type}{k:R α}{Q:α->Z->Prop}(H:(xY z k).wp Q X):¬z.rem.take 3=[45,45,45]/\¬z.rem.take 3=[46,46,46]/\k.wp Q X:=by
 unfold xY at H
 by_cases h1:z.rem.take 3=[45,45,45]
 ·rw[if_pos h1] at H;exact H.elim
 by_cases h2:z.rem.take 3=[46,46,46]
 ·rw[if_neg h1,if_pos h2] at H;exact H.elim
 rw[if_neg h1,if_neg h2] at H;exact(fH h1 h2 H)
inductive OO(dbl:Bool)(z:Z)(c:Nat):Prop
 |dq(hd:dbl=true)(hc:c=34)
 |sq(hd:dbl=false)(hc:c=39)(d:Nat)(h1:z.rem[1]?=some d)(h2:d≠39)
 |nl(hd:dbl=false)(hc:c=10)
section
variable{C':Cx}{X:eZ}{dbl:Bool}{z1:Z}{c:Nat}{l2 l3 l4 l6 l7:LV}{Q:nX}
noncomputable def HP(dbl:Bool)(c:Nat)(l2 l3 l4 l6 l7:LV):aM:=[gN,("double",.val (.bool dbl)),("start_mark",l2),("chunks",l3),("length",l4),("ch",.val (sv [c])),("k",l6),("code",l7)]
noncomputable def g8:List Stmt:=tM (aU 34 64).body 1 0
noncomputable def NK(i:Nat):Stmt:=(g8.drop 4).getD i (.Pass default)
theorem UA(F:aP g)(B:Bd C' (aU 34 64))(hS:aF C' "self")(ok:Ok z1)(hx:OO dbl z1 c)(h:Q false (HP dbl c l2 l3 l4 l6 l7) (some (z1.sc ka ko))):BW g 2 C' ρ X (vI (NK 0)) (HP dbl c l2 l3 l4 l6 l7) (some (z1.sc ka ko)) Q:=by
 refine cV (gJ (bZ (fun U=>rfl) (aE B 1 rfl rfl rfl ?_)));induction hx with
 |dq hd hc=>subst hd;exact⟨fun U=>h,fun h=>(by cases h)⟩
 |sq hd hc d h1 h2=>
  subst hd hc;refine⟨fun h=>(by cases h),fun U=>cV (aL rfl (aE B 5 rfl rfl rfl (aB (dZ 39 rfl ⟨fun h=>(by cases h),fun U=>?_⟩))))⟩;exact eP (aL rfl (eS F B rfl hS ⟨_,rfl⟩ rfl (aQ (.mk 1 d z1 ka ko rfl rfl ok h1 (aB (dZ 39 rfl (by rw[u0 h2];exact h)))))))
 |nl hd hc=>
  subst hd hc;exact⟨fun h=>(by cases h),fun U=>cV (aL rfl (aE B 5 rfl rfl rfl (aB (dZ 39 rfl ⟨fun U=>h,fun h=>(by cases h)⟩))))⟩
theorem UB(B:Bd C' (aU 34 64))(hx:OO dbl z1 c)(h:Q false (HP dbl c l2 l3 l4 l6 l7) σ):BW g 2 C' ρ X (vI (vN (k1 (NK 0)))) (HP dbl c l2 l3 l4 l6 l7) σ Q:=by
 refine gS (cV (bZ (fun U=>rfl) (aE B 1 rfl rfl rfl ?_)));have sg:dbl=false->isIn [34,92] c=false->Bq g 2 C' ρ X (.BoolOp .Or ((LP (vI (vN (k1 (NK 0))))).drop 1) (vI (vN (k1 (NK 0)))).pos) Q false (HP dbl c l2 l3 l4 l6 l7) σ:=fun hd hc=>by
  subst hd;exact .p2 (iS (cV (gJ (bZ (fun U=>rfl) (aE B 1 rfl rfl rfl ⟨fun h=>(by cases h),fun U=>eP (aL rfl (aE B 5 rfl rfl rfl (aB (fJ [34,92] rfl (by rw[hc];exact h)))))⟩)))))
 induction hx with
 |dq hd hc=>
  subst hd hc;refine⟨fun h=>(by cases h),fun U=>eP (aL rfl (aE B 5 rfl rfl rfl (aB (dZ 39 rfl ⟨fun h=>(by cases h),fun U=>?_⟩))))⟩;exact iS (cV (gJ (bZ (fun U=>rfl) (aE B 1 rfl rfl rfl ⟨fun U=>h,fun h=>(by cases h)⟩))))
 |sq hd hc d h1 h2=>subst hc;have:=sg hd rfl;subst hd;exact⟨fun U=>this,fun h=>(by cases h)⟩
 |nl hd hc=>subst hc;have:=sg hd rfl;subst hd;exact⟨fun U=>this,fun h=>(by cases h)⟩
theorem UC(B:Bd C' (aU 34 64))(hx:OO dbl z1 c)(h:Q false (HP dbl c l2 l3 l4 l6 l7) σ):BW g 2 C' ρ X (vI (vN (k1 (vN (k1 (NK 0)))))) (HP dbl c l2 l3 l4 l6 l7) σ Q:=by
 refine cV (bZ (fun U=>rfl) (aE B 1 rfl rfl rfl ?_));induction hx with
 |dq hd hc=>subst hd hc;exact⟨fun h=>(by cases h),fun U=>eP (aL rfl (aE B 5 rfl rfl rfl (aB (dZ 92 rfl h))))⟩
 |sq hd hc d h1 h2=>subst hd;exact⟨fun U=>h,fun h=>(by cases h)⟩
 |nl hd hc=>subst hd;exact⟨fun U=>h,fun h=>(by cases h)⟩
end
theorem tF(F:aP g)(dbl:Bool)(sm:V):Sp g ρ 2 989 [.bool dbl,sm] lv (gA dbl):=by
 intro z ka ko Q X ok H;refine cK (F.d 42 rfl) ["chunks","length","ch","k","code"] rfl rfl (by kernel_rfl) fun C' B=>?_;have hS:aF C' "self":=B.loc rfl rfl;unfold gA at H;cases e:span (fun c=>!isIn [39,34,92,0,32,9,13,10,133,8232,8233] c) z.rem with
 |none=>rw[e] at H;exact H.elim
 |some n=>
 rw[e] at H;induction n with
 |zero=>exact H.elim
 |succ n=>
 have H:=aX H;refine aA rfl (cO (B.loc (x:="chunks") rfl rfl) rfl ⟨by decide,_,.tail (.tail (.tail .head)),?_⟩);refine aA rfl (iV rfl (fun U l s=>l=[gN,("double",.val (.bool dbl)),("start_mark",.val sm),("chunks",.ml []),("length",.un),("ch",.un),("k",.un),("code",.un)]/\s=some (z.sc ka ko)) 0 ⟨rfl,rfl⟩ ?_)
 rintro _ l s ⟨rfl,rfl⟩
 refine bZ (fun U=>rfl) (cC ⟨fun U=>?_,fun h=>by cases h⟩);refine Rz fun Q' nx=>?_;refine aA rfl (aD rfl (B.loc (x:="length") rfl rfl).1 (aQ ⟨_,.cM 4 rfl rfl,?_⟩));refine aA rfl (uU (p:=fun c=>!isIn [39,34,92,0,32,9,13,10,133,8232,8233] c) (fun v=>[gN,("double",.val (.bool dbl)),("start_mark",.val sm),("chunks",.ml []),("length",v),("ch",.un),("k",.un),("code",.un)]) (B.loc rfl rfl) (fun v=>(aN 4 rfl)) (fun v v'=>.cM 4 rfl rfl) (fun k c hc=>?_) e ?_)
 ·exact aL rfl (eS F B rfl hS ⟨_,rfl⟩ rfl (aE B 4 rfl rfl rfl (.mk k c z ka ko rfl rfl ok hc (aB (nC [39,34,92,0,32,9,13,10,133,8232,8233] rfl ⟨rfl,rfl,rfl⟩)))))
 refine aA rfl (aW rfl (bZ (fun U=>rfl) (aE B 4 rfl rfl rfl ⟨fun hb=>?_,fun hb=>?_⟩)))
 case refine_2=>have:=bne_eq_false_iff_eq.mp hb;exact absurd this (Int.natCast_ne_zero.mpr (Nat.succ_ne_zero _))
 refine aA rfl (cJ (B.int rfl) rfl (cF (B.loc rfl rfl) (aN 3 rfl) ⟨_,rfl⟩ rfl (fO F B rfl hS ⟨_,rfl⟩ rfl (aE B 4 rfl rfl rfl (.mk (n+1) z ka ko rfl rfl ok ⟨_,_,(aN 3 rfl),by decide,.cM 3 rfl rfl,rfl,?_⟩)))));refine aA rfl (oQ F B rfl hS ⟨_,rfl⟩ rfl (B.int rfl) (aE B 4 rfl rfl rfl (.mk (n+1) rfl rfl rfl H)) ok fun z1 ka ko tN H=>aC ?_);refine bQ (eJ H) fun c hc H=>?_;have key:OO dbl z1 c/\PQ lv Q [z.rem.take (n+1)] z1:=by
  cases dbl with
  |true=>
   rw[if_pos rfl] at H
   by_cases h:c=34
   ·rw[if_pos h] at H;exact⟨.dq rfl h,H⟩
   ·rw[if_neg h] at H;exact H.elim
  |false=>
   rw[if_neg (aR rfl)] at H
   by_cases h:c=39
   ·rw[if_pos h] at H;refine bQ (eJ H) fun d hd H=>?_
    by_cases h2:d=39
    ·rw[if_pos h2] at H;exact H.elim
    ·rw[if_neg h2] at H;exact⟨.sq rfl h d hd h2,H⟩
   ·rw[if_neg h] at H
    by_cases h:c=10
    ·rw[if_pos h] at H;exact⟨.nl rfl h,H⟩
    ·rw[if_neg h] at H;exact H.elim
 obtain⟨hx,hq⟩:=key;clear H;refine aA rfl (aD rfl (B.loc (x:="ch") rfl rfl).1 (dI F B rfl hS ⟨_,rfl⟩ tN hc ⟨_,.cM 5 rfl rfl,?_⟩));refine aA rfl (aW rfl (UA F B hS tN hx (.p2 (aA rfl (aW rfl (UB B hx (.p2 (aA rfl (aW rfl (UC B hx (.p2 ?_)))))))))));exact aA rfl (bV (jC (B.loc (x:="chunks") rfl rfl) (aN 3 rfl) (by exact .cM 3 rfl rfl) (nx _ _ _ (hq ka ko tN))))
theorem zL(F:aP g)(d sm:V):Sp g ρ 3 1003 [d,sm] lv rR:=by
 intro z ka ko Q X ok H;refine cK (F.d 52 rfl) ["chunks","prefix"] rfl rfl (by kernel_rfl) fun C' B=>?_;have hS:aF C' "self":=B.loc rfl rfl;unfold rR at H;refine lZ (Vc H) fun SR AE H=>?_;refine bQ (eJ H) fun c hc H=>?_
 by_cases h1:isIn [32,9] c=true
 ·rw[if_pos h1] at H;exact H.elim
 rw[if_neg h1] at H
 by_cases hb:isIn Dt c=true
 ·rw[if_pos hb] at H;exact H.elim
 rw[if_neg hb] at H;refine aA rfl (cO (B.loc (x:="chunks") rfl rfl) rfl ⟨by decide,_,.cM 3 rfl rfl,?_⟩);refine aA rfl (iV rfl (fun U l s=>l=[gN,("double",.val d),("start_mark",.val sm),("chunks",.ml []),("prefix",.un)]/\s=some (z.sc ka ko)) 0 ⟨rfl,rfl⟩ ?_)
 rintro _ l s ⟨rfl,rfl⟩
 refine bZ (fun U=>rfl) (cC ⟨fun U=>?_,fun h=>by cases h⟩);refine Rz fun Q' nx=>?_;refine aA rfl (aD rfl (B.loc (x:="prefix") rfl rfl).1 (fO F B rfl hS ⟨_,rfl⟩ rfl (aQ (.mk 3 z ka ko rfl rfl ok ⟨_,.cM 4 rfl rfl,?_⟩))));refine aA rfl (aW rfl (cV (gS (aL rfl (aE B 4 rfl rfl rfl (aB (rK [45,45,45] rfl ⟨fun hb=>absurd (r8 hb) SR,fun U=>?_⟩)))))));refine iS (aL rfl (aE B 4 rfl rfl rfl (aB (rK [46,46,46] rfl ⟨fun U=>⟨fun h=>(by cases h),fun U=>aC ?_⟩,fun hb=>absurd (r8 hb) AE⟩))));refine aA rfl (iV rfl (fun U l s=>l=[gN,("double",.val d),("start_mark",.val sm),("chunks",.ml []),("prefix",.val (sv (z.rem.take 3)))]/\s=some (z.sc ka ko)) 0 ⟨rfl,rfl⟩ ?_)
 rintro _ l s ⟨rfl,rfl⟩
 refine aL rfl (dI F B rfl hS ⟨_,rfl⟩ ok hc (aB (fJ [32,9] rfl ⟨fun hb=>absurd hb h1,fun U=>?_⟩)));refine aA rfl (aW rfl (aL rfl (dI F B rfl hS ⟨_,rfl⟩ ok hc (aB (fJ Dt rfl ⟨fun h=>absurd h hb,fun U=>?_⟩)))));exact aA rfl (bV (jC (ws:=[]) (B.loc (x:="chunks") rfl rfl) (aN 3 rfl) (by exact .cM 3 rfl rfl) (nx _ _ _ (H ka ko ok))))
theorem zN(F:aP g)(d sm:V):Sp g ρ 4 996 [d,sm] lv mL:=by
 intro z ka ko Q X ok H;refine cK (F.d 51 rfl) ["chunks","length","whitespaces","ch","line_break","breaks"] rfl rfl (by kernel_rfl) fun C' B=>?_;have hS:aF C' "self":=B.loc rfl rfl;unfold mL at H;refine bQ (eJ H) fun c hc H=>?_
 by_cases Uc:c=10
 case neg=>rw[if_neg Uc] at H;exact H.elim
 rw[if_pos Uc] at H;subst Uc;have H:=aX H;refine aA rfl (cO (B.loc (x:="chunks") rfl rfl) rfl ⟨by decide,_,.cM 3 rfl rfl,?_⟩);refine aA rfl (aD rfl (B.loc (x:="length") rfl rfl).1 (aQ ⟨_,.cM 4 rfl rfl,?_⟩));refine aA rfl (iV rfl (fun U l s=>l=[gN,("double",.val d),("start_mark",.val sm),("chunks",.ml []),("length",.val (.int 0)),("whitespaces",.un),("ch",.un),("line_break",.un),("breaks",.un)]/\s=some (z.sc ka ko)) 0 ⟨rfl,rfl⟩ ?_)
 rintro _ l s ⟨rfl,rfl⟩
 refine aL rfl (eS F B rfl hS ⟨_,rfl⟩ rfl (aE B 4 rfl rfl rfl (.mk 0 10 z ka ko rfl rfl ok hc (aB (fJ [32,9] rfl ⟨fun h=>(by cases h),fun U=>?_⟩)))));refine aA rfl (aD rfl (B.loc (x:="whitespaces") rfl rfl).1 (fO F B rfl hS ⟨_,rfl⟩ rfl (aE B 4 rfl rfl rfl (.mk 0 z ka ko rfl rfl ok ⟨_,.cM 5 rfl rfl,?_⟩))));refine aA rfl (oQ (P:=fun z'=>z'=z) (Xw:=fun U U=>True) F B rfl hS ⟨_,rfl⟩ rfl (B.int rfl) (aE B 4 rfl rfl rfl (.mk 0 rfl rfl rfl rfl)) ok fun z1 ka ko tN ez=>?_);subst ez;refine aA rfl (aD rfl (B.loc (x:="ch") rfl rfl).1 (dI F B rfl hS ⟨_,rfl⟩ tN hc ⟨_,.cM 6 rfl rfl,?_⟩));refine aA rfl (aW rfl (aL rfl (aE B 6 rfl rfl rfl (aB (dZ 0 rfl ⟨fun hb=>(by cases hb),fun U=>?_⟩)))));refine aA rfl (aW rfl (aL rfl (aE B 6 rfl rfl rfl (aB (fJ Dt rfl ⟨fun hb=>?_,fun hb=>(by cases hb)⟩)))));refine aA rfl (aD rfl (B.loc (x:="line_break") rfl rfl).1 (iN (oZ F) (F.mn 44 rfl) B rfl hS ⟨_,rfl⟩ rfl (.mk z1 ka ko rfl rfl tN (R.mono H (fun lb z2 H ka ko qP=>⟨_,.cM 7 rfl rfl,?_⟩) fun U U x=>x))))
 by_cases SP:lb=[10]
 case neg=>rw[if_neg SP] at H;exact H.elim
 rw[if_pos SP] at H;subst SP;have H:=aX H;refine aA rfl (aD rfl (B.loc (x:="breaks") rfl rfl).1 (iN (zL F d sm) (F.mn 49 rfl) B rfl hS ⟨_,rfl⟩ rfl (aE B 1 rfl rfl rfl (aE B 2 rfl rfl rfl (.mk z2 ka ko rfl rfl qP (R.mono H (fun bs z3 H ka ko Pa=>⟨_,.cM 8 rfl rfl,?_⟩) fun U U x=>x))))))
 by_cases SA:bs=[]
 case neg=>rw[if_neg SA] at H;exact H.elim
 rw[if_pos SA] at H;subst SA;refine aA rfl (aW rfl (aL rfl (aE B 7 rfl rfl rfl (aB (Iq [10] rfl ⟨fun hb=>absurd rfl (r8 hb),fun U=>?_⟩)))));refine aA rfl (aW rfl (gJ (bZ (fun U=>rfl) (aE B 8 rfl rfl rfl ⟨by decide,fun U=>?_,fun h=>(by cases h)⟩))));refine aA rfl (cJ (B.int rfl) rfl (cF (B.loc rfl rfl) (aN 3 rfl) ⟨_,rfl⟩ rfl (aB ⟨_,_,(aN 3 rfl),by decide,.cM 3 rfl rfl,rfl,aC (aC ?_)⟩)));refine aA rfl (cJ (B.int rfl) rfl (jO (B.loc rfl rfl) (aN 3 rfl) ⟨_,rfl⟩ rfl (aE B 8 rfl rfl rfl ⟨_,_,_,rfl,(aN 3 rfl),by decide,.cM 3 rfl rfl,rfl,aC (aC ?_)⟩)));exact aA rfl (bV (jC (ws:=[sv [32]]) (B.loc (x:="chunks") rfl rfl) (aN 3 rfl) (by exact .cM 3 rfl rfl) (H ka ko Pa)))
def QL(style q:Nat)(sm:V)(K:List (List Nat)->Z->Prop)(Xw:V->V->Prop)(m:Nat)(l:aM)(s:bX):Prop:=∀Ω:Prop,(∀(z2:Z) (ka:Addr) (ko:Obj) (cs:List (List Nat)) (el:l=[gN,("style",.val (sv [style])),("double",.val (.bool (style==34))),("chunks",.ml (cs.map sv)),("start_mark",.val sm),("quote",.val (sv [q])),("end_mark",.un)]) (es:s=some (z2.sc ka ko)) (ok:Ok z2) (IZ:cs.length<=1000) (H:(gL (style==34) q m cs z2).wp K Xw),Ω)->Ω
theorem QL.mk{style q:Nat}{sm:V}{K:List (List Nat)->Z->Prop}{m:Nat}{l:aM}{s:bX}(z2:Z)(ka:Addr)(ko:Obj)(cs:List (List Nat))(el:l=[gN,("style",.val (sv [style])),("double",.val (.bool (style==34))),("chunks",.ml (cs.map sv)),("start_mark",.val sm),("quote",.val (sv [q])),("end_mark",.un)])(es:s=some (z2.sc ka ko))(ok:Ok z2)(IZ:cs.length<=1000)(H:(gL (style==34) q m cs z2).wp K Xw):QL style q sm K Xw m l s:=fun U φ=>φ z2 ka ko cs el es ok IZ H
theorem zM(F:aP g)(style:Nat):Sp g ρ 5 979 [sv [style]] id (eD style):=by
 intro z ka ko Q X ok H;refine cK (F.d 41 rfl) ["double","chunks","start_mark","quote","end_mark"] rfl rfl (by kernel_rfl) fun C' B=>?_;have hS:aF C' "self":=B.loc rfl rfl;unfold eD at H;refine bQ (eJ H) fun q hq H=>?_;have H:=aX H;have go:∀dbl,dbl=(style==34)->SW g 5 C' ρ (fun x U s=>X x s) ((aU 34 61).body.drop 1) [gN,("style",.val (sv [style])),("double",.val (.bool dbl)),("chunks",.un),("start_mark",.un),("quote",.un),("end_mark",.un)] (some (z.sc ka ko)) (iU Q):=by
  rintro dbl rfl
  refine aA rfl (cO (B.loc (x:="chunks") rfl rfl) rfl ⟨by decide,_,.cM 3 rfl rfl,?_⟩);refine aA rfl (aD rfl (B.loc (x:="start_mark") rfl rfl).1 (dO F B rfl hS ⟨_,rfl⟩ ⟨_,.cM 4 rfl rfl,?_⟩));refine aA rfl (aD rfl (B.loc (x:="quote") rfl rfl).1 (dI F B rfl hS ⟨_,rfl⟩ ok hq ⟨_,.cM 5 rfl rfl,?_⟩));refine aA rfl (gU F B rfl hS ⟨_,rfl⟩ ok H (fun z1 ka ko tN H=>?_) (B.int rfl));have H:=aX H;refine aA rfl (cJ (B.int rfl) rfl (jO (B.loc rfl rfl) (aN 3 rfl) ⟨_,rfl⟩ rfl (iN (tF F (style==34) z.mark) (F.mn 41 rfl) B rfl hS ⟨_,rfl⟩ rfl (aE B 2 rfl rfl rfl (aE B 4 rfl rfl rfl (.mk z1 ka ko rfl rfl tN (R.mono H (fun a z2 H ka ko qP=>?_) fun U U x=>x)))))))
  by_cases ha:a.length<=1000
  case neg=>rw[if_neg ha] at H;exact H.elim
  rw[if_pos ha] at H;have H:=aX H;refine⟨_,[],_,rfl,(aN 3 rfl),by rw[t7];unfold sizeLine;simp;exact q5 ha (aR rfl),.cM 3 rfl rfl,rfl,?_⟩;refine aA rfl (iV rfl (QL style q z.mark (fun cs z3=>((bO z3).bind fun U z4=>if cs.flatten.length+cs.length<=1000000 then R.ok (yP (sv cs.flatten) false z.mark z4.mark (sv [style])) z4 else .wall).wp (PQ id Q) (PX X)) (PX X)) 3 (.mk z2 ka ko a rfl rfl qP ha H) ?_)
  rintro m l s q_
  refine q_ _ ?_;clear q_
  rintro z2 ka ko cs rfl rfl qP IZ H
  induction m with
  |zero=>exact H.elim
  |succ m=>
  rw[Tr] at H;refine bQ (eJ H) fun c hc H=>?_;refine aL rfl (dI F B rfl hS ⟨_,rfl⟩ qP hc (aE B 5 rfl rfl rfl (Ca q rfl ⟨fun hb=>?_,fun hb=>?_⟩)))
  ·have hb:¬c=q:=r8 hb;rw[if_neg hb] at H;have H:=aX H;refine aA rfl (cJ (B.int rfl) rfl (jO (B.loc rfl rfl) (aN 3 rfl) ⟨_,rfl⟩ rfl (iN (zN F (.bool (style==34)) z.mark) (F.mn 48 rfl) B rfl hS ⟨_,rfl⟩ rfl (aE B 2 rfl rfl rfl (aE B 4 rfl rfl rfl (.mk z2 ka ko rfl rfl qP (R.mono H (fun a z3 H ka ko Pa=>?_) fun U U x=>x)))))))
   by_cases ha:(cs++a).length<=1000
   case neg=>rw[if_neg ha] at H;exact H.elim
   rw[if_pos ha] at H;have H:=aX H;refine⟨_,_,_,rfl,(aN 3 rfl),by rw[t7,t7];rw[q6] at ha;unfold sizeLine;exact q5 ha (aR rfl),.cM 3 rfl rfl,rfl,?_⟩;refine aA rfl (cJ (B.int rfl) rfl (jO (B.loc rfl rfl) (aN 3 rfl) ⟨_,rfl⟩ rfl (iN (tF F (style==34) z.mark) (F.mn 41 rfl) B rfl hS ⟨_,rfl⟩ rfl (aE B 2 rfl rfl rfl (aE B 4 rfl rfl rfl (.mk z3 ka ko rfl rfl Pa (R.mono H (fun b z4 H ka ko NM=>?_) fun U U x=>x)))))))
   by_cases hb:(cs++a++b).length<=1000
   case neg=>rw[if_neg hb] at H;exact H.elim
   rw[if_pos hb] at H;refine⟨_,_,_,rfl,(aN 3 rfl),by rw[←u6,t7,t7];rw[q6] at hb;unfold sizeLine;exact q5 hb (aR rfl),.cM 3 rfl rfl,rfl,aC ?_⟩;refine⟨m,x9 _,.mk z4 ka ko (cs++a++b) ?_ rfl NM hb H⟩;rw[u6,u6];rfl
  ·have hb:c=q:=by simpa using hb
   rw[if_pos hb] at H;have H:=aX H;refine aA rfl (gU F B rfl hS ⟨_,rfl⟩ qP H (fun z4 ka ko NM H=>?_) (B.int rfl))
   by_cases iX:cs.flatten.length+cs.length<=1000000
   case neg=>rw[if_neg iX] at H;exact H.elim
   rw[if_pos iX] at H;refine aA rfl (aD rfl (B.loc (x:="end_mark") rfl rfl).1 (dO F B rfl hS ⟨_,rfl⟩ ⟨_,.cM 6 rfl rfl,?_⟩));refine aA rfl (bV (iL (F.c 15 rfl) rfl rfl rfl (cR (F.gl 16 rfl) (B.glob rfl) rfl ⟨rfl,?_⟩)));refine wG (B.loc rfl rfl) (aN 3 rfl) iX ⟨_,rfl⟩ rfl (cC (aE B 4 rfl rfl rfl (aE B 6 rfl rfl rfl (aE B 1 rfl rfl rfl ⟨rfl,?_⟩))));exact H ka ko NM
 refine aA rfl (aW rfl (aL rfl (aE B 1 rfl rfl rfl (aB (dZ 34 rfl ⟨fun hb=>?_,fun hb=>?_⟩)))))
 ·refine aA rfl (aD rfl (B.loc (x:="double") rfl rfl).1 (cC ⟨_,.cM 2 rfl rfl,aC (go true ?_)⟩));have:=r8 hb;simp[this]
 ·refine aA rfl (aD rfl (B.loc (x:="double") rfl rfl).1 (cC ⟨_,.cM 2 rfl rfl,aC (go false ?_)⟩));have:=of_decide_eq_false hb;simp[this]
theorem qU(F:aP g){style:Nat}{Q:mF}{X:nA}(ok:Ok z)(H:(cD style z).wp (PQ (fun U=>V.none) Q) (PX X)):Rf g 6 ρ X 804 [.self] [("style",sv [style])] (some (z.sc ka ko)) Q:=by
 refine Rg F.lM [] rfl rfl (by kernel_rfl) fun C' B=>?_;have hS:aF C' "self":=B.loc rfl rfl;have H:=aX H;refine aA rfl (hM (qH F) (F.mn 11 rfl) B rfl hS ⟨_,rfl⟩ rfl (B.int rfl) (fun U=>rfl) (.mk z ka ko rfl rfl ok (R.mono H (fun a z H ka ko ok=>?_) fun U U x=>x)) rfl);refine aA rfl (aZ F hS rfl (cC (oP _ z ka ko _ rfl rfl rfl ?_)));have H:=aX H;refine aA rfl (iE F hS (B.int rfl) ⟨_,rfl⟩ rfl rfl (iN (zM F style) (F.mn 40 rfl) B rfl hS ⟨_,rfl⟩ rfl (aE B 1 rfl rfl rfl (.mk ({z with allow:=false}) ka ko rfl rfl (ok.same rfl rfl rfl) (R.mono H (fun t z H ka ko ok=>?_) fun U U x=>x)))))
 have H:=hH H;exact(.mk z ka ko rfl H.1 (aC (H.2 ka ko (ok.same rfl rfl rfl))))
theorem Pq(F:aP g):Sp g ρ 7 790 [] (fun U=>V.none) (cD 39):=by
 intro z ka ko Q X ok H;refine cK (F.d 30 rfl) [] rfl rfl (by kernel_rfl) fun C' B=>?_;have hS:aF C' "self":=B.loc rfl rfl;refine aA rfl (cJ (B.int rfl) rfl (sA (D':=6) B.hh (F.m 29 rfl) (by decide+kernel) (aR rfl) ⟨_,rfl⟩ (bY hS (.head _) (fH rfl rfl (aB ?_)))));exact qU F (style:=39) ok (R.mono H (fun a z H ka ko ok=>⟨rfl,aC (H ka ko ok)⟩) fun U U x=>x)
theorem Pm(F:aP g):Sp g ρ 7 797 [] (fun U=>V.none) (cD 34):=by
 intro z ka ko Q X ok H;refine cK (F.d 48 rfl) [] rfl rfl (by kernel_rfl) fun C' B=>?_;have hS:aF C' "self":=B.loc rfl rfl;refine aA rfl (cJ (B.int rfl) rfl (sA (D':=6) B.hh (F.m 29 rfl) (by decide+kernel) (aR rfl) ⟨_,rfl⟩ (bY hS (.head _) (fH rfl rfl (aB ?_)))));exact qU F (style:=34) ok (R.mono H (fun a z H ka ko ok=>⟨rfl,aC (H ka ko ok)⟩) fun U U x=>x)
end
theorem Mh{p:Nat->Bool}:∀{l:List Nat} {n:Nat},span p l=some n->n<l.length
 |[],_,h=>nomatch h
 |c::r,n,h=>by
  rw[nV] at h
  by_cases hp:p c=true
  ·rw[if_pos hp] at h;cases e:span p r with
   |none=>rw[e] at h;cases h
   |some m=>rw[e] at h;cases h;exact Nat.succ_lt_succ (Mh e)
  ·rw[if_neg hp] at h;cases h;exact Nat.succ_pos _
theorem Ok.len(ok:Ok z):z.rem.length<=100000:=jM ok.ex fun n a b e=>q5 (q5 (Nat.le_add_left _ n) (r9 e)) ok.sz
section
variable{D:Nat}
noncomputable def NU(d sm ch len ws c lb pf br:LV):aM:=[gN,("indent",d),("start_mark",sm),("chunks",ch),("length",len),("whitespaces",ws),("ch",c),("line_break",lb),("prefix",pf),("breaks",br)]
noncomputable def UK:List Stmt:=tM (aU 34 68).body 6 0
def QZ(L:aM)(K:Unit->Z->Prop)(Xw:V->V->Prop)(m:Nat)(l:aM)(s:bX):Prop:=∀Ω:Prop,(∀(z3:Z) (ka:Addr) (ko:Obj) (el:l=L) (es:s=some (z3.sc ka ko)) (ok:Ok z3) (H:(eY m z3).wp K Xw),Ω)->Ω
theorem QZ.mk{L:aM}{K:Unit->Z->Prop}{m:Nat}{l:aM}{s:bX}(z3:Z)(ka:Addr)(ko:Obj)(el:l=L)(es:s=some (z3.sc ka ko))(ok:Ok z3)(H:(eY m z3).wp K Xw):QZ L K Xw m l s:=fun U φ=>φ z3 ka ko el es ok H
theorem HF{c:Nat}(h:c≠32):isIn [32,13,10,133,8232,8233] c=isIn Dt c:=by
 show List.contains (32::Dt) c=List.contains Dt c;rw[List.contains_cons,beq_eq_false_iff_ne.mpr h,Bool.false_or]
section
variable{C':Cx}{X:nA}{Q:mF}{d sm len ws c pf:LV}{lb:List Nat}
theorem IC(B:Bd C' (aU 34 68))(ok:Ok z)(H:PQ lv Q (if lb≠[10] then[lb] else[[32]]) z):
  SW g 3 C' ρ (fun x U s=>X x s) (UK.drop 6) (NU d sm (.ml []) len ws c (.val (sv lb)) pf (.ml [])) (some (z.sc ka ko)) (lQ g 3 C' ρ (fun x U s=>X x s) ((aU 34 68).body.drop 7) (iU Q)):=by
 have fin:∀cs:List (List Nat),cs.length<=1->PQ lv Q cs z->SW g 3 C' ρ (fun x U s=>X x s) (UK.drop 7) (NU d sm (.ml (cs.map sv)) len ws c (.val (sv lb)) pf (.ml [])) (some (z.sc ka ko)) (lQ g 3 C' ρ (fun x U s=>X x s) ((aU 34 68).body.drop 7) (iU Q)):=fun cs hl hq=>by
  refine aA rfl (cJ (B.int rfl) rfl (pE (ws:=cs.map sv) (us:=[]) (B.loc (x:="chunks") rfl rfl) (B.loc (x:="breaks") rfl rfl) (aN 3 rfl) (aN 9 rfl) ⟨_,rfl⟩ rfl (by rw[t7];unfold sizeLine;show cs.length+0<=_;exact q5 hl (by decide)) (by exact .cM 3 rfl rfl) ⟨rfl,aC ?_⟩));exact aA rfl (bV (jC (B.loc (x:="chunks") rfl rfl) (aN 3 rfl) (by exact .cM 3 rfl rfl) (by rw[w8];exact hq ka ko ok)))
 refine aA rfl (aW rfl (aL rfl (aE B 7 rfl rfl rfl (aB (Iq [10] rfl ⟨fun hb=>?_,fun hb=>?_⟩)))))
 ·rw[if_pos (r8 hb)] at H;exact aA rfl (cJ (B.int rfl) rfl (cF (B.loc (x:="chunks") rfl rfl) (aN 3 rfl) ⟨_,rfl⟩ rfl (aE B 7 rfl rfl rfl ⟨_,_,(aN 3 rfl),by decide,.cM 3 rfl rfl,rfl,aC (fin [lb] (w7 _) H)⟩)))
 ·rw[if_neg (of_decide_eq_false hb)] at H;refine aA rfl (aW rfl (gJ (Qv (B.loc (x:="breaks") rfl rfl) (aN 9 rfl) (by decide) ⟨fun U=>?_,fun h=>by cases h⟩)));exact aA rfl (cJ (B.int rfl) rfl (cF (B.loc (x:="chunks") rfl rfl) (aN 3 rfl) ⟨_,rfl⟩ rfl (aB ⟨_,_,(aN 3 rfl),by decide,.cM 3 rfl rfl,rfl,aC (aC (fin [[32]] (w7 _) H))⟩)))
theorem BD(F:aP g)(B:Bd C' (aU 34 68)){z2:Z}(qP:Ok z2){f:Nat}(H:(xY z2 ((eY f {z2 with allow:=true}).bind fun U z=>.ok (if lb≠[10] then[lb] else[[32]]) z)).wp (PQ lv Q) (PX X)):
  SW g 3 C' ρ (fun x U s=>X x s) (UK.drop 1) (NU d sm (.ml []) len ws c (.val (sv lb)) .un .un) (some (z2.sc ka ko)) (lQ g 3 C' ρ (fun x U s=>X x s) ((aU 34 68).body.drop 7) (iU Q)):=by
 have hS:aF C' "self":=B.loc rfl rfl;refine lZ (Vc H) fun SR AE H=>?_;have H:=aX H;refine aA rfl (aZ F hS rfl (cC (oP _ z2 ka ko _ rfl rfl rfl ?_)));have Pa:Ok {z2 with allow:=true}:=qP.same rfl rfl rfl
 refine aA rfl (aD rfl (B.loc (x:="prefix") rfl rfl).1 (fO F B rfl hS ⟨_,rfl⟩ rfl (aQ (.mk 3 ({z2 with allow:=true}) ka ko rfl rfl Pa ⟨_,.cM 8 rfl rfl,?_⟩))))
 refine aA rfl (aW rfl (cV (gS (aL rfl (aE B 8 rfl rfl rfl (aB (rK [45,45,45] rfl ⟨fun hb=>absurd (r8 hb) SR,fun U=>?_⟩)))))));refine iS (aL rfl (aE B 8 rfl rfl rfl (aB (rK [46,46,46] rfl ⟨fun hb=>?_,fun hb=>absurd (r8 hb) AE⟩))));refine⟨fun h=>(by cases h),fun U=>aC ?_⟩;refine aA rfl (cO (B.loc (x:="breaks") rfl rfl) rfl ⟨by decide,_,.cM 9 rfl rfl,?_⟩);refine aA rfl (iV rfl (QZ (NU d sm (.ml []) len ws c (.val (sv lb)) (.val (sv (z2.rem.take 3))) (.ml [])) _ _) f (.mk _ ka ko rfl rfl Pa H) ?_)
 rintro m l s q_
 refine q_ _ ?_;clear q_
 rintro z3 ka ko rfl rfl Pa H
 induction m with
 |zero=>exact H.elim
 |succ m=>
 rw[HQ] at H;refine bQ (eJ H) fun c3 IY H=>?_;refine aL rfl (dI F B rfl hS ⟨_,rfl⟩ Pa IY (aB (fJ [32,13,10,133,8232,8233] rfl ?_)))
 by_cases PB:c3=32
 ·rw[if_pos PB] at H;have H:=aX H;subst PB;refine⟨fun U=>?_,fun h=>by cases h⟩;refine aA rfl (aW rfl (aL rfl (dI F B rfl hS ⟨_,rfl⟩ Pa IY (aB (dZ 32 rfl ⟨fun U=>?_,fun hb=>(by cases hb)⟩)))));exact aA rfl (gU F B rfl hS ⟨_,rfl⟩ Pa H (fun z4 ka ko NM H=>aC (aC ⟨m,x9 m,.mk z4 ka ko rfl rfl NM H⟩)) (B.int rfl))
 ·rw[if_neg PB] at H;rw[HF PB];cases VP:isIn Dt c3 with
  |true=>rw[if_pos VP] at H;exact H.elim
  |false=>
   rw[if_neg (by rw[VP];decide)] at H;exact⟨fun h=>(by cases h),fun U=>IC B Pa H⟩
end
theorem yJ(F:aP g)(f:Nat)(d sm:V):Sp g ρ 3 1017 [d,sm] lv (bJ f):=by
 intro z ka ko Q X ok H;refine cK (F.d 44 rfl) ["chunks","length","whitespaces","ch","line_break","prefix","breaks"] rfl rfl (by kernel_rfl) fun C' B=>?_;have hS:aF C' "self":=B.loc rfl rfl;unfold bJ at H;cases e:span (· ==32) z.rem with
 |none=>rw[e] at H;exact H.elim
 |some n=>
 rw[e] at H;dsimp only at H;have H:=aX H;refine aA rfl (cO (B.loc (x:="chunks") rfl rfl) rfl ⟨by decide,_,.cM 3 rfl rfl,?_⟩);refine aA rfl (aD rfl (B.loc (x:="length") rfl rfl).1 (aQ ⟨_,.cM 4 rfl rfl,?_⟩));refine aA rfl (uU (p:=fun c=>c==32) (fun v=>NU (.val d) (.val sm) (.ml []) v .un .un .un .un .un) (B.loc rfl rfl) (fun v=>(aN 4 rfl)) (fun v v'=>.cM 4 rfl rfl) (fun k c hc=>?_) e ?_)
 ·refine aL rfl (eS F B rfl hS ⟨_,rfl⟩ rfl (aE B 4 rfl rfl rfl (.mk k c z ka ko rfl rfl ok hc (aB (fJ [32] rfl ⟨?_,rfl,rfl⟩)))));show(c==32||false)=(c==32);exact Bool.or_false _
 refine aA rfl (aD rfl (B.loc (x:="whitespaces") rfl rfl).1 (fO F B rfl hS ⟨_,rfl⟩ rfl (aE B 4 rfl rfl rfl (.mk n z ka ko rfl rfl ok ⟨_,.cM 5 rfl rfl,?_⟩))));refine aA rfl (oQ F B rfl hS ⟨_,rfl⟩ rfl (B.int rfl) (aE B 4 rfl rfl rfl (.mk n rfl rfl rfl H)) ok fun z1 ka ko tN H=>?_);refine bQ (eJ H) fun c hc H=>?_;refine aA rfl (aD rfl (B.loc (x:="ch") rfl rfl).1 (dI F B rfl hS ⟨_,rfl⟩ tN hc ⟨_,.cM 6 rfl rfl,?_⟩));refine aA rfl (aW rfl (aL rfl (aE B 6 rfl rfl rfl (aB (fJ Dt rfl ⟨fun hb=>?_,fun hb=>?_⟩)))))
 ·rw[if_pos hb] at H;have H:=aX H;exact aA rfl (aD rfl (B.loc (x:="line_break") rfl rfl).1 (iN (oZ F) (F.mn 44 rfl) B rfl hS ⟨_,rfl⟩ rfl (.mk z1 ka ko rfl rfl tN (R.mono H (fun lb z2 H ka ko qP=>⟨_,.cM 7 rfl rfl,BD F B qP H⟩) fun U U x=>x))))
 ·rw[if_neg (by rw[hb];decide)] at H;have oH:n<=z.rem.length:=Nat.le_of_lt (Mh e);have hl:(z.rem.take n).length=n:=by rw[List.length_take];exact Nat.min_eq_left oH
  refine aA rfl (aW rfl (bZ (fun U=>rfl) (aE B 5 rfl rfl rfl ⟨by rw[yK,hl];have:=ok.len;unfold sizeLine;lia,?_⟩)));rw[yK,hl];induction n with
  |zero=>exact⟨fun h=>(by cases h),fun U=>aC (aC (aA rfl (bV (jC (B.loc (x:="chunks") rfl rfl) (aN 3 rfl) (by exact .cM 3 rfl rfl) (H ka ko tN)))))⟩
  |succ n=>
   refine⟨fun U=>?_,fun h=>(by cases h)⟩;refine aA rfl (cJ (B.int rfl) rfl (cF (B.loc (x:="chunks") rfl rfl) (aN 3 rfl) ⟨_,rfl⟩ rfl (aE B 5 rfl rfl rfl ⟨_,_,(aN 3 rfl),by decide,.cM 3 rfl rfl,rfl,aC (aC ?_)⟩)));exact aA rfl (bV (jC (B.loc (x:="chunks") rfl rfl) (aN 3 rfl) (by exact .cM 3 rfl rfl) (H ka ko tN)))
end
noncomputable def rU(fl:Bool):List Nat:=lP++(if fl then[44,91,93,123,125] else[])
inductive IW(fl:Bool)(l:List Nat)(k:Nat):Nat->Nat->Prop
 |blank{c:Nat}(hb:isIn lP c=true):IW fl l k c 0
 |LA{d:Nat}(hd:l[k+1]?=some d)(h:isIn (rU fl) d=true):IW fl l k 58 0
 |FT{d m:Nat}(hd:l[k+1]?=some d)(h:isIn (rU fl) d=false)(e:cW fl (l.drop (k+1))=some m):IW fl l k 58 (m+1)
 |stop{c:Nat}(hb:isIn lP c=false)(GP:c≠58)(hf:(fl&&isIn [44,63,91,93,123,125] c)=true):IW fl l k c 0
 |go{c m:Nat}(hb:isIn lP c=false)(GP:c≠58)(hf:(fl&&isIn [44,63,91,93,123,125] c)=false)(e:cW fl (l.drop (k+1))=some m):IW fl l k c (m+1)
theorem Gf{o:Option Nat}{m:Nat}{P:Nat->Prop}(h:o.map (· +1)=some m)(k:∀n,o=some n->P (n+1)):P m:=by
 refine bQ (Option.map_eq_some_iff.mp h) fun n e r=>?_;exact r▸k n e
theorem vB{fl:Bool}{l:List Nat}{k m c:Nat}(hc:l[k]?=some c)(h:cW fl (l.drop k)=some m):IW fl l k c m:=by
 obtain⟨hk,ec⟩:=List.getElem?_eq_some_iff.mp hc;rw[List.drop_eq_getElem_cons hk,ec] at h;have hd:∀d r,l.drop (k+1)=d::r->l[k+1]?=some d:=fun d r e=>by
  have:=List.getElem?_drop (xs:=l) (i:=k+1) (j:=0);rw[e] at this;exact this.symm
 rw[Vp] at h;cases hb:isIn lP c with
 |true=>rw[if_pos hb] at h;exact Option.some.inj h▸ .blank hb
 |false=>
  rw[if_neg (by rw[hb];decide)] at h
  by_cases GP:c=58
  ·rw[if_pos GP] at h;subst GP;generalize er:l.drop (k+1)=r at h;induction r with
   |nil=>exact nomatch h
   |cons d r _=>
    have hd:=hd d r er;have h:(if isIn (rU fl) d=true then some 0 else(cW fl (d::r)).map (· +1))=some m:=h;cases e1:isIn (rU fl) d with
    |true=>rw[if_pos e1] at h;exact Option.some.inj h▸ .LA hd e1
    |false=>rw[if_neg (by rw[e1];decide)] at h;exact Gf h fun n e=>.FT hd e1 (er▸e)
  ·rw[if_neg GP] at h;cases hf:(fl&&isIn [44,63,91,93,123,125] c) with
   |true=>rw[if_pos hf] at h;exact Option.some.inj h▸ .stop hb GP hf
   |false=>rw[if_neg (by rw[hf];decide)] at h;exact Gf h fun n e=>.go hb GP hf e
theorem sX{fl:Bool}{l:List Nat}{k m:Nat}(h:cW fl (l.drop k)=some m):∃c,l[k]?=some c:=by
 cases e:l[k]? with
 |some c=>exact⟨c,rfl⟩
 |none=>rw[List.drop_eq_nil_iff.mpr (List.getElem?_eq_none_iff.mp e)] at h;exact nomatch h
section
variable{D:Nat}
noncomputable def Ap(ch sm em ind sp len c:LV):aM:=[gN,("chunks",ch),("start_mark",sm),("end_mark",em),("indent",ind),("spaces",sp),("length",len),("ch",c)]
noncomputable def Xc:List Stmt:=tM (aU 34 67).body 5 0
noncomputable def JL:Expr:=vI ((tM Xc 2 0).getD 1 (.Pass default))
theorem DE(F:aP g){C':Cx}{X:eZ}(B:Bd C' (aU 34 67)){fQ:Z}{k:Nat}{l1 l2 l3 l4 l5:LV}(ok:Ok fQ)(hd:fQ.rem[k+1]?=some d){Q:nX}
  (h:Bq g 4 C' ρ X (.BoolOp .Or [(LP JL).getD 2 (.Constant .none 0 default)] JL.pos) Q (isIn (rU (fQ.aH !=0)) d) (Ap l1 l2 l3 l4 l5 (.val (.int ((k:Nat):Int))) (.val (sv [58]))) (some (fQ.sc ka ko))):
  BW g 4 C' ρ X (.BoolOp .Or ((LP JL).drop 1) JL.pos) (Ap l1 l2 l3 l4 l5 (.val (.int ((k:Nat):Int))) (.val (sv [58]))) (some (fQ.sc ka ko)) Q:=by
 have hS:aF C' "self":=B.loc rfl rfl;refine gS (cV (aL rfl (aE B 7 rfl rfl rfl (aB (dZ 58 rfl ⟨fun hb=>absurd rfl (of_decide_eq_false hb),fun U=>?_⟩)))));refine eP (aL rfl (eS F B rfl hS ⟨_,rfl⟩ rfl (lG (aE B 6 rfl rfl rfl (aQ ⟨_,_,rfl,rfl,.mk (k+1) d fQ ka ko rfl rfl ok hd ?_⟩)))));refine Bi (aB (mB (bZ (fun U=>rfl) (bC F hS ?_))));refine⟨fun hb=>aB (.mk _ _ rfl rfl (by decide+kernel) (fJ (lP++[44,91,93,123,125]) rfl ?_)),fun hb=>aB (.mk _ _ rfl rfl (by decide+kernel) (fJ lP rfl ?_))⟩
 ·rw[show rU (fQ.aH !=0)=lP++[44,91,93,123,125] by rw[hb];rfl] at h;exact h
 ·rw[show rU (fQ.aH !=0)=lP by rw[hb];rfl] at h;exact h
theorem zO(F:aP g){C':Cx}{X:eZ}(B:Bd C' (aU 34 67)){fQ:Z}{k m c:Nat}{l1 l2 l3 l4 l5:LV}(ok:Ok fQ)(es:cW (fQ.aH !=0) (fQ.rem.drop k)=some m)(hc:fQ.rem[k]?=some c){Q:nX}
  (h:Q (m==0) (Ap l1 l2 l3 l4 l5 (.val (.int ((k:Nat):Int))) (.val (sv [c]))) (some (fQ.sc ka ko))):
  BW g 4 C' ρ X JL (Ap l1 l2 l3 l4 l5 (.val (.int ((k:Nat):Int))) (.val (sv [c]))) (some (fQ.sc ka ko)) Q:=by
 have hS:aF C' "self":=B.loc rfl rfl;have Wl:Q ((fQ.aH !=0)&&isIn [44,63,91,93,123,125] c) (Ap l1 l2 l3 l4 l5 (.val (.int ((k:Nat):Int))) (.val (sv [c]))) (some (fQ.sc ka ko))->
   BW g 4 C' ρ X ((LP JL).getD 2 (.Constant .none 0 default)) (Ap l1 l2 l3 l4 l5 (.val (.int ((k:Nat):Int))) (.val (sv [c]))) (some (fQ.sc ka ko)) Q:=by
  intro hq;refine cV (bZ (fun U=>rfl) (bC F hS ⟨fun hb=>?_,fun hb=>?_⟩))
  ·rw[hb,Bool.false_and] at hq;exact hq
  ·rw[hb,Bool.true_and] at hq;exact eP (aL rfl (aE B 7 rfl rfl rfl (aB (fJ [44,63,91,93,123,125] rfl hq))))
 have ZQ:=vB hc es;clear es hc;refine gS (aL rfl (aE B 7 rfl rfl rfl (aB (fJ lP rfl ?_))));induction ZQ with
 |blank h1=>rw[h1];exact Bq.p1 h
 |stop h1 h2 h4=>
  rw[h1];refine Bq.p2 (gS (cV (aL rfl (aE B 7 rfl rfl rfl (aB (dZ 58 rfl ⟨fun U=>Bq.p2 ?_,fun hb=>absurd (r8 hb) h2⟩))))));exact iS (Wl (by rw[h4];exact h))
 |go h1 h2 h4 _=>
  rw[h1];refine Bq.p2 (gS (cV (aL rfl (aE B 7 rfl rfl rfl (aB (dZ 58 rfl ⟨fun U=>Bq.p2 ?_,fun hb=>absurd (r8 hb) h2⟩))))));exact iS (Wl (by rw[h4];exact h))
 |LA hd h4=>exact Bq.p2 (DE F B ok hd (by rw[h4];exact Bq.p1 h))
 |FT hd h4 _=>exact Bq.p2 (DE F B ok hd (by rw[h4];exact Bq.p2 (iS (Wl (by cases(fQ.aH !=0)<;>exact h)))))
theorem Gk{fl:Bool}{l:List Nat}{k m:Nat}(h:cW fl (l.drop k)=some (m+1)):cW fl (l.drop (k+1))=some m:=by
 obtain⟨c,hc⟩:=sX h;cases vB hc h with
 |FT _ _ e=>exact e
 |go _ _ _ e=>exact e
inductive EY:List (List Nat)->LV->Prop
 |own:EY [] (.ml [])
 |got(sp:List (List Nat)):EY sp (.val (lv sp))
noncomputable def HU(f:Nat)(ind:Int)(n:Nat)(cs sp:List (List Nat))(em:V)(z:Z):R (List (List Nat)×V):=
 if sp.length<=1000 then(if sp=[] then .ok (cs,em) z else(peek 0 z).bind fun c z=>if c=35 then .ok (cs,em) z else if z.aH=0/\z.col<ind then .ok (cs,em) z else gV f ind n cs sp em z) else .wall
noncomputable def Vm(f:Nat)(ind:Int)(n k:Nat)(cs sp:List (List Nat))(z:Z):R (List (List Nat)×V):=
 if cs.length+sp.length<=1000 then(qC k {z with allow:=false}).bind fun U z1=>(bJ f z1).bind fun vQ z2=>HU f ind n (cs++sp++[z.rem.take k]) vQ z1.mark z2 else .wall
theorem UI{f:Nat}{ind:Int}{n:Nat}{cs sp:List (List Nat)}{em:V}:gV f ind (n+1) cs sp em z=(peek 0 z).bind fun c z=>if c=35 then .ok (cs,em) z else
  match cW (z.aH !=0) z.rem with
  |none=>.wall
  |some 0=>.ok (cs,em) z
  |some (k+1)=>Vm f ind n (k+1) cs sp z:=by
 rw[HT];refine congrArg (R.bind _) (funext fun c=>funext fun z=>?_)
 split
 ·rfl
 ·cases cW (z.aH !=0) z.rem with
  |none=>rfl
  |some k=>cases k<;>rfl
def OS(z:Z)(ka:Addr)(ko:Obj)(n:Nat)(l1 l2 l3 l4 l5:LV)(m:Nat)(l:aM)(s:bX):Prop:=∀Ω:Prop,(∀(k:Nat) (ch:LV) (hk:k+m=n) (el:l=Ap l1 l2 l3 l4 l5 (.val (.int ((k:Nat):Int))) ch) (es:s=some (z.sc ka ko)) (e:cW (z.aH !=0) (z.rem.drop k)=some m),Ω)->Ω
theorem OS.mk{n:Nat}{l1 l2 l3 l4 l5:LV}{m:Nat}{l:aM}{s:bX}(k:Nat)(ch:LV)(hk:k+m=n)(el:l=Ap l1 l2 l3 l4 l5 (.val (.int ((k:Nat):Int))) ch)(es:s=some (z.sc ka ko))(e:cW (z.aH !=0) (z.rem.drop k)=some m):OS z ka ko n l1 l2 l3 l4 l5 m l s:=fun U φ=>φ k ch hk el es e
section
variable{C':Cx}{X:nA}{Q:mF}{ind:Int}{sm em:V}{len ch Dx:LV}{f n:Nat}{cs sp:List (List Nat)}
def CE(Q:mF)(X:nA)(sm:V)(r:List (List Nat)×V)(z:Z):Prop:=(if r.1.flatten.length+r.1.length<=1000000 then R.ok (yP (sv r.1.flatten) true sm r.2 .none) z else .wall).wp (PQ id Q) (PX X)
def ET(f:Nat)(ind:Int)(sm:V)(Q:mF)(X:nA)(n:Nat)(l:aM)(s:bX):Prop:=∀Ω:Prop,(∀(z:Z) (ka:Addr) (ko:Obj) (cs sp:List (List Nat)) (em:V) (Dx len ch:LV) (hs:EY sp Dx) (el:l=Ap (.ml (cs.map sv)) (.val sm) (.val em) (.val (.int ind)) Dx len ch) (es:s=some (z.sc ka ko)) (ok:Ok z) (H:(gV f ind n cs sp em z).wp (CE Q X sm) (PX X)),Ω)->Ω
theorem ET.mk{f:Nat}{ind:Int}{sm:V}{Q:mF}{X:nA}{n:Nat}{l:aM}{s:bX}(z:Z)(ka:Addr)(ko:Obj)(cs sp:List (List Nat))(em:V)(Dx len ch:LV)(hs:EY sp Dx)(el:l=Ap (.ml (cs.map sv)) (.val sm) (.val em) (.val (.int ind)) Dx len ch)(es:s=some (z.sc ka ko))(ok:Ok z)(H:(gV f ind n cs sp em z).wp (CE Q X sm) (PX X)):ET f ind sm Q X n l s:=fun U φ=>φ z ka ko cs sp em Dx len ch hs el es ok H
theorem yD(F:aP g)(B:Bd C' (aU 34 67))(ok:Ok z){ind:LV}(H:CE Q X sm (cs,em) z):
  SW g 4 C' ρ (fun x U s=>X x s) ((aU 34 67).body.drop 6) (Ap (.ml (cs.map sv)) (.val sm) (.val em) ind Dx len ch) (some (z.sc ka ko)) (iU Q):=by
 unfold CE at H
 by_cases iX:cs.flatten.length+cs.length<=1000000
 case neg=>rw[if_neg iX] at H;exact H.elim
 rw[if_pos iX] at H;refine aA rfl (bV (iL (F.c 16 rfl) rfl rfl rfl (cR (F.gl 16 rfl) (B.glob rfl) rfl ⟨rfl,?_⟩)));exact wG (cs:=cs) (B.loc rfl rfl) (aN 1 rfl) iX ⟨_,rfl⟩ rfl (cC (aE B 2 rfl rfl rfl (aE B 3 rfl rfl rfl ⟨rfl,H ka ko ok⟩)))
theorem HW(F:aP g)(B:Bd C' (aU 34 67))(ok:Ok z)(H:(HU f ind n cs sp em z).wp (CE Q X sm) (PX X)):
  SW g 4 C' ρ (fun x U s=>X x s) (Xc.drop 10) (Ap (.ml (cs.map sv)) (.val sm) (.val em) (.val (.int ind)) (.val (lv sp)) len ch) (some (z.sc ka ko)) (Qe (ET f ind sm Q X) (n+1) (lQ g 4 C' ρ (fun x U s=>X x s) ((aU 34 67).body.drop 6) (iU Q))):=by
 have hS:aF C' "self":=B.loc rfl rfl;unfold HU at H
 by_cases hl:sp.length<=1000
 case neg=>rw[if_neg hl] at H;exact H.elim
 rw[if_pos hl] at H;refine aA rfl (aW rfl (gS (gJ (bZ (fun U=>rfl) (aE B 5 rfl rfl rfl ⟨by rw[t7];unfold sizeLine;exact q5 hl (aR rfl),?_⟩)))));cases sp with
 |nil=>exact⟨fun U=>yT.p1 (aA rfl (tV (yD F B ok H))),fun h=>absurd h (aR rfl)⟩
 |cons a r=>
 rw[if_neg (fun h=>nomatch h)] at H
 refine bQ (eJ H) fun c4 YT H=>?_;refine⟨fun h=>(by cases h),fun U=>?_⟩;refine gS (aL rfl (dI F B rfl hS ⟨_,rfl⟩ ok YT (aB (dZ 35 rfl ⟨fun hb=>?_,fun hb=>?_⟩))))
 ·rw[if_pos (r8 hb)] at H;exact yT.p1 (aA rfl (tV (yD F B ok H)))
 rw[if_neg (of_decide_eq_false hb)] at H;refine iS (cV (gJ (bZ (fun U=>rfl) (bC F hS ⟨fun hb=>?_,fun hb=>?_⟩))))
 ·have hf:¬z.aH=0:=by simpa using hb
  rw[if_neg (fun q=>hf q.1)] at H;exact(yT.p2 (aC (aC ⟨n,x9 n,.mk z ka ko _ _ _ _ _ _ (.got _) rfl rfl ok H⟩)))
 ·have hf:z.aH=0:=by simpa using hb
  refine eP (aL rfl (jB F hS (aE B 4 rfl rfl rfl ⟨fun hb=>?_,fun hb=>?_⟩)))
  ·rw[if_pos ⟨hf,r8 hb⟩] at H;exact aA rfl (tV (yD F B ok H))
  ·rw[if_neg (fun q=>of_decide_eq_false hb q.2)] at H;exact aC (aC ⟨n,x9 n,.mk z ka ko _ _ _ _ _ _ (.got _) rfl rfl ok H⟩)
theorem HX(B:Bd C' (aU 34 67)){l2 l3 l4:LV}{Q:eM}{X:eZ}(hs:EY sp Dx)(hl:cs.length+sp.length<=1000)(h:SW g 4 C' ρ X (Xc.drop 6) (Ap (.ml ((cs++sp).map sv)) l2 l3 l4 Dx len ch) σ Q):
  SW g 4 C' ρ X (Xc.drop 5) (Ap (.ml (cs.map sv)) l2 l3 l4 Dx len ch) σ Q:=by
 have hz:(cs.map sv).length+(sp.map sv).length<=sizeLine:=by rw[t7,t7];unfold sizeLine;exact q5 hl (aR rfl)
 rw[u6] at h;induction hs with
 |own=>exact aA rfl (cJ (B.int rfl) rfl (pE (ws:=cs.map sv) (us:=[]) (B.loc (x:="chunks") rfl rfl) (B.loc (x:="spaces") rfl rfl) (aN 1 rfl) (aN 5 rfl) ⟨_,rfl⟩ rfl hz (by exact .cM 1 rfl rfl) ⟨rfl,h⟩))
 |got sp=>exact aA rfl (cJ (B.int rfl) rfl (jO (B.loc (x:="chunks") rfl rfl) (aN 1 rfl) ⟨_,rfl⟩ rfl (aE B 5 rfl rfl rfl ⟨_,_,_,rfl,(aN 1 rfl),hz,.cM 1 rfl rfl,rfl,h⟩)))
theorem HY(F:aP g)(B:Bd C' (aU 34 67))(ok:Ok z)(hs:EY sp Dx){k:Nat}(H:(Vm f ind n (k+1) cs sp z).wp (CE Q X sm) (PX X)):
  SW g 4 C' ρ (fun x U s=>X x s) (Xc.drop 3) (Ap (.ml (cs.map sv)) (.val sm) (.val em) (.val (.int ind)) Dx (.val (.int ((k+1:Nat):Int))) ch) (some (z.sc ka ko)) (Qe (ET f ind sm Q X) (n+1) (lQ g 4 C' ρ (fun x U s=>X x s) ((aU 34 67).body.drop 6) (iU Q))):=by
 have hS:aF C' "self":=B.loc rfl rfl;have tN:Ok {z with allow:=false}:=ok.same rfl rfl rfl
 unfold Vm at H
 by_cases hl:cs.length+sp.length<=1000
 case neg=>rw[if_neg hl] at H;exact H.elim
 rw[if_pos hl] at H;have H:=aX H;refine aA rfl (aW rfl (aL rfl (aE B 6 rfl rfl rfl (aQ ⟨fun hb=>?_,fun U=>aC ?_⟩))))
 ·have:=beq_iff_eq.mp (show(((k+1:Nat):Int)==0)=true from hb);exact absurd this (Int.natCast_ne_zero.mpr (Nat.succ_ne_zero _))
 refine aA rfl (aZ F hS rfl (cC (oP _ z ka ko _ rfl rfl rfl ?_)));refine HX B hs hl ?_;refine aA rfl (cJ (B.int rfl) rfl (cF (B.loc (x:="chunks") rfl rfl) (aN 1 rfl) ⟨_,rfl⟩ rfl (fO F B rfl hS ⟨_,rfl⟩ rfl (aE B 6 rfl rfl rfl (.mk (k+1) ({z with allow:=false}) ka ko rfl rfl tN ⟨_,_,(aN 1 rfl),by rw[t7,q6];unfold sizeLine;exact q5 hl (aR rfl),.cM 1 rfl rfl,rfl,?_⟩)))))
 refine aA rfl (oQ F B rfl hS ⟨_,rfl⟩ rfl (B.int rfl) (aE B 6 rfl rfl rfl (.mk (k+1) rfl rfl rfl H)) tN fun z1 ka ko qP H=>?_);have H:=aX H;refine aA rfl (aD rfl (B.loc (x:="end_mark") rfl rfl).1 (dO F B rfl hS ⟨_,rfl⟩ ⟨_,.cM 3 rfl rfl,?_⟩));refine aA rfl (aD rfl (B.loc (x:="spaces") rfl rfl).1 (iN (yJ F f (.int ind) sm) (F.mn 43 rfl) B rfl hS ⟨_,rfl⟩ rfl (aE B 4 rfl rfl rfl (aE B 2 rfl rfl rfl (.mk z1 ka ko rfl rfl qP (R.mono H (fun vQ z2 H ka ko Pa=>⟨_,.cM 5 rfl rfl,?_⟩) fun U U x=>x))))));have e:(cs++sp).map sv++[sv (z.rem.take (k+1))]=(cs++sp++[z.rem.take (k+1)]).map sv:=by rw[u6 (l₂:=[_])];rfl
 show SW g 4 C' ρ _ _ (Ap (.ml ((cs++sp).map sv++[sv (z.rem.take (k+1))])) _ _ _ _ _ _) _ _;rw[e];exact HW F B Pa H
theorem BC(F:aP g)(B:Bd C' (aU 34 67))(ok:Ok z){l1 l2 l3 l4 l5:LV}{N k m:Nat}{J:Nat->aM->bX->Prop}{jj:Nat}{K:eM}(hk:k+m=N)(es:cW (z.aH !=0) (z.rem.drop k)=some m)
  (fin:∀ch,SW g 4 C' ρ (fun x U s=>X x s) (Xc.drop 3) (Ap l1 l2 l3 l4 l5 (.val (.int ((N:Nat):Int))) ch) (some (z.sc ka ko)) (Qe J jj K)):
  SW g 4 C' ρ (fun x U s=>X x s) (tM Xc 2 0) (Ap l1 l2 l3 l4 l5 (.val (.int (k:Int))) ch) (some (z.sc ka ko)) (Qe (OS z ka ko N l1 l2 l3 l4 l5) m (lQ g 4 C' ρ (fun x U s=>X x s) (Xc.drop 3) (Qe J jj K))):=by
 have hS:aF C' "self":=B.loc rfl rfl;obtain⟨c,hc⟩:=sX es;refine aA rfl (aD rfl (B.loc (x:="ch") rfl rfl).1 (eS F B rfl hS ⟨_,rfl⟩ rfl (aE B 6 rfl rfl rfl (.mk k c z ka ko rfl rfl ok hc ⟨_,.cM 7 rfl rfl,?_⟩))));induction m with
 |zero=>
  have hk:k=N:=hk;subst hk;exact aA rfl (aW rfl (zO F B ok es hc (yT.p1 (aA rfl (tV (fin _))))))
 |succ m=>
  refine aA rfl (aW rfl (zO F B ok es hc (yT.p2 (aC ?_))));exact aA rfl (iD (B.loc (x:="length") rfl rfl).1 (aN 6 rfl) (aQ ⟨1,rfl,_,.cM 6 rfl rfl,aC ⟨m,x9 m,.mk (k+1) _ (by rw[←hk];exact Nat.add_right_comm ..) rfl rfl (Gk es)⟩⟩))
theorem BB(F:aP g)(B:Bd C' (aU 34 67))(ok:Ok z)(hs:EY sp Dx)(H:(gV f ind (n+1) cs sp em z).wp (CE Q X sm) (PX X)):
  SW g 4 C' ρ (fun x U s=>X x s) Xc (Ap (.ml (cs.map sv)) (.val sm) (.val em) (.val (.int ind)) Dx len ch) (some (z.sc ka ko)) (Qe (ET f ind sm Q X) (n+1) (lQ g 4 C' ρ (fun x U s=>X x s) ((aU 34 67).body.drop 6) (iU Q))):=by
 have hS:aF C' "self":=B.loc rfl rfl;rw[UI] at H;refine bQ (eJ H) fun c hc H=>?_;refine aA rfl (aD rfl (B.loc (x:="length") rfl rfl).1 (aQ ⟨_,.cM 6 rfl rfl,?_⟩));refine aA rfl (aW rfl (aL rfl (dI F B rfl hS ⟨_,rfl⟩ ok hc (aB (dZ 35 rfl ⟨fun hb=>?_,fun hb=>?_⟩)))))
 ·rw[if_pos (r8 hb)] at H;exact aA rfl (tV (yD F B ok H))
 rw[if_neg (of_decide_eq_false hb)] at H;refine aC ?_;cases e:cW (z.aH !=0) z.rem with
 |none=>rw[e] at H;exact H.elim
 |some N=>
 rw[e] at H;have fin:∀RV,SW g 4 C' ρ (fun x U s=>X x s) (Xc.drop 3) (Ap (.ml (cs.map sv)) (.val sm) (.val em) (.val (.int ind)) Dx (.val (.int ((N:Nat):Int))) RV) (some (z.sc ka ko)) (Qe (ET f ind sm Q X) (n+1) (lQ g 4 C' ρ (fun x U s=>X x s) ((aU 34 67).body.drop 6) (iU Q))):=fun RV=>by
  cases N with
  |zero=>
   refine aA rfl (aW rfl (aL rfl (aE B 6 rfl rfl rfl (aQ ⟨fun U=>?_,fun hb=>(by cases hb)⟩))));exact aA rfl (tV (yD F B ok H))
  |succ k=>exact HY F B ok hs H
 refine aA rfl (iV rfl (OS z ka ko N (.ml (cs.map sv)) (.val sm) (.val em) (.val (.int ind)) Dx) N (.mk 0 _ (Nat.zero_add N) rfl rfl e) ?_)
 rintro m l s q_
 refine q_ _ ?_;clear q_
 rintro k RV hk rfl rfl es
 exact bZ (fun U=>rfl) (cC ⟨fun U=>BC F B ok hk es fin,fun h=>(by cases h)⟩)
end
theorem Wc(F:aP g)(f:Nat):Sp g ρ 4 1010 [] id (kP f):=by
 intro fQ ka ko Q X ok H;refine cK (F.d 43 rfl) ["chunks","start_mark","end_mark","indent","spaces","length","ch"] rfl rfl (by kernel_rfl) fun C' B=>?_;have hS:aF C' "self":=B.loc rfl rfl;unfold kP at H;have H:(gV f (fQ.indent+1) f [] [] fQ.mark fQ).wp (CE Q X fQ.mark) (PX X):=aX H;refine aA rfl (cO (B.loc (x:="chunks") rfl rfl) rfl ⟨by decide,_,.cM 1 rfl rfl,?_⟩);refine aA rfl (aD rfl (B.loc (x:="start_mark") rfl rfl).1 (dO F B rfl hS ⟨_,rfl⟩ ⟨_,.cM 2 rfl rfl,?_⟩));refine aA rfl (aD rfl (B.loc (x:="end_mark") rfl rfl).1 (aE B 2 rfl rfl rfl ⟨_,.cM 3 rfl rfl,?_⟩));refine aA rfl (aD rfl (B.loc (x:="indent") rfl rfl).1 (lG (kW F hS (aQ ⟨_,_,rfl,rfl,_,.cM 4 rfl rfl,?_⟩))));refine aA rfl (cO (B.loc (x:="spaces") rfl rfl) rfl ⟨by decide,_,.cM 5 rfl rfl,?_⟩);refine aA rfl (iV rfl (ET f (fQ.indent+1) fQ.mark Q X) f (.mk fQ ka ko ([]) ([]) _ _ _ _ .own rfl rfl ok H) ?_)
 rintro m l s q_
 refine q_ _ ?_;clear q_
 rintro z ka ko cs sp em Dx len ch hs rfl rfl ok H
 refine bZ (fun U=>rfl) (cC ⟨fun U=>?_,fun h=>(by cases h)⟩);induction m with
 |zero=>exact H.elim
 |succ m=>exact BB F B ok hs H
theorem Pn(F:aP g)(f:Nat):Sp g ρ 5 811 [] (fun U=>V.none) (eI f):=by
 intro z ka ko Q X ok H;refine cK (F.d 31 rfl) [] rfl rfl (by kernel_rfl) fun C' B=>?_;have hS:aF C' "self":=B.loc rfl rfl;have H:=aX H;refine aA rfl (hM (qH F) (F.mn 11 rfl) B rfl hS ⟨_,rfl⟩ rfl (B.int rfl) (fun U=>rfl) (.mk z ka ko rfl rfl ok (R.mono H (fun a z H ka ko ok=>?_) fun U U x=>x)) rfl);refine aA rfl (aZ F hS rfl (cC (oP _ z ka ko _ rfl rfl rfl ?_)));have H:=aX H;refine aA rfl (iE F hS (B.int rfl) ⟨_,rfl⟩ rfl rfl (iN (Wc F f) (F.mn 42 rfl) B rfl hS ⟨_,rfl⟩ rfl (.mk ({z with allow:=false}) ka ko rfl rfl (ok.same rfl rfl rfl) (R.mono H (fun t z H ka ko ok=>?_) fun U U x=>x))))
 have H:=hH H;exact(.mk z ka ko rfl H.1 (aC (H.2 ka ko (ok.same rfl rfl rfl))))
end
theorem GA{α:Type}{c:Nat}{f:Bool->Z->R α}{Q:α->Z->Prop}(H:((if c=45 then(peek 1 z).bind fun d z=>R.ok (isIn lP d) z else R.ok false z).bind f).wp Q X):
  ∃b,((c≠45/\b=false)\/(c=45/\∃d,z.rem[1]?=some d/\b=isIn lP d))/\(f b z).wp Q X:=by
 by_cases h:c=45
 ·rw[if_pos h] at H;refine bQ (eJ (aX H)) fun d hd H=>?_;exact(fG _ (.inr ⟨h,d,hd,rfl⟩) H)
 ·rw[if_neg h] at H;exact(fG false (.inl ⟨h,rfl⟩) H)
theorem So{Q:Bool->Z->Prop}(H:(kT z).wp Q X):∃b,Kh z b/\Q b z:=by
 unfold kT at H
 by_cases h:z.aH=0
 ·have H:=kX h H;refine bQ (eJ H) fun d hd H=>?_;exact(fG _ (.inr ⟨h,d,hd,rfl⟩) H)
 ·have H:=qS h H;exact(fG true (.inl ⟨h,rfl⟩) H)
theorem KR{α:Type}{c n:Nat}{f:Bool->Z->R α}{Q:α->Z->Prop}(H:((if c=n then kT z else R.ok false z).bind f).wp Q X):
  ∃b,((c≠n/\b=false)\/(c=n/\Kh z b))/\(f b z).wp Q X:=by
 by_cases h:c=n
 ·rw[if_pos h] at H;refine bQ (So (aX H)) fun b hb H=>?_;exact(fG b (.inr ⟨h,hb⟩) H)
 ·rw[if_neg h] at H;exact(fG false (.inl ⟨h,rfl⟩) H)
theorem HZ{α:Type}{c:Nat}{f:Bool->Z->R α}{Q:α->Z->Prop}(H:((mI c z).bind f).wp Q X):∃b,Dz z c b/\(f b z).wp Q X:=by
 have H:=aX H;unfold mI at H;cases h:isIn oJ c with
 |true=>
  have H:=kX h H;refine bQ (eJ H) fun d hd H=>?_
  by_cases hb:isIn lP d=true
  ·have H:=kX hb H;exact(fG _ (.inr ⟨h,rfl,d,hd,hb⟩) H)
  ·have H:=qS hb H;exact H.elim
 |false=>
  rw[if_neg (by rw[h];decide)] at H;exact(fG true (.inl ⟨h,rfl⟩) H)
section
variable{D:Nat}
section
variable{C:Cx}{AV p1 p2 p3 p4 p5:Pos}{k1:Nat}{c n fa:Nat}{name:Str}{r rest:List Stmt}{R1:R Unit}{m:Z->R Unit}{Q:mF}{X:nA}{e2:Expr}{ad:Nat}
noncomputable abbrev FO(c:Nat):aM:=[gN,("ch",.val (sv [c]))]
theorem mH(B:Bd C fd)(hS:aF C "self")(hx:aF C "ch")(ok:Ok z)(e:x.cps.toList=[n])(S:Sp g ρ d fa [] (fun U=>V.none) m)(M:Em g name fa)(hD:Nat.ble (d+1) 8=true)(he:dJ (.Name "self" np) name apos pos [] C.env)
  (H:(if c=n then m z else R1).wp (PQ (fun U=>V.none) Q) (PX X)) (h:R1.wp (PQ (fun U=>V.none) Q) (PX X)->c≠n->SW g 8 C ρ (fun x U s=>X x s) rest (FO c) (some (z.sc ka ko)) (iU Q)):
  SW g 8 C ρ (fun x U s=>X x s) (.If (.Compare (.Name "ch" p1) [.Eq] [.Constant (.str x) k1 p2] p3) [.Return (some (.Call (.Attribute (.Name "self" np) name apos) [] [] pos)) p4] [] p5::rest) (FO c) (some (z.sc ka ko)) (iU Q):=by
 refine bW (kI (aL rfl (bY hx (.tail _ (.head _)) (aB (dZ n e ⟨fun hb=>?_,fun hb=>?_⟩)))))
 ·have H:=kX (r8 hb) H;exact bW (bV (iN S M B hD hS he rfl (.mk z ka ko rfl rfl ok (R.mono H (fun a z H ka ko ok=>H ka ko ok) fun U U x=>x))))
 ·have H:=qS (of_decide_eq_false hb) H;exact aC (h H (of_decide_eq_false hb))
theorem pJ(hx:aF C "ch")(e:x.cps.toList=[n])(b:Bool)(h0:c≠n->b=false)(ht:c=n->BW g 8 C ρ (fun x U s=>X x s) e2 (FO c) (some (z.sc ka ko)) (QB b (FO c) (some (z.sc ka ko))))
  (h1:b=true->SW g 8 C ρ (fun x U s=>X x s) r (FO c) (some (z.sc ka ko)) (lQ g 8 C ρ (fun x U s=>X x s) rest (iU Q))) (h2:b=false->SW g 8 C ρ (fun x U s=>X x s) rest (FO c) (some (z.sc ka ko)) (iU Q)):
  SW g 8 C ρ (fun x U s=>X x s) (.If (.BoolOp .And [.Compare (.Name "ch" p1) [.Eq] [.Constant (.str x) k1 p2] p3,e2] p4) r [] p5::rest) (FO c) (some (z.sc ka ko)) (iU Q):=by
 refine bW (kI (cV (aL rfl (bY hx (.tail _ (.head _)) (aB (dZ n e ⟨fun hb=>?_,fun hb=>?_⟩))))))
 ·have h0:=h0 (of_decide_eq_false hb);exact⟨fun h=>(by cases h),fun U=>aC (h2 h0)⟩
 ·refine eP ((ht (r8 hb)).mono ?_)
  rintro b' l s ⟨rfl,rfl,rfl⟩
  exact⟨h1,fun h=>aC (h2 h)⟩
end
theorem Kr{α:Type}{p:Prop}[Decidable p]{r:R α}{Q:α->Z->Prop}(H:(if p then .wall else r).wp Q X):¬p/\r.wp Q X:=by
 by_cases h:p
 ·have H:=kX h H;exact H.elim
 ·have H:=qS h H;exact⟨h,H⟩
theorem Dm(F:aP g)(f:Nat):Sp g ρ 8 587 [] (fun U=>V.none) (dE f):=by
 intro z ka ko Q X ok H;refine cK (F.d 10 rfl) ["ch"] rfl rfl (by kernel_rfl) fun C' B=>?_;have hS:aF C' "self":=B.loc rfl rfl;have hx:aF C' "ch":=B.loc rfl rfl;have H:=aX H;refine bW (hM (Pt F f) (F.mn 38 rfl) B rfl hS ⟨_,rfl⟩ rfl (B.int rfl) (fun U=>rfl) (.mk z ka ko rfl rfl ok (R.mono H (fun a z H ka ko ok=>?_) fun U U x=>x)) rfl);have H:=aX H;refine bW (hM (Gx F) (F.mn 10 rfl) B rfl hS ⟨_,rfl⟩ rfl (B.int rfl) (fun U=>rfl) (.mk z ka ko rfl rfl ok (R.mono H (fun a z H ka ko ok=>?_) fun U U x=>x)) rfl);have H:=aX H;refine bW (hM (Ba F z.col) (F.mn 13 rfl) B rfl hS ⟨_,rfl⟩ rfl (B.int rfl) (fun U=>rfl) (jB F hS (.mk z ka ko rfl rfl ok (R.mono H (fun a z H ka ko ok=>?_) fun U U x=>x))) rfl);refine bQ (eJ H) fun c Wv H=>?_;refine bW (aD rfl (B.loc (x:="ch") rfl rfl).1 (dI F B rfl hS ⟨_,rfl⟩ ok Wv ⟨_,.tail .head,?_⟩));unfold bR at H;refine mH B hS hx ok (n:=0) rfl (Dq F) (F.mn 16 rfl) rfl ⟨_,rfl⟩ H fun H U=>?_;obtain⟨PL,H⟩:=Kr H;refine pJ hx (n:=37) rfl false (fun U=>rfl) (fun hc=>(PL (by rw[hc];rfl)).elim) (fun h=>by cases h) fun U=>?_;obtain⟨hw,H⟩:=Kr H;refine pJ hx (n:=45) rfl false (fun U=>rfl) (fun hc=>bZ (fun U=>rfl) (fU B.hh (F.mn 32 rfl) (D':=2) rfl hS ⟨_,rfl⟩ rfl (oU F ok (fun q=>hw ⟨hc,q⟩) ⟨rfl,rfl,rfl⟩))) (fun h=>by cases h) fun U=>?_;clear hw;refine pJ hx (n:=46) rfl false (fun U=>rfl) (fun hc=>(PL (by rw[hc];rfl)).elim) (fun h=>by cases h) fun U=>?_;refine mH B hS hx ok (n:=91) rfl (Gw F) (F.mn 17 rfl) rfl ⟨_,rfl⟩ H fun H U=>?_;refine mH B hS hx ok (n:=123) rfl (Gv F) (F.mn 31 rfl) rfl ⟨_,rfl⟩ H fun H U=>?_;refine mH B hS hx ok (n:=93) rfl (Pp F) (F.mn 19 rfl) rfl ⟨_,rfl⟩ H fun H U=>?_;refine mH B hS hx ok (n:=125) rfl (Po F) (F.mn 20 rfl) rfl ⟨_,rfl⟩ H fun H U=>?_;refine mH B hS hx ok (n:=44) rfl (Dn F) (F.mn 22 rfl) rfl ⟨_,rfl⟩ H fun H U=>?_;refine bQ (GA H) fun b hb H=>?_;refine pJ hx (n:=45) rfl b (fun h=>?_) (fun h=>?_) (fun hb=>?_) fun hb=>?_
 ·rcases hb with⟨_,hb⟩|⟨hb,_⟩
  ·exact hb
  ·exact absurd hb h
 ·rcases hb with⟨hb,_⟩|⟨_,d,hd,rfl⟩
  ·exact absurd h hb
  ·exact bZ (fun U=>rfl) (fU B.hh (F.mn 34 rfl) (D':=1) rfl hS ⟨_,rfl⟩ rfl (rS F ok hd ⟨rfl,rfl,rfl⟩))
 ·have H:=kX hb H;exact bW (bV (iN (zJ F) (F.mn 23 rfl) B rfl hS ⟨_,rfl⟩ rfl (.mk z ka ko rfl rfl ok (R.mono H (fun a z H ka ko ok=>H ka ko ok) fun U U x=>x))))
 rw[if_neg (by rw[hb];decide)] at H;refine bQ (KR H) fun b hb H=>?_;refine pJ hx (n:=63) rfl b (fun h=>?_) (fun h=>?_) (fun hb=>?_) fun hb=>?_
 ·rcases hb with⟨_,hb⟩|⟨hb,_⟩
  ·exact hb
  ·exact absurd hb h
 ·rcases hb with⟨hb,_⟩|⟨_,hb⟩
  ·exact absurd h hb
  ·exact bZ (fun U=>rfl) (fU B.hh (F.mn 35 rfl) (D':=1) rfl hS ⟨_,rfl⟩ rfl (Ci F ok hb ⟨rfl,rfl,rfl⟩))
 ·have H:=kX hb H;exact bW (bV (iN (Gs F) (F.mn 24 rfl) B rfl hS ⟨_,rfl⟩ rfl (.mk z ka ko rfl rfl ok (R.mono H (fun a z H ka ko ok=>H ka ko ok) fun U U x=>x))))
 rw[if_neg (by rw[hb];decide)] at H;refine bQ (KR H) fun b hb H=>?_;refine pJ hx (n:=58) rfl b (fun h=>?_) (fun h=>?_) (fun hb=>?_) fun hb=>?_
 ·rcases hb with⟨_,hb⟩|⟨hb,_⟩
  ·exact hb
  ·exact absurd hb h
 ·rcases hb with⟨hb,_⟩|⟨_,hb⟩
  ·exact absurd h hb
  ·exact bZ (fun U=>rfl) (fU B.hh (F.mn 36 rfl) (D':=1) rfl hS ⟨_,rfl⟩ rfl (xK F ok hb ⟨rfl,rfl,rfl⟩))
 ·have H:=kX hb H;exact bW (bV (iN (zK F) (F.mn 25 rfl) B rfl hS ⟨_,rfl⟩ rfl (.mk z ka ko rfl rfl ok (R.mono H (fun a z H ka ko ok=>H ka ko ok) fun U U x=>x))))
 rw[if_neg (by rw[hb];decide)] at H;refine mH B hS hx ok (n:=42) rfl (Wb F) (F.mn 26 rfl) rfl ⟨_,rfl⟩ H fun H U=>?_;refine mH B hS hx ok (n:=38) rfl (Jx F) (F.mn 27 rfl) rfl ⟨_,rfl⟩ H fun H U=>?_;refine mH B hS hx ok (n:=33) rfl (BP F) (F.mn 33 rfl) rfl ⟨_,rfl⟩ H fun H U=>?_;refine pJ hx (n:=124) rfl false (fun U=>rfl) (fun hc=>(PL (by rw[hc];rfl)).elim) (fun h=>by cases h) fun U=>?_;refine pJ hx (n:=62) rfl false (fun U=>rfl) (fun hc=>(PL (by rw[hc];rfl)).elim) (fun h=>by cases h) fun U=>?_;refine mH B hS hx ok (n:=39) rfl (Pq F) (F.mn 28 rfl) rfl ⟨_,rfl⟩ H fun H U=>?_;refine mH B hS hx ok (n:=34) rfl (Pm F) (F.mn 45 rfl) rfl ⟨_,rfl⟩ H fun H U=>?_;refine bQ (HZ H) fun b hb H=>?_;refine bW (kI (bZ (fun U=>rfl) (fU B.hh (F.mn 37 rfl) (D':=1) rfl hS ⟨_,rfl⟩ rfl (yZ F ok Wv hb ⟨fun hb=>?_,fun hb=>aC ?_⟩))))
 ·have H:=kX hb H;exact bW (bV (iN (Pn F f) (F.mn 30 rfl) B rfl hS ⟨_,rfl⟩ rfl (.mk z ka ko rfl rfl ok (R.mono H (fun a z H ka ko ok=>H ka ko ok) fun U U x=>x))))
 rw[if_neg (by rw[hb];decide)] at H
 by_cases PC:c=64
 case neg=>rw[if_neg PC] at H;exact H.elim
 rw[if_pos PC] at H;have HE:=H;subst PC;refine bW (Ry F B rfl rfl rfl rfl rfl (aB (bT ?_)));refine Xo (aB (aE B 1 rfl rfl rfl (EA _ _ rfl rfl HN (aR rfl) (aR rfl) (dO F B rfl hS ⟨_,rfl⟩ ?_))));exact fun U φ=>φ _ _ _ _ rfl fun x hx=>HE x _ hx
theorem Fn(F:aP g)(ok:Ok z){X:nA}{Q:mF}(H:(dT z).wp (fun b z'=>∀ka ko v,Ok z'->(v=.bool b\/(v=.none/\b=false))->Q v (some (z'.sc ka ko))) (PX X)):
  FW g 4 ρ X 580 [.self] (some (z.sc ka ko)) Q:=by
 refine cK (F.d 9 rfl) [] rfl rfl (by kernel_rfl) fun C' B=>?_;have hS:aF C' "self":=B.loc rfl rfl;unfold dT at H;refine bW (kI (bZ (fun U=>rfl) (Mw F hS ⟨fun hb=>?_,fun hb=>?_⟩)))
 ·have H:=kX hb H;exact bW (bV (cC (H ka ko _ ok (.inl rfl))))
 rw[if_neg (by rw[hb];decide)] at H
 by_cases hl:z.tokens.length<=1000
 case neg=>have H:=qS hl H;exact H.elim
 have H:=kX hl H;refine aC (bW (kI (gJ (Bg (fun U=>rfl) (gZ F hS ⟨rfl,_,rfl,by show z.tokens.length<=_;unfold sizeLine;exact q5 hl (aR rfl),fun hb=>?_,fun hb=>?_⟩)))))
 ·have h0:z.tokens=[]:=by
   have hb:(!(!z.tokens.isEmpty))=true:=hb;rw[Bool.not_not] at hb;exact List.isEmpty_iff.mp hb
  have H:=kX h0 H;exact bW (bV (cC (H ka ko _ ok (.inl rfl))))
 ·have h0:¬z.tokens=[]:=by
   intro q;have hb:(!(!z.tokens.isEmpty))=false:=hb;rw[q] at hb;cases hb
  have H:=qS h0 H;have H:=aX H;refine aC (bW (hM (Gx F) (F.mn 10 rfl) B rfl hS ⟨_,rfl⟩ rfl (B.int rfl) (fun U=>rfl) (.mk z ka ko rfl rfl ok (R.mono H (fun a z H ka ko ok=>?_) fun U U x=>x)) rfl));cases e:jW z.keys none (z.keys.map (·.1)) with
  |none=>rw[e] at H;exact H.elim
  |some m=>
  rw[e] at H;refine bW (kI (Qt rfl (fU B.hh (F.mn 9 rfl) (D':=3) rfl hS ⟨_,rfl⟩ rfl (Zo F ok e (gT F hS ⟨m,_,rfl,rfl,fun hb=>?_,fun hb=>?_⟩)))))
  ·have H:∀ka ko v,Ok z->(v=.bool (m==some z.taken)\/(v=.none/\(m==some z.taken)=false))->Q v (some (z.sc ka ko)):=H;rw[hb] at H;exact bW (bV (cC (H ka ko _ ok (.inl rfl))))
  ·exact aC (aC (H ka ko _ ok (.inr ⟨rfl,hb⟩)))
noncomputable def AZ:Option V->V
 |none=>.none
 |some t=>t
def ON(f:Nat)(Q:mF)(X:nA)(n:Nat)(l:aM)(s:bX):Prop:=∀Ω:Prop,(∀(el:l=[gN]) (z:Z) (ka:Addr) (ko:Obj) (es:s=some (z.sc ka ko)) (ok:Ok z) (H:(fZ f n z).wp (PQ AZ Q) (PX X)),Ω)->Ω
theorem ON.mk{f:Nat}{Q:mF}{X:nA}{n:Nat}{l:aM}{s:bX}(el:l=[gN])(z:Z)(ka:Addr)(ko:Obj)(es:s=some (z.sc ka ko))(ok:Ok z)(H:(fZ f n z).wp (PQ AZ Q) (PX X)):ON f Q X n l s:=fun U φ=>φ el z ka ko es ok H
theorem Gu(F:aP g)(f n:Nat):Sp g ρ 9 573 [] AZ (fZ f n):=by
 intro z ka ko Q X ok H;refine cK (F.d 8 rfl) [] rfl rfl (by kernel_rfl) fun C' B=>?_;have hS:aF C' "self":=B.loc rfl rfl;refine bW (oA (ON f Q X) n (.mk rfl z ka ko rfl ok H) ?_)
 rintro m l s q_
 refine q_ _ ?_;clear q_
 rintro rfl z ka ko rfl ok H
 induction m with
 |zero=>exact H.elim
 |succ m=>
 rw[mN] at H;refine bZ (fun U=>rfl) (fU B.hh (F.mn 7 rfl) (D':=4) rfl hS ⟨_,rfl⟩ rfl (Fn F ok (EX H fun b z H ka ko v ok hv=>?_)));have key:CF g 9 C' ρ (fun x U s=>X x s) (tM (aU 34 3).body 0 0) (ON f Q X) (m+1) (lQ g 9 C' ρ (fun x U s=>X x s) ((aU 34 3).body.drop 1) (iU Q)) b [gN] (some (z.sc ka ko)):=by
  refine⟨fun hb=>?_,fun hb=>?_⟩
  ·have H:=kX hb H;have H:=aX H;exact bW (hM (Dm F f) (F.mn 8 rfl) B rfl hS ⟨_,rfl⟩ rfl (B.int rfl) (fun U=>rfl) (.mk z ka ko rfl rfl ok (R.mono H (fun a z H ka ko ok=>aC ⟨m,x9 _,.mk rfl z ka ko rfl ok H⟩) fun U U x=>x)) rfl)
  ·rw[if_neg (by rw[hb];decide)] at H;cases e:z.tokens with
   |nil=>
    rw[e] at H;refine bW (kI (Bg (fun U=>rfl) (gZ F hS ⟨rfl,_,rfl,by show z.tokens.length<=_;rw[e];decide,fun hb=>?_,fun hb=>aC (aC (H ka ko ok))⟩)));have hb:(!z.tokens.isEmpty)=true:=hb;rw[e] at hb;cases hb
   |cons t r=>
    have H:(if z.tokens.length<=1000 then R.ok (some t) {z with taken:=z.taken+1,tokens:=r} else .wall).wp (PQ AZ Q) (PX X):=by rw[e] at H⊢;exact H
    by_cases hl:z.tokens.length<=1000
    case neg=>have H:=qS hl H;exact H.elim
    have H:=kX hl H;refine bW (kI (Bg (fun U=>rfl) (gZ F hS ⟨rfl,_,rfl,by show z.tokens.length<=_;unfold sizeLine;exact q5 hl (aR rfl),fun hb=>?_,fun hb=>?_⟩)))
    ·refine bW (pI F hS ?_);refine bW (bV (Hw ⟨_,rfl⟩ rfl (gZ F hS (fH rfl rfl (aQ (JW _ t r rfl rfl e (by show z.tokens.length<=_;unfold sizeLine;exact q5 hl (aR rfl)) ?_))))));exact H ka ko (ok.same rfl rfl rfl)
    ·have hb:(!z.tokens.isEmpty)=false:=hb;rw[e] at hb;cases hb
 rcases hv with rfl|⟨rfl,rfl⟩
 ·exact key
 ·exact⟨fun hb=>(by cases hb),fun U=>key.f rfl⟩
end
structure Ob where
 aS:Addr
 dS:Addr
 ns:List Str
 vs:List V
 xs:List (Addr×List V)
 kd:List (Addr×Obj)
class inductive Np(ρ:dN)(G:cE):List (Addr×List V)->cE->Prop
 |nil:Np ρ G [] []
 |cons{a vs r n l:_}{vals:List Value}(h:cZ ρ G vs vals)(k:Np ρ G r l):Np ρ G ((a,vs)::r) ((a,W.listOf vals.toArray n)::l)
inductive UZ(ρ:dN)(G:cE)(a:Addr)(vs:List V)(r:List (Addr×List V)):cE->Prop
 |cons{n l:_}{vals:List Value}(h:cZ ρ G vs vals)(k:Np ρ G r l):UZ ρ G a vs r ((a,W.listOf vals.toArray n)::l)
inductive VA:cE->Prop
 |nil:VA []
def XQ(ρ:dN)(G:cE)(xs:List (Addr×List V))(l:cE):Prop:=
 match xs with
 |[]=>VA l
 |p::r=>UZ ρ G p.1 p.2 r l
theorem Np.out{xs:List (Addr×List V)}{l:cE}(h:Np ρ G xs l):XQ ρ G xs l:=by
 induction h with
 |nil=>exact .nil
 |cons h k=>exact .cons h k
theorem Np.mono{ρ:dN}{G G':cE}(k:Sub G G'){xs:List (Addr×List V)}{l:cE}(h:Np ρ G xs l):Np ρ G' xs l:=by
 induction h with
 |nil=>exact .nil
 |cons h _ ih=>exact .cons (h.mono k) ih
def QY(ρ:dN)(G:cE)(ob:Ob)(l:cE):Prop:=∀Ω:Prop,(∀(es:List DictEntry) (n:Nat) (vals:List Value) (ll:cE) (el:l=(ob.aS,instObj 1048 ob.dS)::(ob.dS,dictOf es n)::(ob.kd++ll)) (hE:fT es ob.ns vals) (hV:cZ ρ G ob.vs vals) (hX:Np ρ G ob.xs ll),Ω)->Ω
theorem QY.mk{l:cE}(es:List DictEntry)(n:Nat)(vals:List Value)(ll:cE)(el:l=(ob.aS,instObj 1048 ob.dS)::(ob.dS,dictOf es n)::(ob.kd++ll))(hE:fT es ob.ns vals)(hV:cZ ρ G ob.vs vals)(hX:Np ρ G ob.xs ll):QY ρ G ob l:=fun U φ=>φ es n vals ll el hE hV hX
structure OR(ρ:dN)(G:cE)(ob:Ob)(l:cE):Prop where
 ex:QY ρ G ob l
 nd:ob.ns.Nodup
 len:ob.ns.length<=100
 kd:∀p∈ob.kd,(p.1==sysModules)=false/\∀prog w,p.2.IsDictOf (intKind prog w) []
theorem OR.mono{ρ:dN}{G G':cE}{ob:Ob}{l:cE}(O:OR ρ G ob l)(k:Sub G G'):OR ρ G' ob l:=by
 refine O.ex _ fun es n vals ll a b c d=>?_;exact⟨(.mk es n vals ll a b (c.mono k) (d.mono k)),O.nd,O.len,O.kd⟩
section
variable(C:Cx)(ρ:dN)(G fo:cE)(m:mZ)(s:Shared)
def ES(Q:V->aM->Ob->Prop)(Qr:dQ):Prop:=∀v aG oM G' l' val h' bH,Q v aG oM->Sub G G'->OR ρ G' oM l'->VR ρ G' v val->cN C ρ G' (l'++fo) none m aG h'->Qr val (St s h' bH)
def EP(Q:Bool->aM->Ob->Prop)(Qr:Bool->Shared->Prop):Prop:=∀b aG oM G' l' h' bH,Q b aG oM->Sub G G'->OR ρ G' oM l'->cN C ρ G' (l'++fo) none m aG h'->Qr b (St s h' bH)
def Ng(Q:Fl->aM->Ob->Prop)(Qr:Flow->Shared->Prop):Prop:=∀f aG oM G' l' m' fv h' bH,Q f aG oM->Sub G G'->OR ρ G' oM l'->CA ρ G' f fv->cN C ρ G' (l'++fo) none m' aG h'->Qr fv (St s h' bH)
def Nf(loc:aM)(Q:V->Ob->Prop)(Qr:dQ):Prop:=∀v oM G' l' val h' bH,Q v oM->Sub G G'->OR ρ G' oM l'->VR ρ G' v val->cN C ρ G' (l'++fo) none m loc h'->Qr val (St s h' bH)
end
theorem Ng.step{C:Cx}{s:Shared}{t:Tok}{Q:Fl->aM->Ob->Prop}{Qr:Flow->Shared->Prop}(q:Ng C ρ G fo s Q Qr)(k:Sub G G'):Ng C ρ G' fo (St s h t) Q Qr:=fun v l s' G2 l2 m2 val h2 t2 y1 y2 y3 y4 y5=>q v l s' G2 l2 m2 val h2 t2 y1 (k.trans y2) y3 y4 y5
@[irreducible] def tH(g:Gl)(D:Nat)(C:Cx)(ρ:dN)(e:Expr)(loc:aM)(ob:Ob)(Q:V->aM->Ob->Prop):Prop:=
 iP g D C->∀G fo l m s,OR ρ G ob l->cN C ρ G (l++fo) none m loc s.heap->∀(Qr:dQ) (Er:dQ),
  ES C ρ G fo m s Q Qr->
  wpAny (model g.prog g.w) C.A (eval e C.env) Qr Er s
theorem tH.of{D:Nat}{C:Cx}{loc:aM}{Q:V->aM->Ob->Prop}(h:
 iP g D C->∀G fo l m s,OR ρ G ob l->cN C ρ G (l++fo) none m loc s.heap->∀(Qr:dQ) (Er:dQ),
  ES C ρ G fo m s Q Qr->
  wpAny (model g.prog g.w) C.A (eval e C.env) Qr Er s):tH g D C ρ e loc ob Q:=by delta tH;exact h
theorem tH.out{D:Nat}{C:Cx}{loc:aM}{Q:V->aM->Ob->Prop}(h:tH g D C ρ e loc ob Q):
 iP g D C->∀G fo l m s,OR ρ G ob l->cN C ρ G (l++fo) none m loc s.heap->∀(Qr:dQ) (Er:dQ),
  ES C ρ G fo m s Q Qr->
  wpAny (model g.prog g.w) C.A (eval e C.env) Qr Er s:=by delta tH at h;exact h
@[irreducible] def Xe(g:Gl)(D:Nat)(C:Cx)(ρ:dN)(e:Expr)(loc:aM)(ob:Ob)(Q:Bool->aM->Ob->Prop):Prop:=
 iP g D C->∀G fo l m s fS,OR ρ G ob l->cN C ρ G (l++fo) none m loc s.heap->fS=eval e C.env->∀(Qr:Bool->Shared->Prop) (Er:dQ),
  EP C ρ G fo m s Q Qr->
  wpAny (model g.prog g.w) C.A (isTrue e C.env fS) Qr Er s
theorem Xe.of{D:Nat}{C:Cx}{loc:aM}{Q:Bool->aM->Ob->Prop}(h:
 iP g D C->∀G fo l m s fS,OR ρ G ob l->cN C ρ G (l++fo) none m loc s.heap->fS=eval e C.env->∀(Qr:Bool->Shared->Prop) (Er:dQ),
  EP C ρ G fo m s Q Qr->
  wpAny (model g.prog g.w) C.A (isTrue e C.env fS) Qr Er s):Xe g D C ρ e loc ob Q:=by delta Xe;exact h
theorem Xe.out{D:Nat}{C:Cx}{loc:aM}{Q:Bool->aM->Ob->Prop}(h:Xe g D C ρ e loc ob Q):
 iP g D C->∀G fo l m s fS,OR ρ G ob l->cN C ρ G (l++fo) none m loc s.heap->fS=eval e C.env->∀(Qr:Bool->Shared->Prop) (Er:dQ),
  EP C ρ G fo m s Q Qr->
  wpAny (model g.prog g.w) C.A (isTrue e C.env fS) Qr Er s:=by delta Xe at h;exact h
@[irreducible] def wL(g:Gl)(D:Nat)(C:Cx)(ρ:dN)(t:Sem Flow)(loc:aM)(ob:Ob)(Q:Fl->aM->Ob->Prop):Prop:=
 iP g D C->∀G fo l m s,OR ρ G ob l->cN C ρ G (l++fo) none m loc s.heap->∀(Qr:Flow->Shared->Prop) (Er:dQ),
  Ng C ρ G fo s Q Qr->
  wpAny (model g.prog g.w) C.A t Qr Er s
theorem wL.of{D:Nat}{C:Cx}{t:Sem Flow}{loc:aM}{Q:Fl->aM->Ob->Prop}(h:
 iP g D C->∀G fo l m s,OR ρ G ob l->cN C ρ G (l++fo) none m loc s.heap->∀(Qr:Flow->Shared->Prop) (Er:dQ),
  Ng C ρ G fo s Q Qr->
  wpAny (model g.prog g.w) C.A t Qr Er s):wL g D C ρ t loc ob Q:=by delta wL;exact h
theorem wL.out{D:Nat}{C:Cx}{t:Sem Flow}{loc:aM}{Q:Fl->aM->Ob->Prop}(h:wL g D C ρ t loc ob Q):
 iP g D C->∀G fo l m s,OR ρ G ob l->cN C ρ G (l++fo) none m loc s.heap->∀(Qr:Flow->Shared->Prop) (Er:dQ),
  Ng C ρ G fo s Q Qr->
  wpAny (model g.prog g.w) C.A t Qr Er s:=by delta wL at h;exact h
@[irreducible] def Qd(g:Gl)(D:Nat)(ρ:dN)(f:Addr)(args:List V)(ob:Ob)(Q:V->Ob->Prop):Prop:=
 ∀(C:Cx),iP g (D+1) C->C.A.handled=none->∀G fo l m loc s vals,OR ρ G ob l->cN C ρ G (l++fo) none m loc s.heap->cZ ρ G args vals->∀(Qr:dQ) (Er:dQ),
  Nf C ρ G fo m s loc Q Qr->
  wpAny (model g.prog g.w) C.A (call (.ref f) vals []) Qr Er s
theorem Qd.of{D:Nat}{args:List V}{Q:V->Ob->Prop}(h:
 ∀(C:Cx),iP g (D+1) C->C.A.handled=none->∀G fo l m loc s vals,OR ρ G ob l->cN C ρ G (l++fo) none m loc s.heap->cZ ρ G args vals->∀(Qr:dQ) (Er:dQ),
  Nf C ρ G fo m s loc Q Qr->
  wpAny (model g.prog g.w) C.A (call (.ref f) vals []) Qr Er s):Qd g D ρ f args ob Q:=by delta Qd;exact h
theorem Qd.out{D:Nat}{args:List V}{Q:V->Ob->Prop}(h:Qd g D ρ f args ob Q):
 ∀(C:Cx),iP g (D+1) C->C.A.handled=none->∀G fo l m loc s vals,OR ρ G ob l->cN C ρ G (l++fo) none m loc s.heap->cZ ρ G args vals->∀(Qr:dQ) (Er:dQ),
  Nf C ρ G fo m s loc Q Qr->
  wpAny (model g.prog g.w) C.A (call (.ref f) vals []) Qr Er s:=by delta Qd at h;exact h
section
variable{D:Nat}{C:Cx}{loc:aM}
noncomputable abbrev JJ:yO->aM->bX->Prop:=fun U U U=>False
theorem dX{Q:V->aM->Ob->Prop}(h:EW g D C ρ JJ e loc none (fun v l s=>s=none/\Q v l ob)):tH g D C ρ e loc ob Q:=by
 refine .of fun ok G fo l m s O I Qr Er q=>?_;refine h.out ok G (l++fo) m s I Qr Er (fun v aG bS G' val h' bH z1 z2 z3 z4=>?_) (fun U U U U U U U z=>z.elim);obtain⟨rfl,z1⟩:=z1;exact q v aG ob G' l val h' bH z1 z2 (O.mono z2) z3 z4
theorem Qq{Q:Bool->aM->Ob->Prop}(h:BW g D C ρ JJ e loc none (fun v l s=>s=none/\Q v l ob)):Xe g D C ρ e loc ob Q:=by
 refine .of fun ok G fo l m s w O I ew Qr Er q=>?_;refine h.out ok G (l++fo) m s w I ew Qr Er (fun v aG bS G' h' bH z1 z2 z4=>?_) (fun U U U U U U U z=>z.elim);obtain⟨rfl,z1⟩:=z1;exact q v aG ob G' l h' bH z1 z2 (O.mono z2) z4
theorem tH.mono{Q Q':V->aM->Ob->Prop}(h:tH g D C ρ e loc ob Q)(k:∀v l s,Q v l s->Q' v l s):tH g D C ρ e loc ob Q':=by
 refine .of fun ok G fo l m s O I Qr Er q=>?_;exact h.out ok G fo l m s O I Qr Er (fun v aG oM G' l' val h' bH z=>q v aG oM G' l' val h' bH (k _ _ _ z))
theorem vS{Q:Fl->aM->Ob->Prop}(h:Q .next loc ob):wL g D C ρ (execs [] C.env) loc ob Q:=by
 refine .of fun ok G fo l m s O I Qr Er q=>?_;exact wpAny_execs_nil (q .next loc ob G l m .next s.heap s.toks h (fun U z=>z) O .next I)
def KL(g:Gl)(D:Nat)(C:Cx)(ρ:dN)(r:List Stmt)(Q:Fl->aM->Ob->Prop)(f:Fl)(l:aM)(s:Ob):Prop:= @Fl.casesOn (fun U=>Prop) f (wL g D C ρ (execs r C.env) l s Q) (Q .brk l s) (Q .cont l s) fun v=>Q (.ret v) l s
def JT(Q:V->Ob->Prop)(f:Fl)(l:aM)(s:Ob):Prop:= @Fl.casesOn (fun U=>Prop) f (Q .none s) False False fun v=>Q v s
theorem cG{st:Stmt}{r:List Stmt}{Q:Fl->aM->Ob->Prop}(h:wL g D C ρ (exec st C.env) loc ob (KL g D C ρ r Q)):wL g D C ρ (execs (st::r) C.env) loc ob Q:=by
 refine .of fun ok G fo l m s O I Qr Er q=>?_;refine wpAny_execs_cons (h.out ok G fo l m s O I _ _ (fun f aG oM G' l' m' fv h' bH z1 z2 z3 z4 z5=>?_));induction z4 with
 |next=>exact wL.out z1 ok G' fo l' m' (St s h' bH) z3 z5 Qr Er (q.step z2)
 |brk=>exact q .brk aG oM G' l' m' _ h' bH z1 z2 z3 .brk z5
 |cont=>exact q .cont aG oM G' l' m' _ h' bH z1 z2 z3 .cont z5
 |ret hv=>exact q (.ret _) aG oM G' l' m' _ h' bH z1 z2 z3 (.ret hv) z5
theorem Ks{test:Expr}{orelse:List Stmt}{Q:Fl->aM->Ob->Prop}
  (h:Xe g D C ρ test loc ob (fun b l s=>(b=true->wL g D C ρ (execs body C.env) l s Q)/\(b=false->wL g D C ρ (execs orelse C.env) l s Q))):wL g D C ρ (exec (.If test body orelse pos) C.env) loc ob Q:=by
 refine .of fun ok G fo l m s O I Qr Er q=>?_;refine wpAny_If (h.out ok G fo l m s _ O I rfl _ _ (fun b aG oM G' l' h' bH z1 z2 z3 z4=>?_));induction b with
 |true=>exact(z1.1 rfl).out ok G' fo l' m (St s h' bH) z3 z4 Qr Er (q.step z2)
 |false=>exact(z1.2 rfl).out ok G' fo l' m (St s h' bH) z3 z4 Qr Er (q.step z2)
theorem Yf{Q:Fl->aM->Ob->Prop}(h:tH g D C ρ e loc ob (fun v l s=>Q (.ret v) l s)):wL g D C ρ (exec (.Return (some e) pos) C.env) loc ob Q:=by
 refine .of fun ok G fo l m s O I Qr Er q=>?_;exact wpAny_Return_some (h.out ok G fo l m s O I _ _ (fun v aG oM G' l' val h' bH z1 z2 z3 z4 z5=>q (.ret v) aG oM G' l' m _ h' bH z1 z2 z3 (.ret z4) z5))
theorem Ib{Q:Fl->aM->Ob->Prop}(hs:swapsWith e (some (.Name x p)) pos.line C.env=pure false)(hx:aF C x)
  (h:tH g D C ρ e loc ob (fun v l s=>∃l',dW x (.val v) l l'/\Q .next l' s)):wL g D C ρ (exec (.Assign [.Name x p] e pos) C.env) loc ob Q:=by
 refine .of fun ok G fo l m s O I Qr Er q=>?_;refine wpAny_Assign_Name (h.out ok G fo l m s O I _ _ (fun v aG oM G' l' val h' bH z1 z2 z3 z4 z5=>?_)) hs;refine bQ z1 fun l2 u z1=>?_;exact gI ok hx.1 (s:=(St s h' bH)) z5 z4 u fun h2 t2 I2=>q .next l2 oM G' l' _ _ h2 t2 z1 z2 z3 .next I2
theorem wM{Q:Fl->aM->Ob->Prop}(hi:interactive C.env=false)(hs:swapsWith e none pos.line C.env=pure false)
  (h:tH g D C ρ e loc ob (fun v l s=>Q .next l s)):wL g D C ρ (exec (.Expr e pos) C.env) loc ob Q:=by
 refine .of fun ok G fo l m s O I Qr Er q=>?_;refine wpAny_Expr_any (hi:=hi) (hs:=hs) (h.out ok G fo l m s O I _ _ (fun v aG oM G' l' val h' bH z1 z2 z3 z4 z5=>?_));exact q .next aG oM G' l' m _ h' bH z1 z2 z3 .next z5
theorem jN{name:Str}{i:Nat}{u:V}{Q:V->aM->Ob->Prop}(A:iK g 1048 name)(hx:aF C x)(hv:(x,LV.val (.glob (.ref ob.aS)))∈loc)(hi:ob.ns[i]?=some name)(hu:ob.vs[i]?=some u)(hp:u.plain=true\/∃a,u=.glob (.ref a))
  (he:eval (.Attribute (.Name x np) name pos) C.env=(do
   let ov←eval (.Name x np) C.env
   standAt pos.atName
   let r←holding [ov] (getAttr ov name true)
   letTemporaryGo (.Name x np) ov r
   pure r))
  (h:Q u loc ob):tH g D C ρ (.Attribute (.Name x np) name pos) loc ob Q:=by
 refine .of fun ok G fo l m s O I Qr Er q=>?_;obtain⟨ls,os,a,b,c,d⟩:=I.ex;refine bQ (b.get hv) fun val e1 e2=>?_;induction e2.out
 refine Attribute_any_ (nameX_L I.fr e1 ?_ ok.kind hx.1 hx.2) he;refine O.ex _ ?_
 rintro es n vals ll rfl hE hV hX
 have IA:InstAt s.heap ob.aS (instObj 1048 ob.dS) 1048 (some (dictOf es n)):=InstAt.of_news c (by simp) (by simp);refine bQ (cZ.zip hV (mX hi hu)) fun val m1 m2=>?_;refine bQ A.fi fun attr f1 f2=>?_;have hh:handedIn val=true:=by
  rcases hp with hp|⟨a,rfl⟩
  ·exact m2.handed hp
  ·induction m2.out;rfl
 refine oG (s:=s) I.fr ok.kB IA A.pg A.hd f1 f2 (mM hE O.nd m1) hh ?_;exact q u loc ob G _ val s.heap _ h (.refl _) O m2 I
end
theorem cZ.snoc{v:V}{val:Value}(hv:VR ρ G v val){vs vals:_}(h:cZ ρ G vs vals):cZ ρ G (vs++[v]) (vals++[val]):=h.append (.cons hv .nil)
section
variable{D:Nat}{C:Cx}{loc:aM}
theorem cN.nW{l:cE}(I:cN C ρ G (l++fo) none m loc h):∃os,cU ρ G m loc os/\News C.h₀ C.L h (os++((l++fo)++G))/\((os++((l++fo)++G)).map (·.1)).Nodup:=by
 obtain⟨ls,os,a,b,c,d⟩:=I.ex;have a:ls=[]:=a;subst a;exact(tS os b c d)
theorem OA(F:aP g){name:Str}{v:V}{val:Value}{l:cE}{s:Shared}{HO:List Str}{Bc:List V}{Q:Unit->Shared->Prop}{E:dQ}(ok:iP g D C)(hn:name∈aJ)(O:OR ρ G ob l)(I:cN C ρ G (l++fo) none m loc s.heap)(hv:VR ρ G v val)
  (hs:(name∉ob.ns/\HO=ob.ns++[name]/\Bc=ob.vs++[v]/\ob.ns.length<=50)\/(∃i,ob.ns[i]?=some name/\HO=ob.ns/\Bc=ob.vs.set i v))
  (k:∀h' bH l',OR ρ G {ob with ns:=HO,vs:=Bc} l'->cN C ρ G (l'++fo) none m loc h'->Q () (St s h' bH)):wpAny (model g.prog g.w) C.A (setAttr (.ref ob.aS) name val) Q E s:=by
 refine jM I.nW fun os b c d=>?_;refine O.ex _ ?_
 rintro es n vals ll rfl hE hV hX
 have IA:InstAt s.heap ob.aS (instObj 1048 ob.dS) 1048 (some (dictOf es n)):=InstAt.of_news c (by simp) (by simp);have eq1:∀o,os++(((ob.aS,instObj 1048 ob.dS)::(ob.dS,o)::(ob.kd++ll)++fo)++G)=(os++[(ob.aS,instObj 1048 ob.dS)])++(ob.dS,o)::((ob.kd++ll++fo)++G):=by intro o;simp
 rw[eq1] at c d;obtain⟨s1,s2⟩:=gH d;have fin:∀yW,(putL name (PyData.keyHash g.w.params name) (.str name (s.toks+1)) val es)=yW->(getL name es).isSome=true->fT yW HO (match decide (name∈ob.ns) with|true=>vals.set (ob.ns.findIdx (· ==name)) val|false=>vals++[val])->True:=fun U U U U=>trivial
 have go:∀iB,fT (putL name (PyData.keyHash g.w.params name) (.str name (s.toks+1)) val es) HO iB->cZ ρ G Bc iB->(getL name es).isSome=true->HO.Nodup->HO.length<=100->wpAny (model g.prog g.w) C.A (setAttr (.ref ob.aS) name val) Q E s:=by
  intro iB Hh YO gs Lp hlen;refine set_dict I.fr ok.kB c IA rfl F.so.fi F.so.po (F.Mk _ hn) F.so.hd gs rfl (lY s1 s2) (by rw[Hh.length.1];exact q5 hlen (aR rfl)) fun h' F' N'=>?_;refine k h' _ ((ob.aS,instObj 1048 ob.dS)::(ob.dS,dictOf (putL name (PyData.keyHash g.w.params name) (.str name (s.toks+1)) val es) (putN name es n))::(ob.kd++ll)) ⟨(.mk _ _ iB ll rfl Hh YO hX),Lp,hlen,O.kd⟩ ⟨⟨[],os,rfl,b,?_,?_⟩,F',I.nd⟩
  ·rw[List.nil_append,eq1];exact N'
  ·rw[List.nil_append,eq1];exact iZ d
 rcases hs with⟨h1,rfl,rfl,h2⟩|⟨i,h1,rfl,rfl⟩
 ·refine go _ (fT.snoc hE h1) (hV.snoc hv) (by rw[jI hE h1];rfl) ?_ (by simp;exact q5 h2 (aR rfl));refine List.nodup_append.mpr (fH O.nd (by simp) ?_);intro a ha b' hb q;rw[List.mem_singleton.mp hb] at q;exact h1 (q▸ha)
 ·have Hh:=fT.put (hsh:=PyData.keyHash g.w.params name) (key:=.str name (s.toks+1)) (v:=val) hE O.nd h1;refine go _ Hh (hV.set hv i) ?_ O.nd O.len;have hl:=hE.length.2;have hi:i<vals.length:=by rw[hl];exact(List.getElem?_eq_some_iff.mp h1).1
  have:(name,vals[i])∈ob.ns.zip vals:=by
   rw[List.mem_iff_getElem?];exact⟨i,by rw[List.getElem?_zip_eq_some];exact⟨h1,List.getElem?_eq_getElem hi⟩⟩
  rw[mM hE O.nd this];rfl
theorem Kt{name:Str}{Q:Fl->aM->Ob->Prop}(F:aP g)(hn:name∈aJ)(hx:aF C x)(hs:swapsWith e (some (.Attribute (.Name x np) name p)) pos.line C.env=pure false)
  (h:tH g D C ρ e loc ob (fun v l s=>(x,LV.val (.glob (.ref s.aS)))∈l/\((name∉s.ns/\s.ns.length<=50/\Q .next l {s with ns:=s.ns++[name],vs:=s.vs++[v]})\/(∃i,s.ns[i]?=some name/\Q .next l {s with vs:=s.vs.set i v})))):
  wL g D C ρ (exec (.Assign [.Attribute (.Name x np) name p] e pos) C.env) loc ob Q:=by
 refine .of fun ok G fo l m s O I Qr Er q=>?_;refine plainObj_wpAny_Assign_Attribute (h.out ok G fo l m s O I _ _ (fun v aG oM G' l' val h' bH z1 z2 z3 z4 z5=>?_)) hs;obtain⟨hm,z1⟩:=z1;refine jM z5.nW fun os b c d=>?_;refine bQ (b.get hm) fun sv' e1 e2=>?_;induction e2.out
 refine nameX_L z5.fr e1 ?_ ok.kind hx.1 hx.2
 rcases z1 with⟨h1,h2,h3⟩|⟨i,h1,h3⟩
 ·exact OA (s:=(St s h' bH)) F ok hn z3 z5 z4 (.inl (JU h1 rfl rfl h2)) fun h2 t2 l2 O2 I2=>q .next aG _ G' l2 m .next h2 t2 h3 z2 O2 .next I2
 ·exact OA (s:=(St s h' bH)) F ok hn z3 z5 z4 (.inr (tS i h1 rfl rfl)) fun h2 t2 l2 O2 I2=>q .next aG _ G' l2 m .next h2 t2 h3 z2 O2 .next I2
theorem uP{Q:V->aM->Ob->Prop}(h:∀a,Q (.glob (.ref a)) loc {ob with xs:=(a,[])::ob.xs}):tH g D C ρ (.List [] pos) loc ob Q:=by
 refine .of fun ok G fo l m s O I Qr Er q=>?_;refine jM I.nW fun os b c d=>?_;refine O.ex _ ?_
 rintro es n vals ll rfl hE hV hX
 refine List_ ?_;refine spliced_nil ?_;refine newList_K (vs:=[]) I.fr c (fun al h2 F2 N2 lt=>?_) (aR rfl);have dd:=dP (oa:=W.listOf ([]:List Value).toArray 0) d lt;have pm:((al,W.listOf ([]:List Value).toArray 0)::(os++(((ob.aS,instObj 1048 ob.dS)::(ob.dS,dictOf es n)::(ob.kd++ll)++fo)++G))).Perm (os++(((ob.aS,instObj 1048 ob.dS)::(ob.dS,dictOf es n)::(ob.kd++((al,W.listOf ([]:List Value).toArray 0)::ll))++fo)++G)):=by
  refine List.perm_middle.symm.trans ((List.Perm.refl os).append ?_);simp only[List.cons_append,r7];refine(List.Perm.swap _ _ _).trans (.cons _ ?_);refine(List.Perm.swap _ _ _).trans (.cons _ ?_);exact List.perm_middle.symm
 exact q _ loc _ G _ _ h2 _ (h al) (.refl _) ⟨(.mk es n vals ((al,W.listOf ([]:List Value).toArray 0)::ll) rfl hE hV (.cons .nil hX)),O.nd,O.len,O.kd⟩ .glob
  ⟨⟨[],os,rfl,b,dU N2 fun p hp=>pm.symm.subset (by simpa using hp),by rw[List.nil_append];exact(List.Perm.nodup_iff (pm.map _)).mp dd⟩,F2,I.nd⟩
theorem Ea{Q:V->aM->Ob->Prop}(h:∀a o,Q (.glob (.ref a)) loc {ob with kd:=(a,o)::ob.kd}):tH g D C ρ (.Dict [] [] pos) loc ob Q:=by
 refine .of fun ok G fo l m s O I Qr Er q=>?_;refine jM I.nW fun os b c d=>?_;refine O.ex _ ?_
 rintro es n vals ll rfl hE hV hX
 refine newDict_K I.fr c (TopRead.nolimit (topRead_of ok.top)) fun al h2 o F2 N2 lt lo U U hint U=>?_;have dd:=dP (oa:=o) d lt;have pm:((al,o)::(os++(((ob.aS,instObj 1048 ob.dS)::(ob.dS,dictOf es n)::(ob.kd++ll)++fo)++G))).Perm (os++(((ob.aS,instObj 1048 ob.dS)::(ob.dS,dictOf es n)::(((al,o)::ob.kd)++ll)++fo)++G)):=by
  refine List.perm_middle.symm.trans ((List.Perm.refl os).append ?_);simp only[List.cons_append,r7];refine(List.Perm.swap _ _ _).trans (.cons _ ?_);exact(List.Perm.swap _ _ _).trans (.cons _ (.refl _))
 refine q _ loc _ G _ _ h2 _ (h al o) (.refl _) ⟨(.mk es n vals ll rfl hE hV hX),O.nd,O.len,?_⟩ .glob
  ⟨⟨[],os,rfl,b,dU N2 fun p hp=>pm.symm.subset (by simpa using hp),by rw[List.nil_append];exact(List.Perm.nodup_iff (pm.map _)).mp dd⟩,F2,I.nd⟩
 intro p hp
 rcases s8.mp hp with rfl|hp
 ·exact⟨lo,qF hint⟩
 ·exact O.kd p hp
theorem tP{D':Nat}{name:Str}{Q:V->aM->Ob->Prop}(hh:C.A.handled=Option.none)(hm:tT g 1048 name f)(hn:name∉ob.ns)(hD:D'+1<=D)(hx:aF C x)(hv:(x,LV.val (.glob (.ref ob.aS)))∈loc)(he:dJ (.Name x np) name apos pos args C.env)(hs:bA pos args C.env)
  (h:AW g D C ρ JJ args loc none (fun vs l s=>s=none/\Qd g D' ρ f (.glob (.ref ob.aS)::vs) ob (fun r Dw=>Q r l Dw))):
  tH g D C ρ (.Call (.Attribute (.Name x np) name apos) args [] pos) loc ob Q:=by
 refine .of fun ok G fo l m s O I Qr Er q=>?_;obtain⟨pl,he⟩:=he.eq;refine jM I.nW fun os b c d=>?_;refine bQ (b.get hv) fun val e1 e2=>?_;induction e2.out
 refine MethodCall_ (nameX_L I.fr e1 ?_ ok.kind hx.1 hx.2) he;have O':=O;refine O.ex _ ?_
 rintro es n vals ll rfl hE hV hX
 have IA:InstAt s.heap ob.aS (instObj 1048 ob.dS) 1048 (some (dictOf es n)):=InstAt.of_news c (by simp) (by simp);refine method_inst I.fr ok.kB IA hm.pg hm.fi hm.fn (jI hE hn) ?_;refine gK hs hm.kp ?_;refine iR h ok I (fun U U U U U U U z=>z.elim) fun vs cT lF G2 vals2 h2 iC y1 y2 y3 y4 U=>?_;refine⟨ok.kB.keeps y4.fr.keep,?_⟩;obtain⟨rfl,y1⟩:=y1;exact y1.out C (ok.mono hD) hh G2 fo _ m cT (St s h2 iC) _ (O'.mono y2) y4 (.cons .glob y3) Qr Er
  (fun v oM G' l' val h' bH w1 w2 w3 w4 w5=>q v cT oM G' l' val h' bH w1 (y2.trans w2) w3 w4 w5)
theorem Ri{args:List V}{Q:V->Ob->Prop}(h:FW g D ρ (fun U U=>False) f args none (fun v s=>s=none/\Q v ob)):Qd g D ρ f args ob Q:=by
 refine .of fun C ok hh G fo l m loc s vals O I hv Qr Er q=>?_;refine h.out C ok hh G (l++fo) m loc s vals [] I hv .nil Qr Er (fun v bS G' val h' bH z1 z2 z3 z4=>?_) (fun U U U U U U z=>z.elim);obtain⟨rfl,z1⟩:=z1;exact q v ob G' l val h' bH z1 z2 (O.mono z2) z3 z4
@[irreducible] def yS(g:Gl)(D:Nat)(ρ:dN)(f:Addr)(args:List V)(ob:Ob)(Q:V->Ob->Prop):Prop:=
 ∀(C:Cx),iP g (D+1) C->C.A.handled=none->∀G fo l m loc s vals,OR ρ G ob l->cN C ρ G (l++fo) none m loc s.heap->cZ ρ G args vals->∀(Qr:dQ) (Er:dQ),
  Nf C ρ G fo m s loc Q Qr->
  codeAny (model g.prog g.w) C.A (.call (.ref f) ⟨vals,[]⟩) (fun r s'=>match r with|.ok (.ret v)=>Qr v s'|.ok _=>False|.error e=>Er e s') s
theorem yS.of{D:Nat}{args:List V}{Q:V->Ob->Prop}(h:
 ∀(C:Cx),iP g (D+1) C->C.A.handled=none->∀G fo l m loc s vals,OR ρ G ob l->cN C ρ G (l++fo) none m loc s.heap->cZ ρ G args vals->∀(Qr:dQ) (Er:dQ),
  Nf C ρ G fo m s loc Q Qr->
  codeAny (model g.prog g.w) C.A (.call (.ref f) ⟨vals,[]⟩) (fun r s'=>match r with|.ok (.ret v)=>Qr v s'|.ok _=>False|.error e=>Er e s') s):yS g D ρ f args ob Q:=by delta yS;exact h
theorem yS.out{D:Nat}{args:List V}{Q:V->Ob->Prop}(h:yS g D ρ f args ob Q):
 ∀(C:Cx),iP g (D+1) C->C.A.handled=none->∀G fo l m loc s vals,OR ρ G ob l->cN C ρ G (l++fo) none m loc s.heap->cZ ρ G args vals->∀(Qr:dQ) (Er:dQ),
  Nf C ρ G fo m s loc Q Qr->
  codeAny (model g.prog g.w) C.A (.call (.ref f) ⟨vals,[]⟩) (fun r s'=>match r with|.ok (.ret v)=>Qr v s'|.ok _=>False|.error e=>Er e s') s:=by delta yS at h;exact h
theorem yS.wp{args:List V}{Q:V->Ob->Prop}(h:yS g D ρ f args ob Q):Qd g D ρ f args ob Q:=by
 refine .of fun C ok hh G fo l m loc s vals O I hv Qr Er q=>?_;exact wpAny_call (h.out C ok hh G fo l m loc s vals O I hv Qr Er q)
theorem Km{names:List Str}{k:Nat}{args:List V}{Q:V->Ob->Prop}(df:vR g f fd names k [] jF)(others:List Str)(hk:args.length=k)
  (hlen:names.length=(args++jF).length) (hn:(names++others).Nodup) (Cm:(names.all fun x=>decide (fd.scope.names.lookup x=some .local))=true)
  (h:∀C',Bd C' fd->wL g D C' ρ (execs fd.body C'.env) (iQ names (args++jF) others) ob (JT Q)):
  yS g D ρ f args ob Q:=by
 refine df _ fun qual dV fW cY fn Dv hb=>?_;have MD:∀x∈names,fd.scope.names.lookup x=some .local:=fun x hx=>r8 (u5.mp Cm x hx);refine .of fun C ok hh G fo l m loc s vals O I uY Qr Er q=>?_;refine jM I.nW fun os b c d=>?_;refine fn.lk _ fun oc od name kV doc pm an ct uI lk=>?_;have Fu:=uY.length;have hz:names.length=(vals++cY).length:=by
  rw[hlen,q6,q6 (as:=vals),Fu,(Dv ρ G).length]
 have LY:BindsTo s (fnOf name qual fd.args fd.body fd.scope dV kV doc pm an fW ct) ⟨vals,[]⟩ (names.zip (vals++cY)):=by
  have:=hb vals [] (Fu.trans hk) rfl s (ok.kB.keeps I.fr.keep) name kV doc pm an ct
  simpa using this
 refine(code_def ok.below I.fr ok.kB c ok.top ok.frames rfl ok.kind lk fn.cd ok.room LY (fun y hy=>MD _ ?_) (fun hp L' oV Fg F' N' B' X' T'=>?_) fn.co fn.gen fn.kd fn.cell)
 ·have:=List.mem_map_of_mem (f:=(·.1)) hy
  rwa [lU hz] at this
 ·have SS:names.Nodup:=(List.nodup_append.mp hn).1;have AN:∀p∈names.zip (vals++cY),(names.zip (vals++cY)).reverse.lookup p.1=some p.2:=fun p hp=>kU (by
   rw[List.map_reverse,lU hz];exact List.pairwise_reverse.mpr (SS.imp fun h=>h.symm)) (List.mem_reverse.mpr hp)
  have WW:(os++((l++fo)++G)).Perm ((l++(os++fo))++G):=by
   rw[←r7,←r7,←r7];exact(List.perm_append_comm.append_right fo).append_right G
  have I':cN (oB C qual fd.scope L' f fW hp) ρ G (l++(os++fo)) none (fun y=>(names.zip (vals++cY)).reverse.lookup y) (iQ names (args++jF) others) oV:=by
   refine⟨⟨[],[],rfl,Ai (uY.append (Dv ρ G)) hlen AN,?_,?_⟩,F',?_⟩
   ·exact dU N' fun p hp=>WW.symm.subset (by simpa using hp)
   ·rw[List.nil_append,List.nil_append];exact(List.Perm.nodup_iff (WW.map _)).mp d
   ·rw[qV hlen];exact hn
  refine(h (oB C qual fd.scope L' f fW hp) ⟨rfl,hh⟩).out (zW ok B' X' T' fn.kd) G (os++fo) l _ (St s oV _) O I' _ _ (fun fl aG oM G' l' m' fv h' bH z1 z2 z3 z4 z5=>?_);refine jM z5.nW fun vO b' c' d'=>?_;have sl:(os++((l'++fo)++G'))⊆(vO++((l'++(os++fo))++G')):=by
   intro p hp;simp only[List.mem_append] at hp⊢
   rcases hp with h|(h|h)|h<;>simp[h]
  have d2:((os++((l'++fo)++G')).map (·.1)).Nodup:=by
   have d3:=gP d' (a:=(l'++(os++fo))++G') (List.sublist_append_right _ _);refine(List.Perm.nodup_iff (List.Perm.map _ ?_)).mp d3;rw[←r7,←r7,←r7];exact(List.perm_append_comm.append_right fo).append_right G'
  have key:∀v val,Q v oM->VR ρ G' v val->LeaveK C.h₀ C.L m hp (fun r s'=>match r with|.ok (.ret v)=>Qr v s'|.ok _=>False|.error e=>Er e s') val (St s h' bH):=fun v val hq hv=>
   ⟨L',m',os++((l'++fo)++G'),z5.fr,dU c' sl,fun kF kN=>q v oM G' l' val h' bH hq z2 z3 hv ⟨⟨[],os,rfl,b.mono z2,kN,d2⟩,kF,I.nd⟩⟩
  induction z4 with
  |next=>exact key .none .none z1 .none
  |brk=>exact z1.elim
  |cont=>exact z1.elim
  |ret hv=>exact key _ _ z1 hv
theorem Rh{names:List Str}{k:Nat}{args:List V}{Q:V->Ob->Prop}(df:vR g f fd names k [] jF)(others:List Str)(hk:args.length=k)
  (hlen:names.length=(args++jF).length) (hn:(names++others).Nodup) (Cm:(names.all fun x=>decide (fd.scope.names.lookup x=some .local))=true)
  (h:∀C',Bd C' fd->wL g D C' ρ (execs fd.body C'.env) (iQ names (args++jF) others) ob (JT Q)):
  Qd g D ρ f args ob Q:=(Km df others hk hlen hn Cm h).wp
end
section
variable{D:Nat}
theorem GI(F:aP g){c:Nat}{X:nA}{Q:mF}(h:Q (.bool (zG c)) σ):FW g 0 ρ X 130 [sv [c]] σ Q:=by
 refine cK (F.d 46 rfl) [] rfl rfl (by kernel_rfl) fun C' B=>?_;have DI:∀{a b:Str} {a' b':Nat} {ka kb:Nat} {pa pb q r:Pos} {Q:tU},a.cps.toList=[a']->b.cps.toList=[b']->Q (.bool (decide (a'<=c)&&decide (c<=b'))) [("ch",.val (sv [c]))] σ->
   EW g 0 C' ρ (fun x U s=>X x s) (.Compare (.Constant (.str a) ka pa) [.LtE,.LtE] [.Name "ch" q,.Constant (.str b) kb pb] r) [("ch",.val (sv [c]))] σ Q:=by
  intro a b a' b' ka kb pa pb q r Q ea eb hq;refine Xm rfl (aB (bY (B.loc rfl rfl) (.head _) (vV ea rfl ⟨fun hb=>?_,fun hb=>aB (vV rfl eb ?_)⟩)))
  ·rw[hb] at hq;exact hq
  ·rw[hb] at hq;exact hq
 refine bW (bV (mA (oN rfl (bY (B.loc rfl rfl) (.head _) (aB (fJ [9,10,13,133] rfl ?_))))));unfold zG at h;cases h1:isIn [9,10,13,133] c with
 |true=>rw[h1] at h;exact⟨fun U=>h,fun h=>(by cases h)⟩
 |false=>
 rw[h1] at h;refine⟨fun h=>(by cases h),fun U=>mA (DI (a':=32) (b':=126) rfl rfl ?_)⟩;cases h2:(decide (32<=c)&&decide (c<=126)) with
 |true=>rw[h2] at h;exact⟨fun U=>h,fun h=>(by cases h)⟩
 |false=>
 rw[h2] at h;refine⟨fun h=>(by cases h),fun U=>mA (DI (a':=160) (b':=55295) rfl rfl ?_)⟩;cases h3:(decide (160<=c)&&decide (c<=55295)) with
 |true=>rw[h3] at h;exact⟨fun U=>h,fun h=>(by cases h)⟩
 |false=>
 rw[h3] at h;refine⟨fun h=>(by cases h),fun U=>mA (DI (a':=57344) (b':=65533) rfl rfl ?_)⟩;cases h4:(decide (57344<=c)&&decide (c<=65533)) with
 |true=>rw[h4] at h;exact⟨fun U=>h,fun h=>(by cases h)⟩
 |false=>
 rw[h4] at h;exact⟨fun h=>(by cases h),fun U=>wD (DI (a':=65536) (b':=1114111) rfl rfl h)⟩
theorem sM(F:aP g){r:Value}(hp:∀c∈x.cps.toList,zG c=true){Q:mF}(h:Q .none none):FW g 1 ρ (fun U U=>False) 182 [.glob r,.str x] none Q:=by
 refine cK (F.d 6 rfl) ["start","character","position"] rfl rfl (by kernel_rfl) fun C' B=>?_;refine bW (Ig B.hh (B.loc rfl rfl) (B.loc rfl rfl) (by rw[B.cs];rfl) rfl x (fun U l=>∃a b,l=([("self",.val (.glob r)),("data",.val (.str x)),("start",a),("character",b),("position",.un)]:aM)/\a.flat=true/\b.flat=true) ?_ ?_ ?_ ?_ (fun U=>rfl) ?_)
 ·rintro i l ⟨a,b,rfl,ha,hb⟩
  exact(q9 _ _).mpr ⟨rfl,(q9 _ _).mpr ⟨rfl,(q9 _ _).mpr ⟨ha,(q9 _ _).mpr ⟨hb,rfl⟩⟩⟩⟩
 ·exact dY (F.n 4 rfl) rfl (aR rfl) (B.glob rfl) rfl ⟨rfl,aE B 1 rfl rfl rfl ⟨rfl,rfl,.un,.un,rfl,rfl,rfl⟩⟩
 ·rintro i c l hc ⟨a,b,rfl,ha,hb⟩
  refine(Rk _ _ (.cM 2 rfl rfl) (.cM 3 rfl rfl) ?_);refine bW (kI (gJ (bZ (fun U=>rfl) (gY (D':=0) B.hh F.CX (aR rfl) rfl (cR (F.gl 17 rfl) (B.glob rfl) rfl ⟨rfl,bY (B.loc rfl rfl) (.tail _ (.tail _ (.tail _ (.head _)))) (GI F ?_)⟩)))));have:zG c=true:=hp c (by rw[←Array.getElem?_toList] at hc;exact List.mem_of_getElem? hc);rw[this];exact⟨fun h=>(by cases h),fun U=>aC (aC ⟨rfl,rfl,_,_,rfl,rfl,rfl⟩)⟩
 ·rintro l _
  exact aC h
 ·show((C'.cs.kind==.class||(C'.cs.kind==.module&&C'.env.locals !=C'.env.globals))=false);rw[B.cs];rfl
variable{C:Cx}{loc:aM}
theorem Xl{vA:Str}{kp:Pos}{e0:Expr}{ek:Expr}{n:Nat}{Q:V->aM->Ob->Prop}
  (co:Mq g Cl l n vA) (hn:n=args.length+1) (hD:2<=D) (hs:bA pos (e0::args) C.env) (WE:starEach (e0::args) C.env=(false,eval e0 C.env)::starEach args C.env)
  (h:EW g D C ρ JJ (.Name x np) loc none (fun v l1 s=>v=.glob (.ref Cl)/\AW g D C ρ JJ (e0::args) l1 s (fun vs l2 s=>s=none/\vs.length=args.length+1/\tH g D C ρ ek l2 ob (fun u l3 oM=>Q (.inst Cl (l.map (·.1)) (vs++[u])) l3 oM)))):
  tH g D C ρ (.Call (.Name x np) (e0::args) [⟨some vA,ek,kp⟩] pos) loc ob Q:=by
 refine co _ fun fI qual params body scope dV fW sf KZ hlen hb=>?_;subst hn;refine .of fun ok G fo l' m s O I Qr Er q=>?_;show wpAny _ _ (do callWith pos (←eval (.Name x np) C.env) [] (backTo pos (starEach (e0::args) C.env)) (backToKw pos (keywordEach [⟨some vA,ek,kp⟩] C.env))) _ _ _;refine q8 (bI h ok I (fun U U U U U U U z=>z.elim) fun v dA jA G1 val h1 fN z1 z2 z3 z4 U=>?_);obtain⟨rfl,z⟩:=z1;induction z3.out
 have Jd:((backTo pos (starEach (e0::args) C.env)).any (·.1)||(backToKw pos (keywordEach [⟨some vA,ek,kp⟩] C.env)).any (·.1.isNone))=false:=by
  have Ol:=hs;have Ol:=Ol.eq;rw[Ol];have:((e0::args).map fun e=>((false:Bool),eval e C.env)).any (·.1)=false:=by simp[List.any_map,Function.comp_def]
  rw[this];rfl
 refine callWith_KW ok.kB KZ.kp rfl ?_ Jd WE;have Qk:=hs;have Qk:=Qk.eq;rw[Qk];refine iR z ok (s:=(St s h1 fN)) z4 (fun U U U U U U U z=>z.elim) fun vs cT lF G2 vals2 h2 iC y1 y2 y3 y4 U=>?_;refine lZ y1 ?_;try clear y1;intro fE uY y1;subst fE;refine kwAll_cons (y1.out ok G2 fo l' m (St s h2 iC) (O.mono fun p hp=>y2 p (z2 p hp)) y4 _ _ fun u pR i7 G3 l3 OI h3 Kb x1 x2 x3 x4 x5=>?_);refine kwAll_nil ?_;refine⟨ok.kB.keeps x5.fr.keep,?_⟩;have Fu:=y3.length;refine uA (D:=D-2) KZ (ok.mono (r9 (Nat.sub_add_cancel hD))) (s:=(St s h3 Kb)) x5 (as:=vs++[u]) (hO:=vals2++[OI]) ((y3.mono x2).append (.cons x4 .nil)) (by rw[hlen,q6,uY];rfl) (hb vals2 OI (by rw[Fu,uY])) fun G' val h' bH w1 w2 w3=>?_;exact q _ pR i7 G' l3 val h' bH x1 (fun p hp=>w1 p (x2 p (y2 p (z2 p hp)))) (x3.mono w1) w2 w3
theorem Hr{Q:V->aM->Ob->Prop}(he:dJ o "append" apos pos [e] C.env)(hs:bA pos [e] C.env)
  (h:tH g D C ρ o loc ob (fun v l s=>∃a vs r,v=.glob (.ref a)/\s.xs=(a,vs)::r/\vs.length<=1000/\tH g D C ρ e l s (fun v l' s'=>s'=s/\Q .none l' {s with xs:=(a,vs++[v])::r}))):
  tH g D C ρ (.Call (.Attribute o "append" apos) [e] [] pos) loc ob Q:=by
 refine .of fun ok G fo l m s O I Qr Er q=>?_;obtain⟨pl,he⟩:=he.eq;refine MethodCall_ (h.out ok G fo l m s O I _ _ fun v dA g9 G1 l1 val h1 fN z1 z2 z3 z4 z5=>?_) he;refine Hq z1 fun a vs r fE WH Fu z=>?_;subst fE;induction z4.out
 refine jM z5.nW fun os b c d=>?_;have m7:=z3;refine z3.ex _ ?_
 rintro es n vals ll rfl hE hV hX
 rw[WH] at hX;induction hX.out with
 | @cons tn ll tv hT VN=>
 refine jU (s:=(St s h1 fN)) c (Dl:=a) (its:=tv.toArray) (n:=tn) (by simp) PySem.F.slot_list_append PySem.F.type_list_append hs ?_;refine spliced_cons (z.out ok G1 fo _ m (St s h1 fN) m7 z5 _ _ fun v2 cT Dw G2 l2 Dr h2 iC y1 y2 y3 y4 y5=>?_);refine spliced_nil ?_;obtain⟨rfl,y1⟩:=y1;refine jM y5.nW fun qX b2 c2 d2=>?_;refine y3.ex _ ?_
 rintro OY n2 vals2 Wy rfl YK YP PE
 rw[WH] at PE;induction PE.out with
 | @cons XE Wy XG VL YQ=>
 have eq1:∀o,qX++(((Dw.aS,instObj 1048 Dw.dS)::(Dw.dS,dictOf OY n2)::(Dw.kd++((a,o)::Wy))++fo)++G2)=(qX++(Dw.aS,instObj 1048 Dw.dS)::(Dw.dS,dictOf OY n2)::Dw.kd)++(a,o)::((Wy++fo)++G2):=by intro o;simp
 rw[eq1] at c2 d2;obtain⟨s1,s2⟩:=gH d2;show wpAny (model g.prog g.w) C.A (call (.builtin "list.append") [.ref a,Dr]) _ _ (St s h2 iC);refine append_K (s:=(St s h2 iC)) y5.fr c2 (lY s1 s2) (fun h' F' N'=>?_) (by rw[v8,VL.length];unfold sizeLine;exact q5 Fu (aR rfl));rw[List.push_toArray] at N';refine q .none cT _ G2 ((Dw.aS,instObj 1048 Dw.dS)::(Dw.dS,dictOf OY n2)::(Dw.kd++((a,W.listOf (XG++[Dr]).toArray (XE+1))::Wy))) .none h' _ y1 (z2.trans y2) ⟨(.mk OY n2 vals2 ((a,W.listOf (XG++[Dr]).toArray (XE+1))::Wy) rfl YK YP (.cons (VL.append (.cons y4 .nil)) YQ)),y3.nd,y3.len,y3.kd⟩ .none ⟨⟨[],qX,rfl,b2,?_,?_⟩,F',y5.nd⟩
 ·rw[List.nil_append,eq1];exact N'
 ·rw[List.nil_append,eq1];exact iZ d2
end
section
variable{D:Nat}{C:Cx}{loc:aM}
noncomputable def JN(g:Gl)(D:Nat)(C:Cx)(ρ:dN):List Expr->aM->Ob->(List V->aM->Ob->Prop)->Prop
 |[],loc,ob,Q=>Q [] loc ob
 |e::r,loc,ob,Q=>tH g D C ρ e loc ob (fun v l s=>JN g D C ρ r l s (fun vs=>Q (v::vs)))
theorem JN.run{loc:aM}{Q:List V->aM->Ob->Prop}(h:JN g D C ρ args loc ob Q)(ok:iP g D C){G fo l m s:_}(O:OR ρ G ob l)(I:cN C ρ G (l++fo) none m loc s.heap){t:List Value->Shared->Prop}
  (k:∀vs aG oM G' l' vals h' bH,Q vs aG oM->Sub G G'->OR ρ G' oM l'->cZ ρ G' vs vals->cN C ρ G' (l'++fo) none m aG h'->t vals (St s h' bH)):
  wpAny (model g.prog g.w) C.A (spliced (args.map fun e=>(false,eval e C.env))) t Er s:=by
 induction args generalizing loc ob Q G l s t with
 |nil=>exact spliced_nil (k [] loc ob G l [] s.heap s.toks h (.refl _) O .nil I)
 |cons e r ih=>
  refine spliced_cons (h.out ok G fo l m s O I _ _ fun v dA g9 G1 l1 val h1 fN z1 z2 z3 z4 z5=>?_);refine ih z1 (s:=(St s h1 fN)) z3 z5 fun vs cT Dw G2 l2 vals h2 iC y1 y2 y3 y4 y5=>?_;exact k (v::vs) cT Dw G2 l2 (val::vals) h2 iC y1 (fun p hp=>y2 p (z2 p hp)) y3 (.cons (z4.mono y2) y4) y5
theorem Xk{n:Nat}{Q:V->aM->Ob->Prop}(co:qJ g Cl l n [])(hn:n=args.length)(hD:2<=D)(hs:bA pos args C.env)
  (h:EW g D C ρ JJ (.Name x np) loc none (fun v l1 s=>v=.glob (.ref Cl)/\s=none/\JN g D C ρ args l1 ob (fun vs l2 oM=>vs.length=args.length/\Q (.inst Cl (l.map (·.1)) vs) l2 oM))):
  tH g D C ρ (.Call (.Name x np) args [] pos) loc ob Q:=by
 refine co _ fun fI qual params body scope dV fW sf cY KZ Dv hlen hb=>?_;subst hn;refine .of fun ok G fo l' m s O I Qr Er q=>?_;refine wpAny_Call_ofName (bI h ok I (fun U U U U U U U z=>z.elim) fun v dA jA G1 val h1 fN z1 z2 z3 z4 U=>?_);refine lZ z1 fun fE qR z=>?_;subst fE qR;induction z3.out
 refine gK (first:=[]) hs KZ.kp ?_;refine JN.run z ok (s:=(St s h1 fN)) (O.mono z2) z4 fun vs cT Dw G2 l2 vals2 h2 iC y1 y2 y3 y4 y5=>?_;refine⟨ok.kB.keeps y5.fr.keep,?_⟩;have ZA:cY=[]:=by have:=Dv ρ G2;cases this;rfl
 have Zz:=hb vals2 (by rw[y4.length,y1.1]);rw[ZA,w8] at Zz;refine uA (D:=D-2) KZ (ok.mono (r9 (Nat.sub_add_cancel hD))) (s:=(St s h2 iC)) y5 (as:=vs) (hO:=vals2) y4 (by rw[hlen,y1.1];rfl) Zz fun G' val h' bH w1 w2 w3=>?_;exact q _ cT Dw G' l2 val h' bH y1.2 (fun p hp=>w1 p (y2 p (z2 p hp))) (y3.mono w1) w2 w3
theorem Hl{k:Nat}{Q:Bool->aM->Ob->Prop}(h:tH g D C ρ e loc ob (fun v l s=>∃b,v.isNone=some b/\Q b l s)):Xe g D C ρ (.Compare e [.Is] [.Constant .none k cp] pos) loc ob Q:=by
 refine .of fun ok G fo l m s w O I ew Qr Er q=>?_;refine wpAny_isTrue_Compare1 (h.out ok G fo l m s O I _ _ fun v aG oM G' l' val h' bH z1 z2 z3 z4 z5=>?_) rfl;refine bQ z1 fun b hb z1=>?_;refine wpAny_Constant_none ?_;have e:=sP hb z4;exact PyProof.Rows.is_none_gen (wpAny_truthy_bool (by rw[e];exact q b aG oM G' l' h' bH z1 z2 z3 z5))
def Sd(aS dS:Addr)(k:Nat)(x:Str)(Q:Fl->aM->Ob->Prop)(v:V)(l:aM)(s:Ob):Prop:=∀Ω:Prop,(∀(vs:List V) (xs:List (Addr×List V)) (kd:List (Addr×Obj)),s=⟨aS,dS,aJ.take k,vs,xs,kd⟩->(x,LV.val (.glob (.ref aS)))∈l->Q .next l ⟨aS,dS,aJ.take (k+1),vs++[v],xs,kd⟩->Ω)->Ω
theorem Sd.mk{k:Nat}{Q:Fl->aM->Ob->Prop}{v:V}{l:aM}{s:Ob}(vs:List V)(xs:List (Addr×List V))(kd:List (Addr×Obj))(e:s=⟨aS,dS,aJ.take k,vs,xs,kd⟩)(h:(x,LV.val (.glob (.ref aS)))∈l)(q:Q .next l ⟨aS,dS,aJ.take (k+1),vs++[v],xs,kd⟩):Sd aS dS k x Q v l s:=fun U φ=>φ vs xs kd e h q
theorem dR{xs:List (Addr×List V)}{kd:List (Addr×Obj)}{name:Str}{Q:Fl->aM->Ob->Prop}(F:aP g)(k:Nat)(hk:aJ[k]?=some name)(hx:aF C x)(hs:swapsWith e (some (.Attribute (.Name x np) name p)) pos.line C.env=pure false)
  (h:tH g D C ρ e loc ⟨aS,dS,aJ.take k,vs,xs,kd⟩ (Sd aS dS k x Q)):
  wL g D C ρ (exec (.Assign [.Attribute (.Name x np) name p] e pos) C.env) loc ⟨aS,dS,aJ.take k,vs,xs,kd⟩ Q:=by
 refine Kt F (List.mem_of_getElem? hk) hx hs (h.mono fun v l s q=>?_);refine q _ ?_;clear q
 rintro vs xs kd rfl hm q
 refine⟨hm,.inl (fH (fun CT=>?_) ?_ ?_)⟩
 ·obtain⟨i,hi⟩:=List.mem_iff_getElem?.mp CT;rw[List.getElem?_take] at hi
  split at hi
  ·rename_i oH
   have ZG:=(List.getElem?_eq_some_iff.mp hk).1;have:=(List.getElem?_inj (i:=i) (j:=k) (Nat.lt_trans oH ZG) gQ).mp (hi.trans hk.symm);exact absurd this (Nat.ne_of_lt oH)
  ·cases hi
 ·show(aJ.take k).length<=50;rw[List.length_take];have:aJ.length=20:=rfl;exact q5 (Nat.min_le_right ..) (aR rfl)
 ·have:aJ.take k++[name]=aJ.take (k+1):=by rw[List.take_add_one,hk];rfl
  show Q .next l ⟨aS,dS,aJ.take k++[name],vs++[v],xs,kd⟩;rw[this];exact q
theorem Eo{xs:List (Addr×List V)}{kd:List (Addr×Obj)}{name:Str}{Q:Fl->aM->Ob->Prop}(F:aP g)(i:Nat)(hn:name∈aJ)(hi:ns[i]?=some name)(hx:aF C x)(hs:swapsWith e (some (.Attribute (.Name x np) name p)) pos.line C.env=pure false)
  (h:tH g D C ρ e loc ⟨aS,dS,ns,vs,xs,kd⟩ (fun v l s=>∃vs xs kd,s=⟨aS,dS,ns,vs,xs,kd⟩/\(x,LV.val (.glob (.ref aS)))∈l/\Q .next l ⟨aS,dS,ns,vs.set i v,xs,kd⟩)):
  wL g D C ρ (exec (.Assign [.Attribute (.Name x np) name p] e pos) C.env) loc ⟨aS,dS,ns,vs,xs,kd⟩ Q:=by
 refine Kt F hn hx hs (h.mono fun v l s q=>?_);refine Xi q ?_;try clear q;intro vs xs kd fE hm q;subst fE;exact⟨hm,.inr (fG i hi q)⟩
noncomputable def pW(b:Str):List V:=[.str "<unicode string>",.none,.int 0,.bool true,.str b,.int 0,.none,.none,.none,.int 0,.int 0,.int 0]
theorem Iy(F:aP g){xs:List (Addr×List V)}{kd:List (Addr×Obj)}(hp:∀c∈x.cps.toList,zG c=true)(hl:x.length<=99999){Q:V->Ob->Prop}(h:Q .none ⟨aS,dS,aJ.take 12,pW (x++"\x00"),xs,kd⟩):
  yS g 2 ρ 144 [.glob (.ref aS),.str x] ⟨aS,dS,[],[],xs,kd⟩ Q:=by
 refine Km (F.d 47 rfl) [] rfl rfl (aR rfl) (by decide+kernel) fun C' B=>?_;refine cG (dR F 0 rfl (B.loc rfl rfl) rfl (dX (bT ⟨rfl,.mk _ _ _ rfl (.head _) ?_⟩)));refine cG (dR F 1 rfl (B.loc rfl rfl) rfl (dX (bT ⟨rfl,.mk _ _ _ rfl (.head _) ?_⟩)));refine cG (dR F 2 rfl (B.loc rfl rfl) rfl (dX (aQ ⟨rfl,.mk _ _ _ rfl (.head _) ?_⟩)));refine cG (dR F 3 rfl (B.loc rfl rfl) rfl (dX (cC ⟨rfl,.mk _ _ _ rfl (.head _) ?_⟩)));refine cG (dR F 4 rfl (B.loc rfl rfl) rfl (dX (aB ⟨rfl,.mk _ _ _ rfl (.head _) ?_⟩)));refine cG (dR F 5 rfl (B.loc rfl rfl) rfl (dX (aQ ⟨rfl,.mk _ _ _ rfl (.head _) ?_⟩)));refine cG (dR F 6 rfl (B.loc rfl rfl) rfl (dX (bT ⟨rfl,.mk _ _ _ rfl (.head _) ?_⟩)));refine cG (dR F 7 rfl (B.loc rfl rfl) rfl (dX (bT ⟨rfl,.mk _ _ _ rfl (.head _) ?_⟩)));refine cG (dR F 8 rfl (B.loc rfl rfl) rfl (dX (bT ⟨rfl,.mk _ _ _ rfl (.head _) ?_⟩)));refine cG (dR F 9 rfl (B.loc rfl rfl) rfl (dX (aQ ⟨rfl,.mk _ _ _ rfl (.head _) ?_⟩)));refine cG (dR F 10 rfl (B.loc rfl rfl) rfl (dX (aQ ⟨rfl,.mk _ _ _ rfl (.head _) ?_⟩)));refine cG (dR F 11 rfl (B.loc rfl rfl) rfl (dX (aQ ⟨rfl,.mk _ _ _ rfl (.head _) ?_⟩)));refine cG (Ks (Qq (bZ (fun U=>rfl) (Mz rfl (dY (F.n 3 rfl) rfl (aR rfl) (B.glob rfl) rfl ⟨rfl,aE B 1 rfl rfl rfl (dY (F.n 2 rfl) rfl (aR rfl) (B.glob rfl) rfl ⟨x,rfl,⟨rfl,fun U=>?_,fun h=>by cases h⟩⟩)⟩)))));refine cG (Eo F 0 (by simp[aJ]) rfl (B.loc rfl rfl) rfl (dX (aB ⟨rfl,_,_,_,rfl,.head _,?_⟩)));refine cG (wM (B.int rfl) rfl (tP (D':=1) B.hh (F.m 4 rfl) (by show _∉aJ.take 12;decide+kernel) (aR rfl) (B.loc rfl rfl) (.head _) ⟨_,rfl⟩ rfl (aE B 1 rfl rfl rfl ⟨rfl,Ri (sM F hp ⟨rfl,?_⟩)⟩)));refine cG (Eo F 4 (by simp[aJ]) rfl (B.loc rfl rfl) rfl (dX (Bi (bY (B.loc rfl rfl) (.tail _ (.head _)) (aB (.mk _ _ rfl rfl ?_ ⟨rfl,_,_,_,rfl,.head _,?_⟩))))))
 ·show x.length+1<=_;unfold sizeLine;exact v9 hl (aR rfl)
 ·exact vS (vS h)
noncomputable def AX(aS dS aT:Addr)(b:Str)(ts:List V):Ob:=⟨aS,dS,aJ.take 15,pW b++[.bool false,.int 0,.glob (.ref aT)],[(aT,ts)],[]⟩
theorem Tv(F:aP g){aT:Addr}{b:Str}{ts:List V}{Q:V->Ob->Prop}(h:Q (kZ b 0 0 0) (AX aS dS aT b ts)):Qd g 2 ρ 175 [.glob (.ref aS)] (AX aS dS aT b ts) Q:=by
 refine Rh (F.d 5 rfl) [] rfl rfl (aR rfl) (by decide+kernel) fun C' B=>?_;refine cG (Ks (Hl (jN (i:=1) (F.attr _ (by simp[aJ])) (B.loc rfl rfl) (.head _) rfl rfl (.inl rfl) rfl (tS true rfl (fun U=>?_) (fun h=>by cases h)))));refine cG (Yf (Xk (F.c 0 rfl) rfl (aR rfl) rfl (cR (F.gl 0 rfl) (B.glob rfl) rfl (fH rfl rfl ?_))));refine jN (i:=0) (F.attr _ (by simp[aJ])) (B.loc rfl rfl) (.head _) rfl rfl (.inl rfl) rfl ?_;refine jN (i:=9) (F.attr _ (by simp[aJ])) (B.loc rfl rfl) (.head _) rfl rfl (.inl rfl) rfl ?_;refine jN (i:=10) (F.attr _ (by simp[aJ])) (B.loc rfl rfl) (.head _) rfl rfl (.inl rfl) rfl ?_;refine jN (i:=11) (F.attr _ (by simp[aJ])) (B.loc rfl rfl) (.head _) rfl rfl (.inl rfl) rfl ?_;refine jN (i:=4) (F.attr _ (by simp[aJ])) (B.loc rfl rfl) (.head _) rfl rfl (.inl rfl) rfl ?_;refine jN (i:=5) (F.attr _ (by simp[aJ])) (B.loc rfl rfl) (.head _) rfl rfl (.inl rfl) rfl ?_;exact⟨rfl,h⟩
theorem vM(F:aP g){aT:Addr}{b:Str}{Q:V->Ob->Prop}(h:Q .none (AX aS dS aT b [nM (kZ b 0 0 0) (kZ b 0 0 0) .none])):Qd g 3 ρ 636 [.glob (.ref aS)] (AX aS dS aT b []) Q:=by
 refine Rh (F.d 17 rfl) ["mark"] rfl rfl (aR rfl) (by decide+kernel) fun C' B=>?_;refine cG (Ib rfl (B.loc rfl rfl) (tP (D':=2) B.hh (F.m 3 rfl) (by show _∉aJ.take 15;decide+kernel) (aR rfl) (B.loc rfl rfl) (.head _) ⟨_,rfl⟩ rfl ⟨rfl,Tv F (fG _ (.cM 1 rfl rfl) ?_)⟩));refine cG (wM (B.int rfl) rfl (Hr ⟨_,rfl⟩ rfl (jN (i:=14) (F.attr _ (by simp[aJ])) (B.loc rfl rfl) (.head _) rfl rfl (.inr ⟨_,rfl⟩) rfl (pF aT ([]) ([]) rfl rfl (aR rfl) ?_))));refine Xl F.CL rfl (aR rfl) rfl rfl (cR (F.gl 19 rfl) (B.glob rfl) rfl ⟨rfl,aE B 1 rfl rfl rfl (aE B 1 rfl rfl rfl ⟨rfl,rfl,?_⟩)⟩);refine jN (i:=8) (F.attr _ (by simp[aJ])) (B.loc rfl rfl) (.head _) rfl rfl (.inl rfl) rfl ⟨rfl,?_⟩;exact vS h
end
mutual
noncomputable def V.free:V->Bool
 |.self=>false
 |.toks=>false
 |.oW=>false
 |.inst _ _ vs=>V.frees vs
 |.tup vs=>V.frees vs
 |.lst vs=>V.frees vs
 |.Lf _ _ _ vs=>V.frees vs
 |_=>true
noncomputable def V.frees:List V->Bool
 |[]=>true
 |v::vs=>v.free&&V.frees vs
end
theorem VR.lay{v:V}{val:Value}(x:VR ρ G v val):v.free=true->VR ρ' G v val:=
 VR.rec (motive_1:=fun v val U=>v.free=true->VR ρ' G v val) (motive_2:=fun vs vals U=>V.frees vs=true->cZ ρ' G vs vals) (fun U=>.none) (fun U=>.bool) (fun U=>.int) (fun U=>.str) (fun U=>.glob) (fun a b c U d h=>.inst a b c (d h)) (fun a b c U d h=>.Ir a b c (d h)) (fun a U d h=>.tup a (d h)) (fun a U d h=>.lst a (d h)) (fun a b c U d h=>.Lf a b c (d h)) (fun h=>Bool.noConfusion h) (fun h=>Bool.noConfusion h) (fun h=>Bool.noConfusion h) (fun U=>.Cr) (fun U=>.nil) (fun U U a b h=>.cons (a ((q9 _ _).mp h).1) (b ((q9 _ _).mp h).2)) x
theorem cZ.lay{ρ ρ':dN}{G:cE}{vs:List V}{vals:List Value}(x:cZ ρ G vs vals)(h:V.frees vs=true):cZ ρ' G vs vals:=by
 induction vs generalizing vals with
 |nil=>induction x.out;exact .nil
 |cons v vs ih=>induction x.out with|cons a b=>exact .cons (a.lay ((q9 _ _).mp h).1) (ih b ((q9 _ _).mp h).2)
noncomputable def LV.free:LV->Bool
 |.un=>true
 |.val v=>v.free
 |.ml vs=>V.frees vs
theorem uR.lay{ρ ρ':dN}{G:cE}{m:mZ}{x:Str}{lv:LV}{o:cE}(h:uR ρ G m x lv o)(hf:lv.free=true):uR ρ' G m x lv o:=by
 cases lv with
 |un=>exact h
 |val v=>induction h.out with|val a b=>exact .val a (b.lay hf)
 |ml vs=>induction h.out with|ml a b=>exact .ml a (b.lay hf)
theorem cU.lay{ρ ρ':dN}{G:cE}{m:mZ}{loc:aM}{os:cE}(h:cU ρ G m loc os)(hf:(loc.all fun p=>p.2.free)=true):cU ρ' G m loc os:=by
 induction h with
 |nil=>exact .nil
 |cons h _ ih=>
  obtain⟨h1,h2⟩:=(q9 _ _).mp hf;exact .cons (h.lay h1) (ih h2)
def Sf(g:Gl):Prop:=∀Ω:Prop,(∀(oc od uI name qual kV doc pm an ct cda Qg Qi vs Qh file tf:_) (a:g.K.lookup 550=some ⟨oc,od,.func (ksFn name qual (aU 34 0).args (aU 34 0).body (aU 34 0).scope .none kV doc pm an (.ref cda) ct 538),uI⟩) (b:codeIn g.K (.ref cda) qual=true) (c:g.K.lookup cda=some ⟨Qg,Qi,.fields vs,Qh⟩) (d:vs[2]?=some (.str file tf)) (e:((g.prog.main.file:Str)==file)=true),Ω)->Ω
theorem Sf.mk(oc od uI name qual kV doc pm an ct cda Qg Qi vs Qh file tf:_)(a:g.K.lookup 550=some ⟨oc,od,.func (ksFn name qual (aU 34 0).args (aU 34 0).body (aU 34 0).scope .none kV doc pm an (.ref cda) ct 538),uI⟩)(b:codeIn g.K (.ref cda) qual=true)(c:g.K.lookup cda=some ⟨Qg,Qi,.fields vs,Qh⟩)(d:vs[2]?=some (.str file tf))(e:((g.prog.main.file:Str)==file)=true):Sf g:=fun U φ=>φ oc od uI name qual kV doc pm an ct cda Qg Qi vs Qh file tf a b c d e
structure Bv(g:Gl):Prop where
 TS:makesIn g.K 1048=true
 MS:findIn g.K (.ref 1048) "__init__"=some (some (.ref 550))
 MT:isFn g.K (.ref 550)=true
 kp:keepIn g.K (.ref 1048)=true
 fn:Sf g
 cell:∃cl Yt Yu,g.K.lookup 538=some ⟨cl,Yt,.cell (some (.ref 1048)),Yu⟩
 cls:∃cd,clsIn g.K 1048=some cd
 mro:mroIn g.K 1048 (.ref 1048)=some true
 sup:nsIn g.K mainGlobals "super"=some none
 top:(g.prog.main.scope.names.lookup ("super":Str)).isSome=false
 i8:nsIn g.K cStatics "thirdparty.any"=some none
 sin:ks_superIn g.K 1048 1048 "__init__"=some (some (.ref 144))
 ty:typeIn g.K (.ref 144)=some (.type "function")
 fi:fnIn g.K 144=true
section
variable{D:Nat}{C:Cx}{loc:aM}
theorem Dh(F:aP g){C':Cx}(B:Bd C' (aU 34 0)){b:Str}{sv':V}:
  wL g 5 C' ρ (execs ((aU 34 0).body.drop 1) C'.env) [("self",.val (.glob (.ref aS))),("stream",.val sv')] ⟨aS,dS,aJ.take 12,pW b,[],[]⟩
   (fun fl U s=>fl=.next/\∃aT aI aK oK,s=⟨aS,dS,aJ,pW b++[.bool false,.int 0,.glob (.ref aT),.int 0,.int (-1),.glob (.ref aI),.bool true,.glob (.ref aK)],[(aI,[]),(aT,[nM (kZ b 0 0 0) (kZ b 0 0 0) .none])],[(aK,oK)]⟩):=by
 refine cG (dR F 12 rfl (B.loc rfl rfl) rfl (dX (cC ⟨rfl,.mk _ _ _ rfl (.head _) ?_⟩)));refine cG (dR F 13 rfl (B.loc rfl rfl) rfl (dX (aQ ⟨rfl,.mk _ _ _ rfl (.head _) ?_⟩)));refine cG (dR F 14 rfl (B.loc rfl rfl) rfl (uP fun aT=>.mk _ _ _ rfl (.head _) ?_));refine cG (wM (B.int rfl) rfl (tP (D':=3) B.hh (F.m 15 rfl) (by show _∉aJ.take 15;decide+kernel) (by decide) (B.loc rfl rfl) (.head _) ⟨_,rfl⟩ rfl ⟨rfl,vM F (aT:=aT) ?_⟩));refine cG (dR F 15 rfl (B.loc rfl rfl) rfl (dX (aQ ⟨rfl,.mk _ _ _ rfl (.head _) ?_⟩)));refine cG (dR F 16 rfl (B.loc rfl rfl) rfl (dX (wH (aQ ⟨_,rfl,rfl,.mk _ _ _ rfl (.head _) ?_⟩))));refine cG (dR F 17 rfl (B.loc rfl rfl) rfl (uP fun aI=>.mk _ _ _ rfl (.head _) ?_));refine cG (dR F 18 rfl (B.loc rfl rfl) rfl (dX (cC ⟨rfl,.mk _ _ _ rfl (.head _) ?_⟩)));refine cG (dR F 19 rfl (B.loc rfl rfl) rfl (Ea fun aK oK=>.mk _ _ _ rfl (.head _) ?_));exact vS ⟨rfl,aT,aI,aK,oK,rfl⟩
end
class inductive wC(ρ ρ':dN)(G G':cE):List V->List V->Prop
 |nil:wC ρ ρ' G G' [] []
 |cons{v w vs ws:_}(a:∀val,VR ρ G v val->VR ρ' G' w val)(b:wC ρ ρ' G G' vs ws):wC ρ ρ' G G' (v::vs) (w::ws)
theorem wC.fs{v:V}(hf:v.flat=true)(h:wC ρ ρ' G G' vs ws):wC ρ ρ' G G' (v::vs) (v::ws):=.cons (fun U z=>z.flat hf) h
theorem cZ.conv{vals:List Value}(c:wC ρ ρ' G G' vs ws)(h:cZ ρ G vs vals):cZ ρ' G' ws vals:=by
 induction c generalizing vals with
 |nil=>cases h.out;exact .nil
 |cons a _ ih=>cases h.out with|cons x y=>exact .cons (a _ x) (ih y)
theorem Um(x:Str):x++Str.ofString "\x00"=⟨(x.cps.toList++[0]).toArray⟩:=by
 obtain⟨⟨l⟩⟩:=x;have e:(Str.ofString "\x00").cps= #[0]:=rfl;show Str.mk (Array.mk l++(Str.ofString "\x00").cps)=_;rw[e];simp
section
variable{D:Nat}{C:Cx}{loc:aM}
theorem cN.RU{aT aI aK:Addr}{oK:Obj}{b:Str}{n nT nI:Nat}{vals vT tI:List Value}(Fs:(loc.all fun p=>p.2.free)=true)(Cm:cU ρ G m loc os)
  (hE:fT es aJ vals) (hV:cZ ρ G (pW b++[.bool false,.int 0,.glob (.ref aT),.int 0,.int (-1),.glob (.ref aI),.bool true,.glob (.ref aK)]) vals) (hT:cZ ρ G [nM (kZ b 0 0 0) (kZ b 0 0 0) .none] vT) (hI:cZ ρ G [] tI)
  (hk:(aK==sysModules)=false/\∀prog w,oK.IsDictOf (intKind prog w) []) (hb:b=⟨(x.cps.toList++[0]).toArray⟩) (F:Fr C.h₀ C.L h m) (nd:(loc.map (·.1)).Nodup)
  (N:News C.h₀ C.L h ([(dS,dictOf es n),(aT,W.listOf vT.toArray nT),(aI,W.listOf tI.toArray nI),(aK,oK)]++(os++(fo++((aS,instObj 1048 dS)::G)))))
  (d:(([(dS,dictOf es n),(aT,W.listOf vT.toArray nT),(aI,W.listOf tI.toArray nI),(aK,oK)]++(os++(fo++((aS,instObj 1048 dS)::G)))).map (·.1)).Nodup):
  cN C ⟨aS,dS,aT,aI⟩ ((aS,instObj 1048 dS)::G) fo (some ((Z.init x.cps.toList).sc aK oK)) m loc h:=by
 have sub:∀p∈G,p∈(aS,instObj 1048 dS)::G:=fun p hp=>.tail _ hp;refine⟨⟨_,os,(.mk es n vals vT nT nI aK oK ([]) tI rfl (.head _) hE ?_ ?_ ⟨rfl,rfl,hk.1,hk.2,.nil⟩ ?_),(Cm.lay Fs).mono sub,N,d⟩,F,nd⟩
 ·cases hI;exact .nil
 ·show cZ _ _ [nM (kZ ⟨(x.cps.toList++[0]).toArray⟩ 0 0 0) (kZ ⟨(x.cps.toList++[0]).toArray⟩ 0 0 0) .none] vT;rw[←hb];exact(hT.lay rfl).mono sub
 ·refine cZ.conv ?_ hV;rw[hb];exact .fs rfl (.fs rfl (.fs rfl (.fs rfl (.fs rfl (.fs rfl (.fs rfl (.fs rfl (.fs rfl (.fs rfl (.fs rfl (.fs rfl (.fs rfl (.fs rfl (.cons (fun val h=>by cases h.out;exact .toks) (.fs rfl (.fs rfl (.cons (fun val h=>by cases h.out;exact .oW) (.fs rfl (.fs rfl (.nil))))))))))))))))))))
theorem Va{α:Type}{p q s:α}{l:List α}(h:p∈q::l):p∈q::s::l:=List.cons_subset_cons q (List.subset_cons_self s l) h
theorem NR{α:Type}{x d q:α}{os fo G:List α}:(q::x::d::(os++(fo++G))).Perm (x::d::q::((os++fo)++G)):=by
 rw[r7];exact(List.Perm.swap _ _ _).trans (.cons _ (.swap _ _ _))
theorem NS{α:Type}{x d k i t:α}{os fo G:List α}:(x::d::k::i::t::((os++fo)++G)).Perm (d::t::i::k::(os++(fo++(x::G)))):=by
 rw[←r7 os fo (x::G)];have p1:(x::d::k::i::t::((os++fo)++G)).Perm ((d::k::i::t::(os++fo))++x::G):=(@List.perm_middle α x (d::k::i::t::(os++fo)) G).symm;exact p1.trans (.cons _ (((List.reverse_perm [t,i,k]).append_right _)))
theorem OE{α:Type}{x d k i t q:α}{o6 os fo G:List α}:(x::d::k::i::t::((os++fo)++G)).Sublist (o6++(x::d::k::i::t::q::((os++fo)++G))):=
 List.Sublist.trans (.cons₂ _ (.cons₂ _ (.cons₂ _ (.cons₂ _ (.cons₂ _ (.cons _ (.refl _))))))) (List.sublist_append_right o6 _)
noncomputable def Ah(qual:Str)(L' cda:Addr)(gg base:Heap)(outer:List Env)(Be:Around):Cx:=
 {cn:=qual,cs:=(aU 34 0).scope,L:=L',a:=550,Qf:=.ref cda,cl:=[("__class__",538)],h₀:=gg,base:=base,outer:=outer,A₀:=Be,A:=Be.deeper (ksEnv qual (aU 34 0).scope L' 550 (.ref cda) 538)}
def Yl(g:Gl)(qual:Str)(cda:Addr):Prop:=∀Ω:Prop,(∀(oc od uI name kV doc pm an ct Qg Qi vs Qh file tf cl Yt Yu FN:_) (lk:g.K.lookup 550=some ⟨oc,od,.func (ksFn name qual (aU 34 0).args (aU 34 0).body (aU 34 0).scope .none kV doc pm an (.ref cda) ct 538),uI⟩) (lc:codeIn g.K (.ref cda) qual=true) (Al:g.K.lookup cda=some ⟨Qg,Qi,.fields vs,Qh⟩) (uY:vs[2]?=some (.str file tf)) (Ae:((g.prog.main.file:Str)==file)=true) (Ak:g.K.lookup 538=some ⟨cl,Yt,.cell (some (.ref 1048)),Yu⟩) (Fp:clsIn g.K 1048=some FN),Ω)->Ω
theorem Yl.mk{cda:Addr}(oc od uI name kV doc pm an ct Qg Qi vs Qh file tf cl Yt Yu FN:_)(lk:g.K.lookup 550=some ⟨oc,od,.func (ksFn name qual (aU 34 0).args (aU 34 0).body (aU 34 0).scope .none kV doc pm an (.ref cda) ct 538),uI⟩)(lc:codeIn g.K (.ref cda) qual=true)(Al:g.K.lookup cda=some ⟨Qg,Qi,.fields vs,Qh⟩)(uY:vs[2]?=some (.str file tf))(Ae:((g.prog.main.file:Str)==file)=true)(Ak:g.K.lookup 538=some ⟨cl,Yt,.cell (some (.ref 1048)),Yu⟩)(Fp:clsIn g.K 1048=some FN):Yl g qual cda:=fun U φ=>φ oc od uI name kV doc pm an ct Qg Qi vs Qh file tf cl Yt Yu FN lk lc Al uY Ae Ak Fp
theorem Bv.code(SF:Bv g):∃qual cda,Yl g qual cda:=by
 refine SF.fn _ fun oc od uI name qual kV doc pm an ct cda Qg Qi vs Qh file tf lk lc Al uY Ae=>?_;refine QF SF.cell fun cl Yt Yu Ak=>?_;obtain⟨FN,Fp⟩:=SF.cls;exact⟨qual,cda,.mk _ _ _ _ _ _ _ _ _ _ _ _ _ _ _ _ _ _ _ lk lc Al uY Ae Ak Fp⟩
def BX(ρ:dN)(G:cE)(os fo:cE)(x:Str)(xo dx:Addr)(gg:Heap)(L':Addr)(s:Shared)(T:Shared->Prop):Prop:=
 ∀(m6:mZ) (G6:cE) (h6:Heap) (JM:Tok) (aT aI aK:Addr) (oK:Obj) (es:List DictEntry) (n nT nI:Nat) (vals vT tI:List Value),Sub G G6->fT es aJ vals->cZ ρ G6 (pW (x++Str.ofString "\x00")++[.bool false,.int 0,.glob (.ref aT),.int 0,.int (-1),.glob (.ref aI),.bool true,.glob (.ref aK)]) vals->cZ ρ G6 [nM (kZ (x++Str.ofString "\x00") 0 0 0) (kZ (x++Str.ofString "\x00") 0 0 0) .none] vT->cZ ρ G6 [] tI->
  ((aK==sysModules)=false/\∀prog w,oK.IsDictOf (intKind prog w) [])->Fr gg L' h6 m6->News gg L' h6 ([(dx,dictOf es n),(aT,W.listOf vT.toArray nT),(aI,W.listOf tI.toArray nI),(aK,oK)]++(os++(fo++((xo,instObj 1048 dx)::G6))))->(([(dx,dictOf es n),(aT,W.listOf vT.toArray nT),(aI,W.listOf tI.toArray nI),(aK,oK)]++(os++(fo++((xo,instObj 1048 dx)::G6)))).map (·.1)).Nodup->T (St s h6 JM)
inductive UY(ρ:dN)(G:cE)(a b:Addr)(u v:List V):cE->Prop
 |mk(n k:Nat)(p q:List Value)(hp:cZ ρ G u p)(hq:cZ ρ G v q):UY ρ G a b u v [(a,W.listOf p.toArray n),(b,W.listOf q.toArray k)]
theorem Np.two{a b:Addr}{u v:List V}{l:cE}(h:Np ρ G [(a,u),(b,v)] l):UY ρ G a b u v l:=by
 induction h.out with
 |cons hI VN=>
 induction VN.out with
 |cons hT PE=>
 induction PE.out
 exact⟨_,_,_,_,hI,hT⟩
theorem Yp{C2:Cx}{G6:cE}{xo q aT aI aK:Addr}{oK oq:Obj}{l6:mZ}{ND:aM}{h6:Heap}{JM:Tok}{s:Shared}(sub:Sub G G6){own:cE}
  (y3:OR ρ G6 ⟨xo,dx,aJ,pW (x++Str.ofString "\x00")++[.bool false,.int 0,.glob (.ref aT),.int 0,.int (-1),.glob (.ref aI),.bool true,.glob (.ref aK)],[(aI,[]),(aT,[nM (kZ (x++Str.ofString "\x00") 0 0 0) (kZ (x++Str.ofString "\x00") 0 0 0) .none])],[(aK,oK)]⟩ own) (y5:cN C2 ρ G6 (own++((q,oq)::(os++fo))) none l6 ND h6) {T:Shared->Prop} (k:BX ρ G os fo x xo dx C2.h₀ C2.L s T):T (St s h6 JM):=by
 refine jM y5.nW fun i9 b6 c6 d6=>?_;have ZF:=y3.kd;have hf:=y5.fr;clear y5;refine y3.ex _ ?_
 rintro es n vals ll rfl hE hV hX
 clear y3;obtain⟨nI,nT,tI,vT,hI,hT⟩:=hX.two;have pB:=NS (x:=(xo,instObj 1048 dx)) (d:=(dx,dictOf es n)) (k:=(aK,oK)) (i:=(aI,W.listOf tI.toArray nI)) (t:=(aT,W.listOf vT.toArray nT)) (os:=os) (fo:=fo) (G:=G6);have sB:=(OE (x:=(xo,instObj 1048 dx)) (d:=(dx,dictOf es n)) (k:=(aK,oK)) (i:=(aI,W.listOf tI.toArray nI)) (t:=(aT,W.listOf vT.toArray nT)) (q:=(q,oq)) (o6:=i9) (os:=os) (fo:=fo) (G:=G6));exact k _ G6 h6 JM aT aI aK oK es n nT nI vals vT tI sub hE hV hT hI (ZF (aK,oK) (.head _)) hf (dU c6 fun p hp=>sB.subset (pB.mem_iff.mpr hp)) ((List.Perm.nodup_iff (pB.map _)).mp (gP d6 sB))
theorem Dg(F:aP g)(SF:Bv g){L' cda:Addr}{gg base:Heap}{outer:List Env}{Be:Around}(SC:Yl g qual cda)(qP:iP g 6 (Ah qual L' cda gg base outer Be))(VW:Be.handled=none){t:Tok}(hp:∀c∈x.cps.toList,zG c=true)(hl:x.length<=99999){xo:Addr}{s:Shared}
  (F2:Fr gg L' s.heap (fun y=>([(("self":Str),Value.ref xo),("stream",.str x t)]:List (Str×Value)).reverse.lookup y)) (N2:News gg L' s.heap ((xo,instObj 1048 dx)::(dx,dictOf [] 0)::([]++(os++(fo++G))))) (dd:(((xo,instObj 1048 dx)::(dx,dictOf [] 0)::([]++(os++(fo++G)))).map (·.1)).Nodup)
  {T:Flow->Shared->Prop} {E:dQ} (k:BX ρ G os fo x xo dx gg L' s (T .next)):
  PySem.wpAt (model g.prog g.w) (Ah qual L' cda gg base outer Be).A (.func (aU 34 0).body (ksEnv qual (aU 34 0).scope L' 550 (.ref cda) 538)) (execs (aU 34 0).body (ksEnv qual (aU 34 0).scope L' 550 (.ref cda) 538)) T E s:=by
 refine SC _ fun oc od uI name kV doc pm an ct Qg Qi vs Qh file tf cl Yt Yu FN lk lc Al uY Ae Ak Fp=>?_;have X2:=qP.kB;have T2:=qP.top;have nm:(fun y=>([(("self":Str),Value.ref xo),("stream",.str x t)]:List (Str×Value)).reverse.lookup y) "self"=some (.ref xo):=rfl;have WQ:(fun y=>([(("self":Str),Value.ref xo),("stream",.str x t)]:List (Str×Value)).reverse.lookup y) "stream"=some (.str x t):=rfl;generalize hm:(fun y=>([(("self":Str),Value.ref xo),("stream",.str x t)]:List (Str×Value)).reverse.lookup y)=m2 at *;refine ks_wpAt_execs_cons (ks_wpAt_Expr_any (ks_wpAt_MethodCall (ks_node (f:=550) (x:=xo) (C:=1048) (D:=1048) (cc:=538) (cda:=cda) F2 X2 N2 T2 lk rfl nm (InstAt.of_news N2 (.head _) (.tail _ (.head _))) Al uY Ae Ak Fp SF.mro SF.sup (aR rfl) rfl rfl rfl rfl SF.top rfl fun so h3 F3 N3 l4=>?_) rfl) rfl rfl);refine ks_method (s:=(St s h3 _)) F3 X2 N3 (.head _) (InstAt.of_news N3 (.tail _ (.head _)) (.tail _ (.tail _ (.head _)))) SF.i8 SF.sin SF.ty (aR rfl) fun q h4 F4 N4 l5=>?_;refine callWith_M (s:=(St s h4 _)) X2 N4 (.head _) SF.fi ?_ rfl rfl;refine spliced_cons (nameX_L (s:=(St s h4 _)) (cs:=(aU 34 0).scope) (cl:=[("__class__",538)]) F4 WQ ?_ rfl rfl rfl);refine spliced_nil ⟨methP N4 (.head _) (X2.keeps F4.keep),?_⟩;refine call_meth (s:=(St s h4 _)) N4 (.head _) ?_;have O:OR ρ G ⟨xo,dx,[],[],[],[]⟩ ((xo,instObj 1048 dx)::(dx,dictOf [] 0)::([]++[])):=⟨(.mk ([]) 0 ([]) ([]) rfl .nil .nil .nil),by simp,by simp,by simp⟩;have I2:cN (Ah qual L' cda gg base outer Be) ρ G (((xo,instObj 1048 dx)::(dx,dictOf [] 0)::([]++[]))++((q,methodObj (.ref 144) (.ref xo))::(os++fo))) none m2 [("self",.val (.glob (.ref xo))),("stream",.val (.str x))] h4:=by
  have d2:=dP (oa:=methodObj (.ref 144) (.ref xo)) dd fun p hp=>l5 p (.tail _ hp);have pA:=NR (x:=(xo,instObj 1048 dx)) (d:=(dx,dictOf [] 0)) (q:=(q,methodObj (.ref 144) (.ref xo))) (os:=os) (fo:=fo) (G:=G);exact⟨⟨[],[],rfl,.val nm .glob (.val WQ .str .nil),dU N4 fun p hp=>Va (pA.mem_iff.mpr hp),(List.Perm.nodup_iff (pA.map _)).mp d2⟩,F4,(by decide+kernel:([("self":Str),"stream"]:List Str).Nodup)⟩
 refine(Iy F hp hl (aS:=xo) (dS:=dx) (xs:=[]) (kd:=[]) (Q:=fun v ob=>v=.none/\ob=⟨xo,dx,aJ.take 12,pW (x++Str.ofString "\x00"),[],[]⟩) ⟨rfl,rfl⟩).out (Ah qual L' cda gg base outer Be) (qP.mono (aR rfl)) VW G ((q,methodObj (.ref 144) (.ref xo))::(os++fo)) _ _ _ _ [.ref xo,.str x t] O I2 (.cons .glob (.cons .str .nil)) _ _ fun v oM G' l' val h5 US z1 z2 z3 z4 z5=>?_;obtain⟨rfl,rfl⟩:=z1;refine wpAt_of_wpAny ((Dh F (C':=Ah qual L' cda gg base outer Be) ⟨rfl,VW⟩ (sv':=.str x)).out (qP.mono (aR rfl)) G' ((q,methodObj (.ref 144) (.ref xo))::(os++fo)) l' _ (St s h5 US) z3 z5 _ _ fun fl ND o4 G6 l6 m6 fv h6 JM y1 y2 y3 y4 y5=>?_);obtain⟨rfl,aT,aI,aK,oK,rfl⟩:=y1;induction y4.out
 exact Yp (s:=s) (z2.trans y2) y3 y5 k
theorem By(F:aP g)(SF:Bv g){t:Tok}(hp:∀c∈x.cps.toList,zG c=true)(hl:x.length<=99999)(hD:8<=D)(ok:iP g D C)(hh:C.A.handled=none){s:Shared}(I:cN C ρ G fo none m loc s.heap)(Fs:(loc.all fun p=>p.2.free)=true)
  {Qr:dQ}
  (k:∀ρ' G' ka ko h' bH,Sub G G'->cN C ρ' G' fo (some ((Z.init x.cps.toList).sc ka ko)) m loc h'->Qr (.ref ρ'.aS) (St s h' bH)):
  wpAny (model g.prog g.w) C.A (call (.ref 1048) [.str x t]) Qr Er s:=by
 obtain⟨⟨ls,os,a,b,c,d⟩,F0,nd⟩:=I;have a:ls=[]:=a;subst a;refine Ho SF.code fun qual cda SC=>?_;have XO:=SC;refine SC _ ?_;clear SC
 rintro oc od uI name kV doc pm an ct Qg Qi vs Qh file tf cl Yt Yu FN lk lc-_ _ _ _
 refine call_cls F0 ok.kB c SF.TS SF.MS SF.MT fun xo dx h' F' N' l1 l2=>?_;refine ks_code_super (A:=C.A.under (.builtin "type.__call__" ⟨.ref 1048::[.str x t],[]⟩)) (env:=C.env) ok.below F' ok.kB N' ok.top ok.frames rfl ok.kind lk lc (by have:=ok.dep;show C.A.depth+1<_;exact v9 (t9 (q5 (aR rfl) hD) _) this)
  (binds:=[("self",.ref xo),("stream",.str x t)]) (BindsTo.of_eq rfl) ?_ (fun gg L' oV Fg F2 N2 B2 X2 T2 l3=>?_) (by decide+kernel) rfl rfl rfl
 ·intro y hy
  rcases s8.mp hy with rfl|hy
  ·rfl
  ·rw[List.mem_singleton.mp hy];rfl
 have qP:iP g 6 (Ah qual L' cda gg C.base (C.env::C.outer) (C.A.under (.builtin "type.__call__" ⟨.ref 1048::[.str x t],[]⟩))):=by
  refine⟨B2,X2,T2,rfl,Around.frames_deeper ok.frames,?_,?_⟩
  ·show C.A.depth+1+1+6<_;have:=ok.dep;exact v9 (t9 hD _) this
  ·show C.A.units+1+3+8 * 6<_;have:=ok.OH;exact v9 (t9 (q5 (by decide:1+3+8 * 6<=8 * 8) (Nat.mul_le_mul_left 8 hD)) _) this
 refine Dg (ρ:=ρ) F SF XO qP hh hp hl F2 N2 (sW (oa:=instObj 1048 dx) (ob:=dictOf [] 0) d l1 l2) fun m6 G6 h6 JM aT aI aK oK es n nT nI vals vT tI sub hE hV hT hI hk fr N6 d6=>?_;exact⟨L',m6,_,fr,N6,fun kF kN=>⟨rfl,k ⟨xo,dx,aT,aI⟩ ((xo,instObj 1048 dx)::G6) aK oK h6 _ (fun p hp=>.tail _ (sub p hp)) (cN.RU Fs (b.mono sub) hE hV hT hI hk (Um x) kF nd kN d6)⟩⟩
end
section
variable{D:Nat}{C:Cx}{X:eZ}{loc:aM}
def Kn(f:Int->Int->Int)(Q:tU)(a b:V)(l:aM)(s:bX):Prop:=∀Ω:Prop,(∀(i j:Int) (ha:a=.int i) (hb:b=.int j) (h0:0<j) (h1:j<=1073741824) (h:Q (.int (f i j)) l s),Ω)->Ω
theorem Kn.mk{f:Int->Int->Int}{a b:V}{l:aM}{s:bX}(i j:Int)(ha:a=.int i)(hb:b=.int j)(h0:0<j)(h1:j<=1073741824)(h:Q (.int (f i j)) l s):Kn f Q a b l s:=fun U φ=>φ i j ha hb h0 h1 h
theorem sD{l r:Expr}(h:EW g D C ρ X l loc σ (Kp g D C ρ X r (Kn (· % ·) Q))):EW g D C ρ X (.BinOp l .Mod r pos) loc σ Q:=by
 refine nY (h.mono fun a l1 s1 z=>z.mono fun b l2 s2 z=>?_);refine z _ ?_;clear z
 rintro i j rfl rfl h0 h1 zz
 intro G s av bv ha hb T E k;induction ha.out;induction hb.out
 refine PyProof.Rows.mod_int (Int.ne_of_gt h0) (k _ _ _ ?_ .int);rw[Int.fmod_eq_emod_of_nonneg _ (Int.le_of_lt h0)];exact zz
theorem Bj{l r:Expr}(h:EW g D C ρ X l loc σ (Kp g D C ρ X r (Kn (· / ·) Q))):EW g D C ρ X (.BinOp l .FloorDiv r pos) loc σ Q:=by
 refine nY (h.mono fun a l1 s1 z=>z.mono fun b l2 s2 z=>?_);refine z _ ?_;clear z
 rintro i j rfl rfl h0 h1 zz
 intro G s av bv ha hb T E k;induction ha.out;induction hb.out
 refine PyProof.Rows.floordiv_int (hp:=.inl (PyProof.noPylong_of_log2 ?_)) (Int.ne_of_gt h0) (k _ _ _ ?_ .int)
 ·rw[Int.fdiv_eq_ediv_of_nonneg _ (Int.le_of_lt h0)];exact zz
 ·have h2:j.natAbs<2147483648:=Int.ofNat_lt.mp (by rw[Int.natAbs_of_nonneg (Int.le_of_lt h0)];exact Int.lt_of_le_of_lt h1 (aR rfl));exact Nat.lt_of_lt_of_le ((Nat.log2_lt (k:=31) (Int.natAbs_ne_zero.mpr (Int.ne_of_gt h0))).mpr h2) (aR rfl)
theorem cN.listAt{a:Addr}{vals:List Value}{n:Nat}(I:cN C ρ G fo σ m loc h)(hm:(a,W.listOf vals.toArray n)∈G):h.IsList a vals.toArray:=by
 obtain⟨ls,os,_,_,c,_⟩:=I.ex;exact⟨_,(c (a,W.listOf vals.toArray n) (q7 _ (q7 _ (q7 _ hm)))).1,rfl,⟨n,rfl⟩⟩
theorem cN.vE{a:Addr}{vals:List Value}(I:cN C ρ G fo σ m loc h)(hm:(a,rY vals)∈G):IsTup h a vals.toArray:=by
 obtain⟨ls,os,_,_,c,_⟩:=I.ex;exact⟨_,(c (a,rY vals) (q7 _ (q7 _ (q7 _ hm)))).1,rfl,_,rfl⟩
theorem cZ.PV{vals:List Value}{i:Nat}{v:V}(h:cZ ρ G vs vals)(e:vs[i]?=some v):∃val,vals[i]?=some val/\VR ρ G v val:=by
 induction vs generalizing vals i with
 |nil=>cases e
 |cons u vs ih=>
  induction h.out with
  |cons a b=>
   induction i with
   |zero=>cases e;exact(fG _ rfl a)
   |succ i=>
    refine bQ (ih b e) fun w h1 h2=>?_;exact(fG w h1 h2)
def Rl(Q:tU)(a b:V)(l:aM)(s:bX):Prop:=∀Ω:Prop,(∀(vs:List V) (i:Nat) (v:V) (ha:a=.lst vs\/a=.tup vs) (hb:b=.int i) (hi:vs[i]?=some v) (hz:i<2 ^ 62) (h:Q v l s),Ω)->Ω
theorem Rl.mk{a b:V}{l:aM}{s:bX}(vs:List V)(i:Nat)(v:V)(ha:a=.lst vs\/a=.tup vs)(hb:b=.int i)(hi:vs[i]?=some v)(hz:i<2 ^ 62)(h:Q v l s):Rl Q a b l s:=fun U φ=>φ vs i v ha hb hi hz h
theorem Bl{value slice:Expr}(hs:∀a i u,subscripted slice false (.ref a) (.int i u)=operate [.ref a,.int i u] (getItem (.ref a) (.int i u)))
  (h:EW g D C ρ X value loc σ (Kp g D C ρ X slice (Rl Q))):EW g D C ρ X (.Subscript value slice pos) loc σ Q:=by
 refine .of fun ok G fo m s I Qr Er q qe=>?_;refine Subscript_ (jP h ok I qe fun a b aG bS G' av bv h' bH z1 z2 z3 z4 z5 U=>?_);refine z1 _ ?_;clear z1
 rintro vs i v ha rfl hi hz hq
 induction z4.out
 have fin:∀val,VR ρ G' v val->Qr val (St s h' bH):=fun val hv=>q v aG bS G' val h' bH hq z2 hv z5
 rcases ha with rfl|rfl
 ·induction z3.out with
  |lst hm hv=>
   refine bQ (hv.PV hi) fun val e hv=>?_;have hl:=z5.listAt hm;exact tail_any (s:=(St s h' bH)) hl.typeIs slot_list_getitem.lookup (wpAny_getItem_list hl (u4 i) (Int.lt_of_lt_of_le (Int.ofNat_lt.mpr hz) (aR rfl)) (x:=val) (by simpa using e) (fin val hv)) (hs _ _ _)
 ·induction z3.out with
  | @tup a vals hm hv=>
   refine bQ (hv.PV hi) fun val e hv=>?_;have hl:=z5.vE hm;have hn:(i:Int)<((vals.toArray.size:Nat):Int):=Int.ofNat_lt.mpr (List.getElem?_eq_some_iff.mp e).1;exact tail_any (s:=(St s h' bH)) hl.typeIs slot_tuple_getitem.lookup (getItem_tuple hl (u4 _) (Int.lt_trans (Int.ofNat_lt.mpr hz) (aR rfl)) (seqIndex_of (u4 i) hn) (x:=val) (by simpa using e) (fin val hv)) (hs _ _ _)
end
section
open PySem PySem.W PySem.Spec PySem.Calls PyProof.Rows PySem.SeqAt
section
variable{D:Nat}{C:Cx}{X:eZ}{loc:aM}
theorem cZ.flatten{G:cE}{ws:List V}{vals:List Value}(h:cZ ρ G ws vals):∀n:Nat,cZ ρ G (List.replicate n ws).flatten (List.replicate n vals).flatten
 |0=>.nil
 |n+1=>by
  rw[List.replicate_succ,List.replicate_succ,List.flatten_cons,List.flatten_cons];exact h.append (h.flatten n)
def EM(Q:tU)(a b:V)(l:aM)(s:bX):Prop:=∀Ω:Prop,(∀(ws:List V) (n:Nat) (ha:a=.lst ws) (hb:b=.int n) (hz:ws.length * n<=2 ^ 24) (hn:n<2 ^ 62) (h:Q (.lst (List.replicate n ws).flatten) l s),Ω)->Ω
theorem EM.mk{a b:V}{l:aM}{s:bX}(ws:List V)(n:Nat)(ha:a=.lst ws)(hb:b=.int n)(hz:ws.length * n<=2 ^ 24)(hn:n<2 ^ 62)(h:Q (.lst (List.replicate n ws).flatten) l s):EM Q a b l s:=fun U φ=>φ ws n ha hb hz hn h
theorem Xp{l r:Expr}(h:EW g D C ρ X l loc σ (Kp g D C ρ X r (EM Q))):EW g D C ρ X (.BinOp l .Mult r pos) loc σ Q:=by
 refine .of fun ok G fo m s I Qr Er q qe=>?_;refine wpAny_BinOp (jP h ok I qe fun a b aG bS G' av bv h' bH z1 z2 z3 z4 z5 U=>?_);refine z1 _ ?_;clear z1
 rintro ws n rfl rfl hz hn hq
 induction z4.out
 induction z3.out with
 | @lst al vals k hm hv=>
 obtain⟨⟨ls,os,a1,b1,c1,d1⟩,F,nd⟩:=z5;have hl:=(c1 (al,W.listOf vals.toArray k) (q7 _ (q7 _ (q7 _ hm)))).1;refine mul_list (s:=(St s h' bH)) F c1 hl (u4 _) (Int.lt_trans (Int.ofNat_lt.mpr hn) (aR rfl)) (by rw[v8,hv.length];exact hz) fun h2 F2 N2=>?_;rw[listMul_foldl_if] at N2;have dd:=dP (oa:=W.listOf (List.replicate n vals).flatten.toArray 0) d1 (fun p hp=>Heap.lt_size (c1 p hp).1);have k1:∀p∈G',p∈[((h'.objs.size:Addr),W.listOf (List.replicate n vals).flatten.toArray 0)]++G':=fun p hp=>.tail _ hp;exact q _ aG bS ([((h'.objs.size:Addr),W.listOf (List.replicate n vals).flatten.toArray 0)]++G') _ h2 _ hq (fun p hp=>k1 p (z2 p hp)) (.lst (.head _) ((hv.flatten n).mono k1)) (cN.more a1 b1 nd N2 dd F2)
noncomputable def V.atom(v:V):Bool:=v.sel false true (fun U=>true) (fun U=>true) (fun U=>true)
set_option tactic.hygienic true in
theorem oE{A:Around}{s:Shared}{u:V}{a b:Value}(ha:VR ρ G u a)(hb:VR ρ G u b)(hf:u.atom=true):EqAt A s a b true:=by
 cases u with
 |none=>induction ha.out;induction hb.out;exact EqAt.same _
 |bool b=>induction ha.out;induction hb.out;exact EqAt.same _
 |int i=>
  induction ha.out;induction hb.out
  rename_i t u
  have:=(MeetsSeq.EqGives.int i i t u).at A s
  rwa [beq_self_eq_true] at this
 |str x=>
  induction ha.out;induction hb.out
  rename_i t u
  have:=(eqGives_str x x t u).at A s
  rwa [beq_self_eq_true] at this
 |_=>exact(Bool.false_ne_true hf).elim
noncomputable def Cp(x:Str):Value->Bool
 |.str y _=>y==x
 |_=>false
theorem Sl{ys:List Str}{vals:List Value}(h:cZ ρ G (ys.map V.str) vals):vals.any (Cp x)=ys.any (· ==x)/\∀v∈vals,∃y t,v=.str y t:=by
 induction ys generalizing vals with
 |nil=>induction h.out;exact⟨rfl,fun U h=>nomatch h⟩
 |cons y ys ih=>
  induction h.out with
  |cons h1 h2=>
   induction h1.out
   obtain⟨a,b⟩:=ih h2;refine⟨congrArg (_|| ·) a,fun w hw=>?_⟩
   rcases s8.mp hw with rfl|hw
   ·exact⟨_,_,rfl⟩
   ·exact b w hw
end
end
section
variable{D:Nat}{C:Cx}{X:eZ}{loc:aM}
theorem cN.GB{h':Heap}{it:Addr}(I:cN C ρ G fo σ m loc h)(he:Heap.ExtBut it h h')(hi:h.objs.size<=it):cN C ρ G fo σ m loc h':=by
 obtain⟨⟨ls,os,a,b,c,d⟩,F,nd⟩:=I;exact⟨⟨ls,os,a,b,fun p hp=>⟨he _ _ (Nat.ne_of_lt (Nat.lt_of_lt_of_le (Heap.lt_size (c p hp).1) hi)) (c p hp).1,(c p hp).2⟩,d⟩,F.extBut he hi,nd⟩
def KN(a b:Str)(v:V)(l l2:aM):Prop:=∀Ω:Prop,(∀(x y:V) (l1:aM) (ev:v=.tup [x,y]) (u1:dW a (.val x) l l1) (u2:dW b (.val y) l1 l2),Ω)->Ω
theorem KN.mk{a b:Str}{v:V}{l l2:aM}(x y:V)(l1:aM)(ev:v=.tup [x,y])(u1:dW a (.val x) l l1)(u2:dW b (.val y) l1 l2):KN a b v l l2:=fun U φ=>φ x y l1 ev u1 u2
theorem BR{a b:Str}{pa pb tp:Pos}{k:Nat}(hh:C.A.handled=none)(ha:aF C a)(hb:aF C b):Kx g D C ρ (.Tuple [.Name a pa,.Name b pb] k tp) (KN a b):=fun ok v l l' u val σ G fo m s hv I P E q=>by
 refine u _ ?_;clear u
 rintro x y l1 rfl u1 u2
 induction hv.out with
 | @tup t vals hm uY=>
 induction uY.out with
 | @cons vx vr hx JE=>
 induction JE.out with
 | @cons vy vr hy Ql=>
 induction Ql.out
 refine assign_Tuple_tuple hh (I.vE hm) rfl rfl fun h2 he=>?_;have I2:=I.GB he (w7 _);refine assignInOrder_cons (wpAny_assign_Name (gI ok ha.1 (s:={s with heap:=h2}) I2 hx u1 fun h3 t3 I3=>?_))
 refine assignInOrder_cons (wpAny_assign_Name (gI ok hb.1 (s:=(St s h3 t3)) I3 hy u2 fun h4 t4 I4=>?_));exact wpAny_pure (q h4 t4 _ I4)
theorem GN{a b:Str}{pa pb tp:Pos}{k:Nat}:Xv g C ρ (.Tuple [.Name a pa,.Name b pb] k tp) (KN a b) fun it h=>∃al i,h.IsListIter it al i:=fun v l l' u val G it s hv hw P E q=>by
 refine u _ ?_;clear u
 rintro x y l1 rfl u1 u2
 refine Ho hw fun al i hw=>?_;induction hv.out with
 | @tup t vals hm hv=>exact wpAny_letOwnedTupleGo_listiter hw q
theorem Nj{a b:Str}{pa pb tp:Pos}{k:Nat}{iter:Expr}{Q:eM}(hh:C.A.handled=Option.none)(ha:aF C a)(hb:aF C b)(J:List V->aM->bX->Prop)
  (hit:EW g D C ρ X iter loc σ (fun v l s=>∃vs,v=.lst vs/\J vs l s))
  (turn:∀v r l s,J (v::r) l s->Nc g D C ρ X (KN a b) v body (J r) Q l s)
  (fin:∀l s,J [] l s->Q .next l s) (pO:∀v,foldedSetIterable iter C.env v=pure v):
  kA g D C ρ X (.For (.Tuple [.Name a pa,.Name b pb] k tp) iter body [] pos) loc σ Q:=uS hh (BR hh ha hb) GN J hit turn fin pO
end
section
open PySem PySem.W PySem.Spec PySem.Calls PyProof.Rows PySem.SeqAt
section
variable{D:Nat}{C:Cx}{X:eZ}{loc:aM}
noncomputable def Co(i:Int):Value->Bool
 |.int j _=>j==i
 |_=>false
theorem Sj{x:Int}{ys:List Int}{vals:List Value}(h:cZ ρ G (ys.map V.int) vals):vals.any (Co x)=ys.any (· ==x)/\∀v∈vals,∃y t,v=.int y t:=by
 induction ys generalizing vals with
 |nil=>induction h.out;exact⟨rfl,fun U h=>nomatch h⟩
 |cons y ys ih=>
  induction h.out with
  |cons h1 h2=>
   induction h1.out
   obtain⟨a,b⟩:=ih h2;refine⟨congrArg (_|| ·) a,fun w hw=>?_⟩
   rcases s8.mp hw with rfl|hw
   ·exact⟨_,_,rfl⟩
   ·exact b w hw
inductive Rj:V->V->Bool->Prop
 |t(x:Str)(ys:List Str):Rj (.str x) (.tup (ys.map V.str)) (ys.any (· ==x))
 |i(n:Int)(ks:List Int):Rj (.int n) (.lst (ks.map V.int)) (ks.any (· ==n))
def tJ(neg:Bool)(Q:nX)(a b:V)(l:aM)(s:bX):Prop:=∀Ω:Prop,(∀(c:Bool) (hc:Rj a b c) (h:Q (neg !=c) l s),Ω)->Ω
theorem tJ.mk{neg:Bool}{Q:nX}{a b:V}{l:aM}{s:bX}(c:Bool)(hc:Rj a b c)(h:Q (neg !=c) l s):tJ neg Q a b l s:=fun U φ=>φ c hc h
theorem tJ.t{neg:Bool}{Q:nX}{l:aM}{s:bX}{x:Str}{vs:List V}(ys:List Str)(e:vs=ys.map V.str)(h:Q (neg !=ys.any (· ==x)) l s):tJ neg Q (.str x) (.tup vs) l s:=by
 subst e;exact(.mk _ (.t x ys) h)
theorem Zy{neg:Bool}{s:Shared}{a b:V}{c:Bool}{av bv:Value}(I:cN C ρ G fo σ m loc s.heap)(h:Rj a b c)(ha:VR ρ G a av)(hb:VR ρ G b bv){A:Around}{T E:dQ}(q:T (.bool (neg !=c)) s):
  wpAny (model g.prog g.w) A (compareOp (cond neg .NotIn .In) av bv) T E s:=by
 induction h with
 |t x ys=>
  induction ha.out
  induction hb.out with
  |tup hm hv=>
  obtain⟨e,k⟩:=Sl (x:=x) hv;have f:∀y,y∈vals.toArray->EqAt A.in1 s y (.str x t) (Cp x y):=fun y hy=>by
   refine Ho (k y (by simpa using hy)) fun y' t fE=>?_;subst fE;exact(eqGives_str y' x t _).at _ _
  induction neg with
  |true=>exact notIn_tupleAt (Cp x) (I.vE hm) f (by rw[List.any_toArray,e];rwa [Bool.true_bne] at q)
  |false=>exact in_tupleAt (Cp x) (I.vE hm) f (by rw[List.any_toArray,e];rwa [Bool.false_bne] at q)
 |i x ys=>
  induction ha.out
  induction hb.out with
  |lst hm hv=>
  obtain⟨e,k⟩:=Sj (x:=x) hv;have f:∀y,y∈vals.toArray->EqAt A.in1 s y (.int x t) (Co x y):=fun y hy=>by
   refine Ho (k y (by simpa using hy)) fun y' t fE=>?_;subst fE;exact(MeetsSeq.EqGives.int y' x t _).at _ _
  induction neg with
  |true=>exact notIn_listAt (Co x) (I.listAt hm) f (by rw[List.any_toArray,e];rwa [Bool.true_bne] at q)
  |false=>exact in_listAt (Co x) (I.listAt hm) f (by rw[List.any_toArray,e];rwa [Bool.false_bne] at q)
theorem gR(neg:Bool){l r:Expr}{Q:nX}(ho:op=cond neg .NotIn .In)(hm:behindInMarks op r=false)(h:EW g D C ρ X l loc σ (Kp g D C ρ X r (tJ neg Q))):BW g D C ρ X (.Compare l [op] [r] pos) loc σ Q:=by
 refine .of fun ok G fo m s w I _ Qr Er q qe=>?_;refine wpAny_isTrue_Compare1 (jP h ok I qe fun a b aG bS G' av bv h' bH z1 z2 z3 z4 z5 U=>?_) hm;refine z1 _ fun c hc hq=>?_;rw[ho];exact Zy (s:=(St s h' bH)) z5 hc z3 z4 (wpAny_truthy_bool (q _ aG bS G' h' bH hq z2 z5))
theorem Cv:fillsInplaceSlot (.type "list") "add" (Operator.Add==.Add)=pure false:=by
 unfold fillsInplaceSlot;show(typeLookup (.type "list") (dunderI "add")>>=fun fi=>pure (fi.isSome&&!isSeqSlot fi))=pure false;rw[PySem.F.slot_list_iadd.lookup];rfl
theorem Cn{l b:Addr}{Q E:dQ}{A:Around}{s:Shared}(ha:s.TypeIs (.ref l) "list")(hb:s.TypeIs (.ref b) "list")(hc:wpAny M A (call (.builtin "list.__iadd__") [.ref l,.ref b]) Q E s):wpAny M A (inplaceOp .Add (.ref l) (.ref b)) Q E s:=by
 unfold inplaceOp;refine wpAny_holding ?_;refine q8 (wpAny_typeOf ha (q8 (wpAny_of_eq Cv ?_)));show wpAny M A (if false=true then _ else _) Q E s;rw[if_neg Bool.false_ne_true];refine q8 (binaryOp1_none (nm:="add") ha hb noFill_list_add ?_);refine q8 (wpAny_of_eq (PyProof.Rows.seqSlot_of PySem.F.slot_list_iadd.lookup rfl) ?_);exact q8 (wpAny_rule hc)
theorem Slot.iadd{s:Shared}{F:List V->aM->bX->Prop}{A:Around}{Q:dQ}{E:dQ}(S:Slot C ρ G fo m s.heap Dl vs F){us:List V}{val:Value}(hv:VR ρ G (.lst us) val)(iX:vs.length+us.length<=sizeLine)
  (k:∀h',(∀aG bS,F (vs++us) aG bS->cN C ρ G fo bS m aG h')->Q (.ref Dl) {s with heap:=h'}):wpAny (model g.prog g.w) A (inplaceOp .Add (.ref Dl) val) Q E s:=by
 refine S _ fun pre post vals n N Fg a b e hG z=>?_;induction hv.out with
 | @lst bd mW n2 hm hu=>
  have hb:=(N _ (q7 _ (.tail _ (hG _ hm)))).1;have hm:=N _ (q7 pre (List.Mem.head post));have HB:vals.toArray.size+mW.toArray.size<=sizeLine:=by rw[v8,v8,e.length,hu.length];exact iX
  refine Cn ⟨_,hm.1,rfl⟩ ⟨_,hb,rfl⟩ ?_;refine call_meets PySem.F.slot_list_iadd ⟨_,hm.1,rfl⟩ PySem.F.entry_list_iadd (PySem.F.args_list_iadd_2 _ _) (AutoSeq1.list___iadd___list_list_0 Dl vals.toArray n bd mW.toArray n2 (extend_door HB) (q5 (x7 _ _) HB) (w9 HB)) ⟨hm.1,hb,?_⟩;have e2:vals.toArray++mW.toArray=(vals++mW).toArray:=List.append_toArray vals mW;have ZJ:(s.heap.update Dl (Obj.mapSeq fun x=>x++mW.toArray)).get? Dl=some {cls:=.type "list",data:=.seq (vals++mW).toArray (if(vals.toArray++mW.toArray).size==vals.toArray.size then n else n+1)}:=by
   rw[Heap.get?_update_self _ hm.1 (by rw[mapSeq_app];rfl),mapSeq_app,e2]
  exact k _ fun aG bS f=>z _ _ (vals++mW) _ aG bS (e.append hu) (N.setIn a b (Heap.SameBut.update ..) ZJ) (Fg.change (Heap.SameBut.update ..) hm.2.1 hm.2.2) f
theorem Oy(h:m x=some v):sU m x v=m:=by
 funext y
 show(if y=x then some v else m y)=m y
 by_cases e:y=x
 ·rw[if_pos e,e,h]
 ·rw[if_neg e]
def EZ(x:Str)(ws:List V)(Q:eM)(v:V)(l:aM)(s:bX):Prop:=∀Ω:Prop,(∀(us:List V) (e:v=.lst us) (hl:(x,LV.ml ws)∈l) (hz:ws.length+us.length<=sizeLine) (l':aM) (u:dW x (.ml (ws++us)) l l') (h:Q .next l' s),Ω)->Ω
theorem EZ.mk{Q:eM}{v:V}{l:aM}{s:bX}(us:List V)(e:v=.lst us)(hl:(x,LV.ml ws)∈l)(hz:ws.length+us.length<=sizeLine)(l':aM)(u:dW x (.ml (ws++us)) l l')(h:Q .next l' s):EZ x ws Q v l s:=fun U φ=>φ us e hl hz l' u h
theorem zP{Q:eM}(hx:aF C x)(hv:(x,LV.ml ws)∈loc)(h:EW g D C ρ X e loc σ (EZ x ws Q)):kA g D C ρ X (.AugAssign (.Name x p) .Add e pos) loc σ Q:=by
 refine .of fun ok G fo m s I Qr Er q qe=>?_;refine bQ (I.nJ hv) fun a hm U=>?_;refine wpAny_AugAssign_Name (wpAny_loadName_local ok.kind hx.1 I.fr.ns hm ?_);refine h.out ok G fo m s I _ _ (fun b aG bS G' bv h' bH z1 z2 z3 z4=>?_) qe.at;refine z1 _ ?_;clear z1
 rintro us rfl hl hz l' u hq
 refine bQ (z4.nJ hl) fun a2 AD S=>?_;cases hm.symm.trans AD;refine Slot.iadd (s:=(St s h' bH)) S z3 hz fun h2 inv=>?_;have I2:=inv l' bS ⟨u,rfl⟩;refine wpAny_storeName_local hx.1 I2.fr.ns (fun h3 hn MK=>?_) (by show(C.cs.kind==.class||(C.cs.kind==.module&&C.L !=mainGlobals))=false;rw[ok.kind];rfl);have F3:Fr C.h₀ C.L h3 m:=Oy hm▸I2.fr.set hn MK;obtain⟨⟨ls,os,a1,b1,c1,d1⟩,F,nd⟩:=I2;have I3:cN C ρ G' fo bS m l' h3:=⟨⟨ls,os,a1,b1,c1.set MK,d1⟩,F3,nd⟩;exact q .next l' bS G' m .next h3 _ hq z2 .next I3
inductive RJ(x:Str)(y:Str)(Q:eM)(b:V)(l:aM)(s:bX):Prop
 |mk(j:Str)(hb:b=.str j)(hz:y.length+j.length<=sizeLine)(l':aM)(u:dW x (.val (.str (y++j))) l l')(h:Q .next l' s)
theorem vU{Q:eM}(hx:aF C x)(hv:(x,LV.val (.str y))∈loc)
  (h:EW g D C ρ X e loc σ (RJ x y Q)):kA g D C ρ X (.AugAssign (.Name x p) .Add e pos) loc σ Q:=by
 refine Ic hx.1 hv (h.mono fun b l s z=>?_);obtain⟨j,rfl,hz,l2,u,z⟩:=z;intro G s av bv ha hb T E k;induction ha.out;induction hb.out
 exact PyProof.Rows.iadd_str (fun t tk=>k _ _ _ (fG l2 u z) .str) hz
end
end
section
variable{D:Nat}{C:Cx}{X:eZ}{loc:aM}
structure BY(g:Gl)(D:Nat)(C:Cx)(ρ:dN)(X:eZ)(f:Value)(args:List Expr)(Q:List V->aM->bX->Prop)(v:V)(l:aM)(s:bX):Prop where
 ev:v=.glob f
 h:AW g D C ρ X args l s Q
theorem NA{n:Nat}(h:1<=n):(n:Int)=((1:Nat):Int)+(n-1:Nat):=by
 rw[←Int.natCast_add,Nat.add_sub_of_le h]
theorem NG(i:Nat):(1+(i:Int) * 1)=((1+i:Nat):Int):=by rw[Int.mul_one];rfl
theorem Ha{i m:Nat}(h:i<m):m-i=m-(i+1)+1:=(Nat.sub_add_cancel (Nat.sub_pos_of_lt h)).symm
theorem WM{i n:Nat}(h:i<n-1):1+i<n:=by rw[v7];exact Nat.add_lt_of_lt_sub h
inductive Hz:List V->Int->Int->Int->Nat->Prop
 |up(a n:Nat)(b:Int)(e:b=a+n)(h:n<=1000)(ha:a<=1000):Hz [.int a,.int b] a b 1 n
 |down(n:Nat)(h:n<=1000):Hz [.int n,.int (-1),.int (-1)] n (-1) (-1) (n+1)
theorem Hz.size{a b c:Int}{n:Nat}(h:Hz vs a b c n):Builtin.Range.small a b c=true/\Builtin.Range.rangeSize a b c=n:=by
 induction h with
 |up a n b e h ha=>
  subst e;have h0:∀k:Nat,(-(2 ^ 62):Int)<=k:=fun k=>Int.le_trans (aR rfl) (u4 k);have h1:((a:Int)+n)<2 ^ 62:=Int.lt_of_le_of_lt (Int.ofNat_le.mpr (Nat.add_le_add ha h)) (aR rfl);refine⟨small_one (h0 a) (Int.lt_of_le_of_lt (Int.ofNat_le.mpr ha) (aR rfl)) (h0 (a+n)) h1,?_⟩;rw[rangeSize_one]
  by_cases hn:(a:Int)<a+n
  ·rw[if_pos hn,Int.add_comm,Int.add_sub_cancel]
  ·rw[if_neg hn];exact(Int.le_antisymm (Int.le_of_add_le_add_left (a:=(a:Int)) (by rw[u9];exact Int.not_lt.mp hn)) (u4 n)).symm
 |down n h=>
  have e:Builtin.Range.rangeSize (n:Int) (-1) (-1)=((n+1:Nat):Int):=by
   unfold Builtin.Range.rangeSize;rw[if_neg (aR rfl),if_pos (Int.lt_of_lt_of_le (aR rfl) (u4 n))];show((n:Int)- -1-1)/1+1=_;rw[Int.ediv_one,Int.sub_neg,Int.add_sub_cancel];rfl
  refine⟨?_,e⟩;unfold Builtin.Range.small;rw[e]
  simp[Builtin.Range.rangeFitsLong]
  exact⟨Int.lt_of_le_of_lt (Int.ofNat_le.mpr h) (aR rfl),Int.le_trans (aR rfl) (u4 (n+1)),Int.lt_of_le_of_lt (Int.ofNat_le.mpr (Nat.succ_le_succ h)) (aR rfl)⟩
theorem BK{vals:List Value}{a b c:Int}{n:Nat}{A:Around}{s:Shared}{T E:dQ}(hr:Hz vs a b c n)(hv:cZ ρ G vs vals)
  (k:∀x y z tk,T (.ref s.heap.objs.size) {s with heap:=s.heap.push {cls:=.type "range",data:=.fields #[.int a x,.int b y,.int c z]},toks:=tk}):wpAny (model g.prog g.w) A (call (.type "range") vals) T E s:=by
 induction hr with
 |up a n b e h ha=>
  induction hv.out with
  |cons hx y3=>
  induction y3.out with
  |cons hy x3=>
  induction x3.out
  induction hx.out;induction hy.out
  exact call_range_2 (k _ _ _ _)
 |down n h=>
  induction hv.out with
  |cons hx y3=>
  induction y3.out with
  |cons hy x3=>
  induction x3.out with
  |cons hz w3=>
  induction w3.out
  induction hx.out;induction hy.out;induction hz.out
  exact call_range_3 (aR rfl) (k _ _ _ _)
def Ye(a c:Int)(n:Nat)(J:Nat->aM->bX->Prop)(vs:List V)(l:aM)(s:bX):Prop:=∀Ω:Prop,(∀(b:Int) (hr:Hz vs a b c n) (h:J 0 l s),Ω)->Ω
theorem Ye.mk{a c:Int}{n:Nat}{J:Nat->aM->bX->Prop}{l:aM}{s:bX}(b:Int)(hr:Hz vs a b c n)(h:J 0 l s):Ye a c n J vs l s:=fun U φ=>φ b hr h
theorem Vu{nO:Pos}(hs:bA nO args C.env){a c:Int}{n:Nat}{J:Nat->aM->bX->Prop}(hit:EW g D C ρ X (.Name "range" np) loc σ (BY g D C ρ X (.type "range") args (Ye a c n J)))(ok:iP g D C){s:Shared}(I:cN C ρ G fo σ m loc s.heap)(qe:Du C ρ G fo m s X Er){T:dQ}
  (k:∀dA jA G1 r h1 fN b x y z,J 0 dA jA->Sub G G1->cN C ρ G1 fo jA m dA h1->Builtin.Range.small a b c=true->Builtin.Range.rangeSize a b c=n->IsRange h1 r a b c x y z->T (.ref r) (St s h1 fN)):wpAny (model g.prog g.w) C.A (eval (.Call (.Name "range" np) args [] nO) C.env) T Er s:=by
 refine wpAny_Call_ofName (bI hit ok I qe fun v d5 p9 G0 val h0 j6 w1 k8 w3 w4 j3=>?_);obtain⟨rfl,w1⟩:=w1;induction w3.out
 refine uB (first:=[]) hs ?_;refine iR w1 ok (s:=(St s h0 j6)) w4 j3 fun vs dA jA G1 vals h1 fN z1 z2 z3 z4 lO=>?_;refine z1 _ fun b hr hj=>?_;obtain⟨TH,iX⟩:=hr.size;exact BK (s:=(St s h1 fN)) hr z3 fun x y z tk=>k _ _ _ _ _ _ b _ _ _ hj (k8.trans z2) ((z4.Dc {cls:=.type "range",data:=.fields #[.int a x,.int b y,.int c z]} rfl).rL) TH iX (IsRange.new h1 _ _ _ _ _ _)
noncomputable abbrev Mf(i n c:Int):Obj:={cls:=.type "range_iterator",data:=.fields #[rawInt i,rawInt n,rawInt c]}
theorem Vv(a c:Int)(i n:Nat):(Mf (a+i * c+c) ((n:Int)-i-1) c)=Mf (a+((i+1:Nat):Int) * c) ((n:Int)-((i+1:Nat):Int)) c:=by
 rw[show((i+1:Nat):Int)=(i:Int)+1 from rfl,show(n:Int)-((i:Int)+1)=(n:Int)-i-1 from(Int.sub_sub ..).symm,Int.add_mul,Int.one_mul,t8]
theorem pK{px nO:Pos}{Q:eM}(hh:C.A.handled=Option.none)(hx:aF C x)(hs:bA nO args C.env)(a c:Int)(n:Nat)(J:Nat->aM->bX->Prop)
  (hit:EW g D C ρ X (.Name "range" np) loc σ (BY g D C ρ X (.type "range") args (Ye a c n J)))
  (turn:∀i l s,i<n->J i l s->DX g D C ρ X x (.int (a+i * c)) body (J (i+1)) Q l s)
  (fin:∀l s,J n l s->Q .next l s) (pO:∀v,foldedSetIterable (.Call (.Name "range" np) args [] nO) C.env v=pure v):
  kA g D C ρ X (.For (.Name x px) (.Call (.Name "range" np) args [] nO) body [] pos) loc σ Q:=by
 refine .of fun ok G fo m s I Qr Er q qe=>?_;refine wpAny_For (Vu hs hit ok I qe.at fun dA jA G1 r h1 fN b U U U hj sub z5 TH iX ir=>?_) pO;refine wpAny_pyIter_range (s:=(St s h1 fN)) ir TH ?_;rw[iX];refine xI (len:=n) (P:=J) (IO:=fun i oI=>oI=Mf (a+i * c) ((n:Int)-i) c) (yL hx) (Cj (W:=fun U U=>True)) ok (fun U U U U U=>trivial) (q.sub sub) (qe.sub sub) ?_ hj (z5.Dc _ rfl) (by show _=Mf _ _ _;simp);intro i aG bS G' m' h' bH oI hi Ft sub I' hI DB T E item stop;subst hI
 by_cases oH:i<n
 ·refine wpAny_pyNext_range_item (s:=(St s h' bH)) DB (Int.sub_pos.mpr (Int.ofNat_lt.mpr oH)) fun h2 Ug Ol=>?_;exact item (.int (a+i * c)) _ h2 _ _ oH (.int (t:=bH)) (turn i aG bS oH Ft) Ug (Vv a c i n) Ol
 ·have MC:i=n:=Nat.le_antisymm hi (Nat.not_lt.mp oH);refine wpAny_pyNext_range_end (s:=(St s h' bH)) hh DB (Int.sub_nonpos_of_le (Int.ofNat_le.mpr (Nat.not_lt.mp oH))) fun h2 GU=>?_;exact stop h2 (fin _ _ (MC▸Ft)) GU
end
section
variable{D:Nat}{C:Cx}{X:eZ}{loc:aM}
structure Nm(C:Cx)(a:Addr)(ns:List Int) where
 vals:List Value
 hl:C.h₀.IsList a vals.toArray
 hi:IntsAre vals ns
 hn:ns.length<=1000
theorem Lr{vals:List Value}{ns:List Int}(h:IntsAre vals ns):cZ ρ G (ns.map V.int) vals:=by
 induction h with
 |nil=>exact .nil
 |cons n t _ ih=>exact .cons .int ih
theorem Nm.at{a:Addr}{ns:List Int}(S:Nm C a ns){G fo:cE}{m:mZ}{h:Heap}(I:cN C ρ G fo σ m loc h):h.IsList a S.vals.toArray:=S.hl.at fun o e=>I.fr.keep _ _ e
theorem Nm.name{a:Addr}{ns:List Int}(hx:aF C x)(h0:(x,LV.val (.glob (.ref a)))∈loc)(ok:iP g D C){s:Shared}(I:cN C ρ G fo σ m loc s.heap){Q E:dQ}(h:Q (.ref a) s):wpAny (model g.prog g.w) C.A (eval (.Name x p) C.env) Q E s:=by
 obtain⟨ls,os,a1,b,c,d⟩:=I.ex;refine bQ (b.get h0) fun val e1 e2=>?_;induction e2.out
 exact nameX_L I.fr e1 h ok.kind hx.1 hx.2
theorem DL{a:Addr}{ns:List Int}(S:Nm C a ns){Q:nX}(hx:aF C x)(h0:(x,LV.val (.glob (.ref a)))∈loc)(h:Q (!ns.isEmpty) loc σ):BW g D C ρ X (.Name x p) loc σ Q:=by
 refine .of fun ok G fo m s w I hw Qr Er q qe=>?_;subst hw;refine wpAny_isTrue_value (Nm.name hx h0 ok I (ns:=ns) ?_) rfl;have hl:=S.hi.length;refine wpAny_truthy_list (S.at I) ?_ ?_
 ·rw[v8,hl];have:=S.hn;exact Int.lt_of_le_of_lt (Int.ofNat_le.mpr this) (aR rfl)
 ·have e:(!S.vals.toArray.isEmpty)=(!ns.isEmpty):=by
   generalize S.vals=vs at hl;cases vs<;>cases ns<;>first|rfl|cases hl
  rw[e];exact q _ loc σ G s.heap _ h (.refl _) I
theorem Xr{a:Addr}{ns:List Int}(S:Nm C a ns){k:Nat}{p2:Pos}(hx:aF C x)(h0:(x,LV.val (.glob (.ref a)))∈loc)
  (hs:∀a i u,subscripted (.Constant (.int 0) k p2) false (.ref a) (.int i u)=operate [.ref a,.int i u] (getItem (.ref a) (.int i u))) {n:Int} {r:List Int} (e:ns=n::r) (h:Q (.int n) loc σ):EW g D C ρ X (.Subscript (.Name x p) (.Constant (.int 0) k p2) pos) loc σ Q:=by
 refine .of fun ok G fo m s I Qr Er q qe=>?_;refine Subscript_ (Nm.name hx h0 ok I (ns:=ns) (wpAny_Constant_int ?_));have hv:=Lr (ρ:=ρ) (G:=G) S.hi;have hl:=S.at I;generalize S.vals=vs at hv hl;rw[e] at hv;induction hv.out with
 |cons a b=>
 induction a.out
 exact tail_any (s:={s with toks:=s.toks+1}) hl.typeIs slot_list_getitem.lookup (wpAny_getItem_list (k:=0) hl (aR rfl) (aR rfl) (x:=.int n t) rfl (q _ loc σ G _ s.heap _ h (.refl _) .int I)) (hs _ _ _)
theorem Ey(n k:Nat):clipAt n (k:Int)=min k n:=by
 have h:¬((k:Int)<0):=Int.not_lt.mpr (u4 k);unfold clipAt;rw[if_neg h]
 rcases Nat.le_total k n with e|e
 ·rw[Int.min_eq_left (Int.ofNat_le.mpr e),Nat.min_eq_left e,Int.max_eq_right (u4 _)];rfl
 ·rw[Int.min_eq_right (Int.ofNat_le.mpr e),Nat.min_eq_right e,Int.max_eq_right (u4 _)];rfl
theorem Nw{α:_}(l:List α):(l.drop (clipAt l.length 1)).take (clipAt l.length 12-clipAt l.length 1)=(l.drop 1).take 11:=by
 rw[show clipAt l.length 1=min 1 l.length from Ey _ 1,show clipAt l.length 12=min 12 l.length from Ey _ 12];cases l with
 |nil=>rfl
 |cons x l=>
  rw[show min 1 (x::l).length=1 from Nat.min_eq_left (Nat.succ_le_succ (Nat.zero_le _)),List.length_cons,←Nat.sub_min_sub_right];show List.take (min 11 l.length) l=List.take 11 l;exact(List.take_eq_take_min ..).symm
theorem Rc{a:Addr}{ns:List Int}(S:Nm C a ns){k1 k2:Nat}{p1 p2 p3:Pos}(hx:aF C x)(h0:(x,LV.val (.glob (.ref a)))∈loc)(h:Q (.lst (((ns.drop 1).take 11).map V.int)) loc σ):
  EW g D C ρ X (.Subscript (.Name x p) (.Slice (some (.Constant (.int 1) k1 p1)) (some (.Constant (.int 12) k2 p2)) Option.none p3) pos) loc σ Q:=by
 refine .of fun ok G fo m s I Qr Er q qe=>?_;refine Subscript_ (Nm.name hx h0 ok I (ns:=ns) ?_);refine wpAny_Slice (evalPart_some_step (wpAny_Constant_int (evalPart_some_step (wpAny_Constant_int (evalPart_none_step ?_)))));have ZZ:=S.at I;have hlen:=S.hi.length;obtain⟨⟨ls,os,a1,b1,c1,d1⟩,F,nd⟩:=I;refine slice_list (s:={s with toks:=s.toks+1+1}) F c1 ZZ (.int 1 _) (.int 12 _) (fun h2 F2 N2=>?_) rfl (fun U=>rfl) (by rw[v8,hlen];have:=S.hn;unfold sizeLine;exact q5 this (aR rfl))
 have hp:=slice_ints_plain S.hi 1 12;rw[Nw] at hp;have dd:=dP (a:=s.heap.objs.size+1) (oa:=W.listOf (slicePick S.vals.toArray (some 1) (some 12) Option.none).toList.toArray 0) d1 (fun p hp=>Nat.lt_succ_of_lt (Heap.lt_size (c1 p hp).1));have k1:∀p∈G,p∈[((s.heap.objs.size+1:Addr),W.listOf (slicePick S.vals.toArray (some 1) (some 12) Option.none).toList.toArray 0)]++G:=fun p hp=>.tail _ hp;exact q _ loc σ ([((s.heap.objs.size+1:Addr),W.listOf (slicePick S.vals.toArray (some 1) (some 12) Option.none).toList.toArray 0)]++G) _ h2 _ h k1 (.lst (.head _) ((Lr hp).mono k1)) (cN.more a1 b1 nd N2 dd F2)
end
section
open PySem PySem.W PySem.Spec PySem.Calls PyProof.Rows PySem.SeqAt
section
variable{D:Nat}{C:Cx}{X:eZ}{loc:aM}
theorem cN.LQ{p:Addr×Obj}(I:cN C ρ G (p::fo) σ m loc h):cN C ρ (p::G) fo σ m loc h:=by
 obtain⟨⟨ls,os,a,b,c,d⟩,F,nd⟩:=I;have k:Sub G (p::G):=fun q hq=>.tail _ hq;have pm:(ls++(os++((p::fo)++G))).Perm (ls++(os++(fo++(p::G)))):=(List.Perm.refl ls).append ((List.Perm.refl os).append List.perm_middle.symm);exact⟨⟨ls,os,a.mono k,b.mono k,dU c fun q hq=>pm.symm.subset hq,(List.Perm.nodup_iff (pm.map _)).mp d⟩,F,nd⟩
def Hy(ρ:dN)(G:cE)(ks:List Str)(us:List V)(ps:List (Value×Value)):Prop:=∀Ω:Prop,(∀(vals:List Value) (a:allStrKeys ps=true) (b:strPairs ps=ks.zip vals) (c:cZ ρ G us vals) (d:ks.length=vals.length),Ω)->Ω
theorem Hy.mk{ks:List Str}{us:List V}{ps:List (Value×Value)}(vals:List Value)(a:allStrKeys ps=true)(b:strPairs ps=ks.zip vals)(c:cZ ρ G us vals)(d:ks.length=vals.length):Hy ρ G ks us ps:=fun U φ=>φ vals a b c d
noncomputable abbrev MU(k:Str×Nat×Pos):Option Expr:=some (.Constant (.str k.1) k.2.1 k.2.2)
theorem Qm{kl:List (Str×Nat×Pos)}{loc:aM}{Q:List V->aM->bX->Prop}(hl:kl.length=args.length)(h:AW g D C ρ X args loc σ Q)(ok:iP g D C){G fo m s:_}(I:cN C ρ G fo σ m loc s.heap){t:List (Value×Value)->Shared->Prop}
  (qe:Du C ρ G fo m s X Er)
  (k:∀vs aG bS G' ps h' bH,Q vs aG bS->Sub G G'->Hy ρ G' (kl.map (·.1)) vs ps->cN C ρ G' fo bS m aG h'->t ps (St s h' bH)):
  wpAny (model g.prog g.w) C.A (evalPairs (pairTrees (kl.map MU) args C.env pos)) t Er s:=by
 induction kl generalizing args loc σ Q G s t with
 |nil=>
  induction args with
  |nil=>exact pairTrees_nil_walk (k [] loc σ G [] s.heap s.toks h (.refl _) (.mk ([]) rfl rfl .nil rfl) I)
  |cons _ _=>cases hl
 |cons q kl ih=>
  induction args with
  |nil=>cases hl
  |cons e r _=>
   refine pairTrees_cons_walk (wpAny_Constant_str ?_);refine bI h ok (s:={s with toks:=s.toks+1}) I qe fun v dA jA G1 val h1 fN z1 z2 z3 z4 lO=>?_
   refine ih (Nat.succ.inj hl) z1 (s:=(St s h1 fN)) z4 lO fun vs cT lF G2 ps h2 iC y1 y2 y3 y4=>?_;refine y3 _ fun vals a b c d=>?_;exact k (v::vs) cT lF G2 _ h2 iC y1 (z2.trans y2) (.mk (val::vals) a (congrArg (_:: ·) b) (.cons (z3.mono y2) c) (congrArg Nat.succ d)) y4
theorem DS{keys:List (Option Expr)}(kl:List (Str×Nat×Pos))(hk:keys=kl.map MU)(hl:kl.length=args.length)(h0:kl≠[])(YH:kl.length<=15)(nd:(kl.map (·.1)).Nodup)
  (h:AW g D C ρ X args loc σ (fun vs l s=>Q (.Lf g.prog g.w (kl.map (·.1)) vs) l s)):EW g D C ρ X (.Dict keys args pos) loc σ Q:=by
 refine .of fun ok G fo m s I Qr Er q qe=>?_;subst hk;obtain⟨⟨ls,os,a,b,c,d⟩,F,nn⟩:=I;refine kdn_eval (knd:=PySem.strKind g.prog g.w) F c (TopRead.nolimit (topRead_of ok.top)) ?_ (by rw[t7];exact hl) (fun e=>h0 (List.map_eq_nil_iff.mp e)) (by rw[t7];exact YH) fun da h1 ob F1 N1 lt lo hd=>?_
 ·rw[List.all_map];exact u5.mpr fun U U=>rfl
 have dd:=dP (oa:=ob) d lt;have pm:((da,ob)::(ls++(os++(fo++G)))).Perm (ls++(os++(((da,ob)::fo)++G))):=
  List.perm_middle.symm.trans ((List.Perm.refl ls).append List.perm_middle.symm)
 have I1:cN C ρ G ((da,ob)::fo) σ m loc h1:=⟨⟨ls,os,a,b,dU N1 fun q hq=>pm.symm.subset hq,(List.Perm.nodup_iff (pm.map _)).mp dd⟩,F1,nn⟩;refine Qm hl h ok (s:={s with heap:=h1}) I1 (fun x aG bS G' ev h' bH y1 y2 y3=>qe x aG bS G' ev h' bH y1 y2 y3.rL) fun vs aG bS G' ps h' bH z1 z2 z3 z4=>?_
 refine z3 _ fun vals e1 e2 e3 e4=>?_;have hm:h'.get? da=some ob:=by
  obtain⟨ls,os,_,_,c,_⟩:=z4.ex;exact(c (da,ob) (q7 _ (q7 _ (.head _)))).1
 refine display_done_str e1 (by rw[e2,lU e4];exact nd) (Heap.dictOf_iff.mpr ⟨ob,hm,hd⟩) fun h2 ZH hs=>?_;refine bQ (Heap.dictOf_iff.mp ZH) fun o2 CU hd2=>?_;have I2:=(z4.Wn hs CU).LQ;have k1:Sub G' ((da,o2)::G'):=fun p hp=>.tail _ hp;rw[e2] at hd2;exact q _ aG bS _ _ h2 _ z1 (z2.trans k1) (.Lf (.head _) lo hd2 (e3.mono k1)) I2
noncomputable def Ez:List Str->List V->Str->V->V
 |n::ns,v::vs,k,d=>if n=k then v else Ez ns vs k d
 |_,_,_,d=>d
theorem Sz{G:cE}{k:Str}{d:V}{dv:Value}(hd:VR ρ G d dv):∀{ks:List Str} {vs:List V} {vals:List Value},cZ ρ G vs vals->VR ρ G (Ez ks vs k d) ((valueAt (ks.zip vals) k).getD dv)
 |[],_,_,_=>hd
 |_::_,[],_,h=>by induction h.out;exact hd
 |n::ns,v::vs,_,h=>by
  induction h.out with
  | @cons val vals a b=>
  show VR ρ G (if n=k then v else Ez ns vs k d) ((valueAt ((n,val)::ns.zip vals) k).getD dv);unfold valueAt;rw[List.find?_cons]
  by_cases e:n=k
  ·rw[if_pos e,show decide (n=k)=true from u7 e];exact a
  ·rw[if_neg e,show decide (n=k)=false from u0 e];exact Sz hd b
theorem Nr{name:Str}{p2:Pos}{env:Env}{m:Sem Value}:attributeBase (.Call (.Name "_law_TOLD" p) [] [] p2) name env m=m:=rfl
theorem AP{name:Str}{p2:Pos}{env:Env}(h2:(apos.endLine==pos.line)=true)(h3:noStar args=true)(h4:Nat.blt args.length 30=true):EL (.Call (.Name "_law_TOLD" p) [] [] p2) name apos pos args env:=by
 refine⟨do return (←importBound (.Call (.Name "_law_TOLD" p) [] [] p2) env).getD true,?_⟩;have hs:=bA.eq (pos:=pos) (env:=env) h3;have GQ:(backTo pos (starEach args env)).all (!·.1)=true:=by
  rw[hs,List.all_map];exact u5.mpr fun U U=>rfl
 have hn:args.length+0+0<30:=Nat.le_of_ble_eq_true h4;have hf:methodCallForm (args.length+0) (backTo pos (starEach args env)) []=true:=by
  unfold methodCallForm;rw[GQ];exact u7 hn
 rw[arm_eval_Call,Nr];unfold methodCall methodCallPos calleeOf;show(do
  let ov←eval (.Call (.Name "_law_TOLD" p) [] [] p2) env
  standAt apos.atName
  let (f,first)←holding [ov] (if methodCallForm (args.length+0) (backTo pos (starEach args env)) [] then getMethod ov name (do return (←importBound (.Call (.Name "_law_TOLD" p) [] [] p2) env).getD true) else do pure (←getAttr ov name true,[]))
  let Bx←(if !methodCallForm (args.length+0) (backTo pos (starEach args env)) []||apos.endLine==pos.line then pure pos else _)
  callWith Bx f first (backTo pos (starEach args env)) [])=_
 rw[hf,h2]
 rfl
def Xu(ks:List Str)(vs:List V)(Q:tU)(ws:List V)(l:aM)(s:bX):Prop:=∀Ω:Prop,(∀(k:Str) (d:V) (e:ws=[.str k,d]) (h:Q (Ez ks vs k d) l s),Ω)->Ω
theorem Xu.mk{ks:List Str}{l:aM}{s:bX}(k:Str)(d:V)(e:ws=[.str k,d])(h:Q (Ez ks vs k d) l s):Xu ks vs Q ws l s:=fun U φ=>φ k d e h
def DN(g:Gl)(D:Nat)(C:Cx)(ρ:dN)(X:eZ)(args:List Expr)(Q:tU)(v:V)(l:aM)(s:bX):Prop:=∀Ω:Prop,(∀(ks:List Str) (vs:List V) (e:v=.Lf g.prog g.w ks vs) (h:AW g D C ρ X args l s (Xu ks vs Q)),Ω)->Ω
theorem DN.mk{D:Nat}{C:Cx}{X:eZ}{v:V}{l:aM}{s:bX}(ks:List Str)(vs:List V)(e:v=.Lf g.prog g.w ks vs)(h:AW g D C ρ X args l s (Xu ks vs Q)):DN g D C ρ X args Q v l s:=fun U φ=>φ ks vs e h
theorem Mv(he:EL o "get" apos pos args C.env)(hs:bA pos args C.env)
  (h:EW g D C ρ X o loc σ (DN g D C ρ X args Q)):EW g D C ρ X (.Call (.Attribute o "get" apos) args [] pos) loc σ Q:=by
 refine .of fun ok G fo m s I Qr Er q qe=>?_;obtain⟨pl,he⟩:=he;refine MethodCall_ (bI h ok I qe fun v dA jA G1 val h1 fN z1 z2 z3 z4 lO=>?_) he;refine z1 _ ?_;clear z1
 rintro ks vs rfl z
 induction z3.out with
 | @Lf a o vals hm lo hd hv=>
 obtain⟨ls,os,_,_,c,_⟩:=z4.ex;refine kdg_method (knd:=PySem.strKind g.prog g.w) (s:=(St s h1 fN)) c (q7 _ (q7 _ (q7 _ hm))) hd ?_;refine jQ hs ?_;refine iR z ok (s:=(St s h1 fN)) z4 lO fun ws cT lF G2 vals2 h2 iC y1 y2 y3 y4 tO=>?_;refine y1 _ ?_;clear y1
 rintro k d rfl hq
 induction y3.out with
 |cons hx l9=>
 induction l9.out with
 |cons hy m4=>
 induction m4.out;induction hx.out
 obtain⟨d7,qX,_,_,c2,_⟩:=y4.ex;exact kdg_get2 (knd:=PySem.strKind g.prog g.w) (s:=(St s h2 iC)) c2 (q7 _ (q7 _ (q7 _ (y2 _ hm)))) hd lo (strKind_is _ _ _ _) _ rfl (q _ cT lF G2 _ h2 _ hq (z2.trans y2) (Sz hy (hv.mono y2)) y4)
noncomputable def V.mJ:Nat->V->Bool
 |0,v=>v.atom
 |n+1,v=>v.sel false true (fun U=>true) (fun U=>true) (fun U=>true) (fun U=>false) (fun U U U=>false) (fun us=>us.all (V.mJ n)) (fun us=>us.all (V.mJ n))
theorem Eu{n:Nat}{b:Bool}(hb:b=true):((List.range n).all (fun U=>true)&&b)=true:=by
 rw[hb,Bool.and_true];exact u5.mpr fun U U=>rfl
theorem xP{us:List V}{vals vals2:List Value}{P:Value->Value->Prop}(hv:cZ ρ G us vals)(Ql:cZ ρ G us vals2)(k:∀u∈us,∀a b,VR ρ G u a->VR ρ G u b->P a b):∀j (h1:j<vals.toArray.size) (h2:j<vals2.toArray.size),P vals.toArray[j] vals2.toArray[j]:=fun j h1 h2=>by
 rw[v8] at h1 h2;have hj:j<us.length:=by rw[←hv.length];exact h1
 refine bQ (hv.PV (i:=j) (List.getElem?_eq_getElem hj)) fun v1 e1 r1=>?_;refine bQ (Ql.PV (i:=j) (List.getElem?_eq_getElem hj)) fun v2 e2 r2=>?_;have f1:vals.toArray[j]=v1:=by
  rw[List.getElem?_eq_getElem h1] at e1;exact Option.some.inj e1
 have f2:vals2.toArray[j]=v2:=by
  rw[List.getElem?_eq_getElem h2] at e2;exact Option.some.inj e2
 rw[f1,f2];exact k _ (List.getElem_mem hj) _ _ r1 r2
theorem Nz{s:Shared}(I:cN C ρ G fo σ m loc s.heap):∀(n:Nat) {u:V} {A:Around} {a b:Value},A.units+n<cLine->VR ρ G u a->VR ρ G u b->u.mJ n=true->EqAt A s a b true:=by
 intro eN;induction eN with
 |zero=>
  intro u A a b hu ha hb hd;exact oE ha hb hd
 |succ n ih=>
  intro u A a b hu ha hb hd;cases u with
  |none=>exact oE ha hb rfl
  |bool b=>exact oE ha hb rfl
  |int i=>exact oE ha hb rfl
  |str i=>exact oE ha hb rfl
  |tup us=>
   have hd:us.all (V.mJ n)=true:=hd;induction ha.out with
   | @tup a vals hm hv=>
   induction hb.out with
   | @tup b vals2 AD Ql=>
   by_cases e:a=b
   ·subst e;exact EqAt.same _
   ·refine EqAt.of_refs e ?_;have:=RcAt.tuples (A:=A) (s:=s) (e:=fun U=>true) (I.vE hm) (I.vE AD) (v9 (x7 _ _) hu) (xP hv Ql fun u MN a b h1 h2=>ih (A:=A.in1) (show A.units+1+n<cLine from by rw[Nat.add_assoc,v7 1 n];exact hu) h1 h2 (u5.mp hd u MN))
    rwa [Eu (by rw[v8,v8,hv.length,Ql.length];exact beq_self_eq_true _)] at this
  |lst us=>
   have hd:us.all (V.mJ n)=true:=hd;induction ha.out with
   | @lst a vals n1 hm hv=>
   induction hb.out with
   | @lst b vals2 n2 AD Ql=>
   by_cases e:a=b
   ·subst e;exact EqAt.same _
   ·refine EqAt.of_refs e ?_;have:=RcAt.lists (A:=A) (s:=s) (e:=fun U=>true) (I.listAt hm) (I.listAt AD) (by rw[v8,v8,hv.length,Ql.length]) (v9 (x7 _ _) hu) (xP hv Ql fun u MN a b h1 h2=>ih (A:=A.in1) (show A.units+1+n<cLine from by rw[Nat.add_assoc,v7 1 n];exact hu) h1 h2 (u5.mp hd u MN))
    rwa [show((List.range vals.toArray.size).all (fun U=>true))=true from u5.mpr fun U U=>rfl] at this
  |_=>exact(Bool.false_ne_true hd).elim
def QK(Q:tU)(a b:V)(l:aM)(s:bX):Prop:=∀Ω:Prop,(∀(us:List V) (ha:a=.tup us) (hb:b=.tup us) (hd:us.all (V.mJ 3)=true) (h:Q (.bool true) l s),Ω)->Ω
theorem QK.mk{a b:V}{l:aM}{s:bX}(us:List V)(ha:a=.tup us)(hb:b=.tup us)(hd:us.all (V.mJ 3)=true)(h:Q (.bool true) l s):QK Q a b l s:=fun U φ=>φ us ha hb hd h
theorem DT{l r:Expr}(hm:behindInMarks .Eq r=false)(hD:1<=D)(h:EW g D C ρ X l loc σ (Kp g D C ρ X r (QK Q))):EW g D C ρ X (.Compare l [.Eq] [r] pos) loc σ Q:=by
 refine .of fun ok G fo m s I Qr Er q qe=>?_;refine wpAny_Compare1 (jP h ok I qe fun a b aG bS G' av bv h' bH z1 z2 z3 z4 z5 U=>?_) hm;refine z1 _ ?_;clear z1
 rintro us rfl rfl hd hq
 have hu:=ok.OH;induction z3.out with
 | @tup a vals hm hv=>
 induction z4.out with
 | @tup b vals2 AD Ql=>
 refine eq_tupleAt (s:=(St s h' bH)) (e:=fun U=>true) (z5.vE hm) (z5.vE AD) (v9 (x7 _ _) hu) (xP hv Ql fun u MN a b h1 h2=>Nz (s:=(St s h' bH)) z5 3 (A:=C.A.in1) (show C.A.units+1+3<cLine from v9 (t9 (q5 (by decide:4<=8 * 1) (Nat.mul_le_mul_left 8 hD)) _) hu) h1 h2 (u5.mp hd u MN)) ?_;rw[Eu (by rw[v8,v8,hv.length,Ql.length];exact beq_self_eq_true _)];exact q (.bool true) aG bS G' _ h' bH hq z2 .bool z5
end
end
@[irreducible] def mE(g:Gl)(D:Nat)(C:Cx)(ρ:dN)(t:Sem Flow)(loc:aM)(σ:bX):Prop:=
 iP g D C->∀G fo m s,cN C ρ G fo σ m loc s.heap->∀(Qr:Flow->Shared->Prop) (Er:dQ),
  (∀ρ' G' bS m' aG h' bH,cN C ρ' G' fo bS m' aG h'->Qr (.ret (.bool true)) (St s h' bH))->wpAny (model g.prog g.w) C.A t Qr Er s
theorem mE.of{D:Nat}{C:Cx}{t:Sem Flow}{loc:aM}(h:
 iP g D C->∀G fo m s,cN C ρ G fo σ m loc s.heap->∀(Qr:Flow->Shared->Prop) (Er:dQ),
  (∀ρ' G' bS m' aG h' bH,cN C ρ' G' fo bS m' aG h'->Qr (.ret (.bool true)) (St s h' bH))->wpAny (model g.prog g.w) C.A t Qr Er s):mE g D C ρ t loc σ:=by delta mE;exact h
theorem mE.out{D:Nat}{C:Cx}{t:Sem Flow}{loc:aM}(h:mE g D C ρ t loc σ):
 iP g D C->∀G fo m s,cN C ρ G fo σ m loc s.heap->∀(Qr:Flow->Shared->Prop) (Er:dQ),
  (∀ρ' G' bS m' aG h' bH,cN C ρ' G' fo bS m' aG h'->Qr (.ret (.bool true)) (St s h' bH))->wpAny (model g.prog g.w) C.A t Qr Er s:=by delta mE at h;exact h
section
variable{D:Nat}{C:Cx}{loc:aM}
theorem Yb{t:Sem Flow}(h:Yg g D C ρ (fun U U U=>False) t loc σ (fun f U U=>f=.ret (.bool true))):mE g D C ρ t loc σ:=by
 refine .of fun ok G fo m s I Qr Er q=>?_;refine h.out ok G fo m s I Qr Er (fun f aG bS G' m' fv h' bH z1 z2 z3 z4=>?_) fun U U U U U U U U z=>z.elim;subst z1;induction z3.out with
 |ret hv=>induction hv.out;exact q ρ G' bS m' aG h' bH z4
structure Rp(g:Gl)(D:Nat)(C:Cx)(ρ:dN)(r:List Stmt)(f:Fl)(l:aM)(s:bX):Prop where
 e:f=.next
 h:mE g D C ρ (execs r C.env) l s
theorem Rq{st:Stmt}{r:List Stmt}(h:kA g D C ρ (fun U U U=>False) st loc σ (Rp g D C ρ r)):mE g D C ρ (execs (st::r) C.env) loc σ:=by
 refine .of fun ok G fo m s I Qr Er q=>?_;refine wpAny_execs_cons (h.out ok G fo m s I _ _ (fun f aG bS G' m' fv h' bH z1 z2 z3 z4=>?_) fun U U U U U U U U z=>z.elim);obtain⟨rfl,z1⟩:=z1;induction z3.out
 exact z1.out ok G' fo m' (St s h' bH) z4 Qr Er q
theorem rF{t:Sem Flow}(h0:(x,LV.ml ws)∈loc)(u:dW x (.val (.lst ws)) loc aG)(h:mE g D C ρ t aG σ):mE g D C ρ t loc σ:=by
 refine .of fun ok G fo m s I Qr Er q=>?_;refine Ms (I.freeze h0 u) fun a p hm hv I'=>?_;exact h.out ok _ fo m s I' Qr Er q
theorem El(F:aP g)(SF:Bv g){tp:Pos}{r:List Stmt}{t:Str}(hD:8<=D)(hh:C.A.handled=none)(hg:C.cs.names.lookup ("Scanner":Str)=some .globalImplicit)(hy:aF C y)(hx:aF C x)(h0:(y,LV.val (.str t))∈loc)(hp:∀c∈t.cps.toList,zG c=true)(hl:t.length<=99999)
  (Fs:(loc.all fun p=>p.2.free)=true) (u:dW x (.val .self) loc aG) (Uk:swapsWith (.Call (.Name "Scanner" np) [.Name y tp] [] cp) (some (.Name x p)) pos.line C.env=pure false)
  (h:∀ρ' ka ko,mE g D C ρ' (execs r C.env) aG (some ((Z.init t.cps.toList).sc ka ko))):mE g D C ρ (execs (.Assign [.Name x p] (.Call (.Name "Scanner" np) [.Name y tp] [] cp) pos::r) C.env) loc none:=by
 refine .of fun ok G fo m s I Qr Er q=>?_;obtain⟨ls,os,a,b,c,d⟩:=I.ex;refine bQ (b.get h0) fun val e1 e2=>?_;induction e2.out
 refine wpAny_execs_cons (wpAny_Assign_Name (wpAny_Call_ofName (nameX_K I.fr ok.kB (topRead_of ok.top) (F.gl 18 rfl) ?_ ok.kind hg rfl)) Uk);refine gK (first:=[]) rfl SF.kp ?_;refine spliced_cons (nameX_L I.fr e1 ?_ ok.kind hy.1 hy.2);refine spliced_nil ⟨ok.kB.keeps I.fr.keep,?_⟩;refine By F SF hp hl hD ok hh I Fs fun ρ' G' ka ko h' bH sub I'=>?_;refine gI ok hx.1 (s:=(St s h' bH)) I' .self u fun h2 t2 I2=>?_;exact(h ρ' ka ko).out ok G' fo _ (St s h2 t2) I2 Qr Er q
end
noncomputable def pS(c:Nat):Bool:=!(isIn [32,35,13,10,133,8232,8233] c)
theorem nE{c:Nat}(h:pS c=true)(k:Nat)(hk:isIn [32,35,13,10,133,8232,8233] k=true):c≠k:=fun e=>by
 rw[e] at h;unfold pS at h;rw[hk] at h;exact nomatch h
theorem Ga{c:Nat}(h:pS c=true):isIn [13,10,133] c=false/\isIn [8232,8233] c=false:=by
 constructor
 ·cases e:isIn [13,10,133] c with
  |false=>rfl
  |true=>
   rcases s8.mp (s9.mp e) with x|x
   ·exact absurd x (nE h 13 rfl)
   ·rcases s8.mp x with x|x
    ·exact absurd x (nE h 10 rfl)
    ·exact absurd (List.mem_singleton.mp x) (nE h 133 rfl)
 ·cases e:isIn [8232,8233] c with
  |false=>rfl
  |true=>
   rcases s8.mp (s9.mp e) with x|x
   ·exact absurd x (nE h 8232 rfl)
   ·exact absurd (List.mem_singleton.mp x) (nE h 8233 rfl)
theorem xV{c:Nat}(hr:z.rem=c::r)(h:pS c=true):dH z=.ok [] z:=by
 unfold dH;rw[hr];show(if isIn [13,10,133] c then _ else if isIn [8232,8233] c then _ else R.ok [] z)=_;rw[if_neg (by rw[(Ga h).1];decide),if_neg (by rw[(Ga h).2];decide)]
theorem CP{n:Nat}{c:Nat}(hr:z.rem=c::r)(h:pS c=true):bP (n+1) z=.ok () z:=by
 rw[fC];unfold qY;have e:span (· ==32) z.rem=some 0:=by rw[hr,nV,if_neg (by simpa using nE h 32 rfl)]
 rw[e];show(peek 0 z).bind _=_;unfold peek;rw[hr];show((if c=35 then qY (fun c=>!isIn Qp c) z else R.ok () z).bind _)=_;rw[if_neg (nE h 35 rfl)];show(dH z).bind _=_;rw[xV hr h];rfl
noncomputable def Z.at_(z:Z)(ptr:Int)(rem:List Nat)(line col:Int):Z:={z with ptr:=ptr,rem:=rem,line:=line,col:=col}
theorem GL{n:Nat}{p l k:Int}(hf:z.aH≠0):bP (n+1) (z.at_ p (10::r) l k)=bP n (z.at_ (p+1) r (l+1) 0):=by
 rw[fC];show bP n (if z.aH=0 then _ else _)=_;rw[if_neg hf];rfl
theorem nP{n:Nat}{p l k:Int}:bP (n+1) (z.at_ p (32::r) l k)=bP (n+1) (z.at_ (p+1) r l (k+1)):=by
 have e:qY (· ==32) (z.at_ p (32::r) l k)=qY (· ==32) (z.at_ (p+1) r l (k+1)):=by
  show(match (span (· ==32) r).map (· +1) with|some n=>qC n _|none=>R.wall)=match span (· ==32) r with|some n=>qC n _|none=>R.wall
  cases span (· ==32) r with
  |none=>rfl
  |some m=>rfl
 rw[fC,fC,e]
theorem Zu{n:Nat}{p l k:Int}(hf:z.aH≠0):bP (n+1) (z.at_ p (133::r) l k)=bP n (z.at_ (p+1) r (l+1) 0):=by
 rw[fC];show bP n (if z.aH=0 then _ else _)=_;rw[if_neg hf];rfl
theorem GK{n:Nat}{p l k:Int}(hf:z.aH≠0):bP (n+1) (z.at_ p (8232::r) l k)=bP n (z.at_ (p+1) r (l+1) 0):=by
 rw[fC];show bP n (if z.aH=0 then _ else _)=_;rw[if_neg hf];rfl
theorem Ua{n:Nat}{p l k:Int}(hf:z.aH≠0):bP (n+1) (z.at_ p (13::10::r) l k)=bP n (z.at_ (p+1+1) r (l+1) 0):=by
 rw[fC];show bP n (if z.aH=0 then _ else _)=_;rw[if_neg hf];rfl
theorem GJ{n:Nat}{p l k:Int}(hd:d≠10)(hf:z.aH≠0):bP (n+1) (z.at_ p (13::d::r) l k)=bP n (z.at_ (p+1) (d::r) (l+1) 0):=by
 have e1:bO (z.at_ p (13::d::r) l k)=.ok () (z.at_ (p+1) (d::r) (l+1) 0):=by
  show(if d=10 then _ else _)=_;rw[if_neg hd];rfl
 have e2:dH (z.at_ p (13::d::r) l k)=.ok [10] (z.at_ (p+1) (d::r) (l+1) 0):=by
  show(if[13,d]=[13,10] then _ else(qC 1 _).bind _)=_;rw[if_neg (fun h=>hd (List.cons.inj (List.cons.inj h).2).1)];show((bO _).bind _).bind _=_;rw[e1];rfl
 rw[fC];show((dH _).bind _)=_;rw[e2];show bP n (if z.aH=0 then _ else _)=_;rw[if_neg hf]
theorem Tx{n:Nat}{p l k:Int}(hf:z.aH≠0):bP (n+1) (z.at_ p (35::32::58::10::r) l k)=bP n (z.at_ (p+1+1+1+1) r (l+1) 0):=by
 rw[fC];show bP n (if z.aH=0 then _ else _)=_;rw[if_neg hf];rfl
theorem Tz{n:Nat}{p l k:Int}(hf:z.aH≠0):bP (n+1) (z.at_ p (35::44::8233::r) l k)=bP n (z.at_ (p+1+1+1) r (l+1) 0):=by
 rw[fC];show bP n (if z.aH=0 then _ else _)=_;rw[if_neg hf];rfl
theorem OX(z:Z):z=z.at_ z.ptr z.rem z.line z.col:=rfl
theorem gM{n:Nat}{p l k:Int}{c:Nat}(h:pS c=true):bP (n+1) (z.at_ p (c::r) l k)=.ok () (z.at_ p (c::r) l k):=CP rfl h
noncomputable def gX:List (List Nat×Int):=[([32],0),([],0),([10],1),([32,32],0),([13,10,32],1),([32,35,32,58,10],1),([13],1),([133,32],1),([8232],1),([32,35,44,8233],1),([35,32,58,10],1),([35,44,8233],1)]
theorem qO{a:Int}(h:0<=a):0<=a+1:=Int.le_trans h (Int.le_add_of_nonneg_right (by decide))
theorem xX{a:Int}(h:0<=a):0<=a+1+1:=qO (qO h)
theorem TY{a:Int}(h:0<=a):0<=a+1+1+1:=qO (xX h)
theorem nn{n:Nat}:(0:Int)<=Int.ofNat n:=u4 n
theorem fa{α:Type}{P:α->Prop}{a:α}{l:List α}(h:P a)(t:∀x∈l,P x):∀x∈a::l,P x:=List.forall_mem_cons.mpr ⟨h,t⟩
theorem PA{α:Type}{P:α->Prop}:∀x∈([]:List α),P x:=fun _ h=>nomatch h
def Nd(q:List Nat×Int):Prop:=∀{z:Z},z.aH≠0->∀{p l k:Int} {c:Nat} {r:List Nat},pS c=true->∃p' l' k',bP 1000 (z.at_ p (q.1++c::r) l k)=.ok () (z.at_ p' (c::r) l' k')/\p'=p+q.1.length/\l'=l+q.2/\(0<=k->0<=k')
theorem Zw:∀q∈gX,Nd q:=by
 refine fa (P:=Nd) (fun{_} hf {_ _ _ _ _} h=>pF _ _ _ (nP.trans (gM h)) rfl ((u9 _).symm) (by first|exact id|exact qO|exact xX|exact fun U=>nn)) ?_;refine fa (P:=Nd) (fun{_} hf {_ _ _ _ _} h=>pF _ _ _ (gM h) ((u9 _).symm) ((u9 _).symm) (by first|exact id|exact qO|exact xX|exact fun U=>nn)) ?_;refine fa (P:=Nd) (fun{_} hf {_ _ _ _ _} h=>pF _ _ _ ((GL hf).trans (gM h)) rfl rfl (by first|exact id|exact qO|exact xX|exact fun U=>nn)) ?_;refine fa (P:=Nd) (fun{_} hf {_ _ _ _ _} h=>pF _ _ _ (nP.trans (nP.trans (gM h))) (t8 ..) ((u9 _).symm) (by first|exact id|exact qO|exact xX|exact fun U=>nn)) ?_;refine fa (P:=Nd) (fun{_} hf {_ _ _ _ _} h=>pF _ _ _ ((Ua hf).trans (nP.trans (gM h))) ((t8 ..).trans (t8 ..)) rfl (by first|exact id|exact qO|exact xX|exact fun U=>nn)) ?_;refine fa (P:=Nd) (fun{_} hf {_ _ _ _ _} h=>pF _ _ _ (nP.trans ((Tx hf).trans (gM h))) ((t8 ..).trans ((t8 ..).trans ((t8 ..).trans (t8 ..)))) rfl (by first|exact id|exact qO|exact xX|exact fun U=>nn)) ?_;refine fa (P:=Nd) (fun{_} hf {_ _ _ _ _} h=>pF _ _ _ ((GJ (nE h 10 rfl) hf).trans (gM h)) rfl rfl (by first|exact id|exact qO|exact xX|exact fun U=>nn)) ?_;refine fa (P:=Nd) (fun{_} hf {_ _ _ _ _} h=>pF _ _ _ ((Zu hf).trans (nP.trans (gM h))) (t8 ..) rfl (by first|exact id|exact qO|exact xX|exact fun U=>nn)) ?_;refine fa (P:=Nd) (fun{_} hf {_ _ _ _ _} h=>pF _ _ _ ((GK hf).trans (gM h)) rfl rfl (by first|exact id|exact qO|exact xX|exact fun U=>nn)) ?_;refine fa (P:=Nd) (fun{_} hf {_ _ _ _ _} h=>pF _ _ _ (nP.trans ((Tz hf).trans (gM h))) ((t8 ..).trans ((t8 ..).trans (t8 ..))) rfl (by first|exact id|exact qO|exact xX|exact fun U=>nn)) ?_;refine fa (P:=Nd) (fun{_} hf {_ _ _ _ _} h=>pF _ _ _ ((Tx hf).trans (gM h)) ((t8 ..).trans ((t8 ..).trans (t8 ..))) rfl (by first|exact id|exact qO|exact xX|exact fun U=>nn)) ?_;refine fa (P:=Nd) (fun{_} hf {_ _ _ _ _} h=>pF _ _ _ ((Tz hf).trans (gM h)) ((t8 ..).trans (t8 ..)) rfl (by first|exact id|exact qO|exact xX|exact fun U=>nn)) ?_;exact PA
theorem Zv{g:List Nat}{d:Int}(hg:(g,d)∈gX)(hf:z.aH≠0){p l k:Int}{c:Nat}(h:pS c=true):
  ∃p' l' k',bP 1000 (z.at_ p (g++c::r) l k)=.ok () (z.at_ p' (c::r) l' k')/\p'=p+g.length/\l'=l+d/\(0<=k->0<=k'):=Zw _ hg hf h
noncomputable def live(line ptr:Int)(k:lL):Bool:=decide (k.line=line)&&decide (ptr-k.idx<=1024)
theorem pQ(nd:(ks.map (·.1)).Nodup){x:Int}(hx:x∈ks.map (·.1)):∃k,eE ks x=some k/\(x,k)∈ks/\∀kv∈ks,kv.1=x->kv.2=k:=by
 induction ks with
 |nil=>exact nomatch hx
 |cons a r ih=>
  obtain⟨y,k⟩:=a;have Mb:=x6.mp nd
  by_cases e:y=x
  ·subst e;refine(tS k ?_ (.head _) (fun kv hk h1=>?_))
   ·unfold eE;rw[List.find?_cons];simp
   ·rcases s8.mp hk with h|h
    ·rw[h]
    ·exact absurd (h1▸List.mem_map_of_mem (f:=(·.1)) h) Mb.1
  ·rcases s8.mp hx with h|h
   ·exact absurd h.symm e
   ·refine jM (ih Mb.2 h) fun k' h1 h2 h3=>?_;refine(tS k' ?_ (.tail _ h2) (fun kv hk hh=>?_))
    ·unfold eE at h1⊢;rw[List.find?_cons];simpa[e] using h1
    ·rcases s8.mp hk with h|h
     ·rw[h] at hh;exact absurd hh e
     ·exact h3 kv h hh
theorem Jz:∀(l:List Int) {z:Z},(z.keys.map (·.1)).Nodup->l.Nodup->(∀x∈l,x∈z.keys.map (·.1))->(∀kv∈z.keys,kv.2.req=false)->z.keys.length<=1000->
  iI l z=.ok () {z with keys:=z.keys.filter fun kv=>!l.contains kv.1||live z.line z.ptr kv.2}:=by
 intro eN;induction eN with
 |nil=>
  intro z _ _ _ _ _;show R.ok () z=_;rw[show z.keys.filter (fun kv=>!([]:List Int).contains kv.1||live z.line z.ptr kv.2)=z.keys from List.filter_eq_self.mpr fun kv _=>rfl]
 |cons x r ih=>
  intro z nd g4 hl hq Ud;refine jM (pQ nd (hl x (.head _))) fun k g1 g2 g3=>?_;have TV:=x6.mp g4;have e0:iI (x::r) z=(match eE z.keys x with
   |none=>R.wall
   |some k=>if k.line≠z.line\/1024<z.ptr-k.idx then(if k.req=true then R.wall else if z.keys.length<=1000 then iI r {z with keys:=cA z.keys x} else R.wall) else iI r z):=rfl
  rw[e0,g1];show(if k.line≠z.line\/1024<z.ptr-k.idx then _ else _)=_
  by_cases c:k.line≠z.line\/1024<z.ptr-k.idx
  ·have nl:live z.line z.ptr k=false:=by
    unfold live
    rcases c with c|c
    ·rw[u0 c];rfl
    ·rw[u0 (Int.not_le.mpr c:¬(z.ptr-k.idx<=1024)),Bool.and_false]
   rw[if_pos c,if_neg (by rw[hq _ g2];decide),if_pos Ud];have sub:(cA z.keys x).Sublist z.keys:=List.filter_sublist;have:=ih (z:={z with keys:=cA z.keys x}) ((sub.map _).nodup nd) TV.2 (fun y hy=>by
    refine bQ (List.mem_map.mp (hl y (.tail _ hy))) fun kv m1 m2=>?_;exact List.mem_map.mpr (fG kv (List.mem_filter.mpr ⟨m1,u7 fun e=>TV.1 (by rw[←e,m2];exact hy)⟩) m2)) (fun kv hk=>hq kv (sub.subset hk)) (q5 sub.length_le Ud)
   rw[this];show R.ok () {z with keys:=(z.keys.filter _).filter _}=R.ok () {z with keys:=_}
   rw[List.filter_filter,List.filter_congr];intro kv hk
   by_cases e:kv.1=x
   ·rw[g3 kv hk e];simp[e,nl]
   ·simp[e]
  ·have li:live z.line z.ptr k=true:=by
    unfold live;have c:=not_or.mp c;rw[u7 (Classical.not_not.mp c.1),u7 (Int.not_lt.mp c.2)];rfl
   rw[if_neg c,ih nd TV.2 (fun y hy=>hl y (.tail _ hy)) hq Ud];show R.ok () {z with keys:=_}=R.ok () {z with keys:=_}
   rw[List.filter_congr];intro kv hk
   by_cases e:kv.1=x
   ·rw[g3 kv hk e];simp[li]
   ·simp[e]
section
open PySem
structure FZ(z:Z):Prop where
 nd:(z.keys.map (·.1)).Nodup
 rq:∀kv∈z.keys,kv.2.req=false
 kl:z.keys.length<=100
 tl:z.tokens.length<=200
theorem tG(h:FZ z):stale z=.ok () {z with keys:=z.keys.filter fun kv=>live z.line z.ptr kv.2}:=by
 unfold stale;rw[if_pos (q5 h.kl (by decide)),Jz _ h.nd h.nd (fun _ hx=>hx) h.rq (q5 h.kl (by decide))];show R.ok () {z with keys:=_}=R.ok () {z with keys:=_}
 rw[List.filter_congr];intro kv hk;rw[s9.mpr (List.mem_map_of_mem (f:=(·.1)) hk)];rfl
theorem FZ.filter{z:Z}(h:FZ z)(p:Int×lL->Bool):FZ {z with keys:=z.keys.filter p}:=
 have s:(z.keys.filter p).Sublist z.keys:=List.filter_sublist
 ⟨(s.map _).nodup h.nd,fun kv hk=>h.rq kv (s.subset hk),q5 s.length_le h.kl,h.tl⟩
theorem It(h:FZ z)(hp:z.ptr≠0)(hf:z.aH≠0){g:List Nat}{d:Int}(hg:(g,d)∈gX){c:Nat}(hr:z.rem=g++c::r)(hc:pS c=true):
  ∃p' l' k',dE 1000 z=bR 1000 c {z with ptr:=p',rem:=c::r,line:=l',col:=k',keys:=z.keys.filter fun kv=>live l' p' kv.2}/\p'=z.ptr+g.length/\l'=z.line+d/\(0<=z.col->0<=k'):=by
 refine Xi (Zv (z:=z) hg hf (p:=z.ptr) (l:=z.line) (k:=z.col) (r:=r) hc) fun p' l' k' e h1 h2=>?_;refine(QQ p' l' k' ?_ h1 h2);have e':pC 1000 z=.ok () (z.at_ p' (c::r) l' k'):=by
  unfold pC;rw[if_neg hp];rw[←hr] at e;exact e
 unfold dE;rw[e'];show(stale (z.at_ p' (c::r) l' k')).bind _=_;rw[tG (z:=z.at_ p' (c::r) l' k') ⟨h.nd,h.rq,h.kl,h.tl⟩];show(fB _ _).bind _=_;unfold fB;show R.bind (if z.aH=0 then _ else _) _=_;rw[if_neg hf]
 rfl
theorem eX(h:FZ z):fA z=.ok () {z with keys:=cA z.keys z.aH}:=by
 unfold fA
 by_cases m:z.aH∈z.keys.map (·.1)
 ·refine jM (pQ h.nd m) fun k g1 g2 g3=>?_;rw[g1];show(if k.req=true then _ else if z.keys.length<=1000 then _ else _)=_;rw[if_neg (by rw[h.rq _ g2];decide),if_pos (q5 h.kl (by decide))]
 ·have g:eE z.keys z.aH=none:=by
   unfold eE;rw[List.find?_eq_none.mpr fun kv hk e=>m (List.mem_map.mpr (fG kv hk (r8 e)))];rfl
  rw[g];show R.ok () z=R.ok () {z with keys:=_}
  have:cA z.keys z.aH=z.keys:=List.filter_eq_self.mpr fun kv hk=>u7 fun e=>m (List.mem_map.mpr (fG kv hk e));rw[this]
noncomputable def lI(c:Nat):Bool:=!(isIn [10,133,8232,8233,13,65279] c)
theorem eO{c:Nat}(hr:z.rem=c::r)(hc:lI c=true):bO z=.ok () {z with ptr:=z.ptr+1,rem:=r,col:=z.col+1}:=by
 have ne:∀k,isIn [10,133,8232,8233,13,65279] k=true->c≠k:=fun k hk e=>by
  rw[e] at hc;unfold lI at hc;rw[hk] at hc;exact nomatch hc
 have e1:isIn [10,133,8232,8233] c=false:=by
  cases e:isIn [10,133,8232,8233] c with
  |false=>rfl
  |true=>
   have hm:=s9.mp e;exact absurd rfl (ne c (s9.mpr (List.mem_append_left [13,65279] hm)))
 unfold bO;rw[hr];show(if isIn [10,133,8232,8233] c then _ else if c=13 then _ else if c=65279 then _ else R.ok () _)=_;rw[if_neg (by rw[e1];decide),if_neg (ne 13 rfl),if_neg (ne 65279 rfl)]
theorem hZ{C:Addr}{c:Nat}(hr:z.rem=c::r)(hc:lI c=true)(ht:z.tokens.length<=200):
  ∃e,fF C z=.ok () {z with ptr:=z.ptr+1,rem:=r,col:=z.col+1,tokens:=z.tokens++[tk C z.mark e]}:=by
 refine⟨kZ z.buf (z.ptr+1) z.line (z.col+1),?_⟩;unfold fF;rw[eO hr hc];show push _ _=_;unfold push;rw[if_pos (q5 ht (by decide))]
 rfl
theorem Cf(h:FZ z)(hr:z.rem=44::r):∃e,oF z=.ok () {z with allow:=true,keys:=cA z.keys z.aH,ptr:=z.ptr+1,rem:=r,col:=z.col+1,tokens:=z.tokens++[tk 422 z.mark e]}:=by
 unfold oF;rw[eX (z:={z with allow:=true}) ⟨h.nd,h.rq,h.kl,h.tl⟩]
 exact hZ (z:={z with allow:=true,keys:=cA z.keys z.aH}) hr rfl h.tl
theorem wY{C:Addr}(h:FZ z){c:Nat}(hr:z.rem=c::r)(hc:lI c=true):∃e,lS C z=.ok () {z with allow:=false,aH:=z.aH-1,keys:=cA z.keys z.aH,ptr:=z.ptr+1,rem:=r,col:=z.col+1,tokens:=z.tokens++[tk C z.mark e]}:=by
 unfold lS;rw[eX h];exact hZ (z:={z with keys:=cA z.keys z.aH,aH:=z.aH-1,allow:=false}) hr hc h.tl
noncomputable def Cu(z:Z):lL:=⟨z.taken+z.tokens.length,decide (z.aH=0)&&decide (z.indent=z.col),z.ptr,z.line,z.col⟩
noncomputable def bB(z:Z):List (Int×lL):=if z.allow=true then sS (cA z.keys z.aH) z.aH (Cu z) else z.keys
theorem iA(h:FZ z):lT z=.ok () {z with keys:=bB z}:=by
 unfold lT bB
 by_cases a:z.allow=true
 ·rw[if_pos a,if_pos a,eX h];show(if(cA z.keys z.aH).length<=1000/\z.tokens.length<=1000 then _ else _)=_;rw[if_pos ⟨q5 (List.length_filter_le _ _) (q5 h.kl (by decide)),q5 h.tl (by decide)⟩];rfl
 ·rw[if_neg a,if_neg a]
theorem sH{C:Addr}(h:FZ z){c:Nat}(hr:z.rem=c::r)(hc:lI c=true):∃e,iF C z=.ok () {z with allow:=true,aH:=z.aH+1,keys:=bB z,ptr:=z.ptr+1,rem:=r,col:=z.col+1,tokens:=z.tokens++[tk C z.mark e]}:=by
 unfold iF;rw[iA h];exact hZ (z:={z with keys:=bB z,aH:=z.aH+1,allow:=true}) hr hc h.tl
end
section
open PySem
theorem yU(h:FZ z)(hf:z.aH≠0)(hr:z.rem=45::r):∃e,iW z=.ok () {z with allow:=true,keys:=cA z.keys z.aH,ptr:=z.ptr+1,rem:=r,col:=z.col+1,tokens:=z.tokens++[tk 410 z.mark e]}:=by
 unfold iW;rw[if_neg hf,eX (z:={z with allow:=true}) ⟨h.nd,h.rq,h.kl,h.tl⟩]
 exact hZ (z:={z with allow:=true,keys:=cA z.keys z.aH}) hr rfl h.tl
theorem Fd(h:FZ z)(hf:z.aH≠0)(hr:z.rem=63::r):∃e,oD z=.ok () {z with allow:=false,keys:=cA z.keys z.aH,ptr:=z.ptr+1,rem:=r,col:=z.col+1,tokens:=z.tokens++[tk 386 z.mark e]}:=by
 unfold oD;rw[if_neg hf];rw[eX (z:={z with allow:=false}) ⟨h.nd,h.rq,h.kl,h.tl⟩]
 exact hZ (z:={z with allow:=false,keys:=cA z.keys z.aH}) hr rfl h.tl
theorem vJ(h:FZ z)(hf:z.aH≠0)(hk:eE z.keys z.aH=none)(hr:z.rem=58::r):∃e,eA z=.ok () {z with allow:=false,keys:=cA z.keys z.aH,ptr:=z.ptr+1,rem:=r,col:=z.col+1,tokens:=z.tokens++[tk 398 z.mark e]}:=by
 unfold eA;rw[hk];show∃e,(if z.aH=0 then _ else _)=_;rw[if_neg hf,eX (z:={z with allow:=false}) ⟨h.nd,h.rq,h.kl,h.tl⟩]
 exact hZ (z:={z with allow:=false,keys:=cA z.keys z.aH}) hr rfl h.tl
theorem vK(h:FZ z)(hf:z.aH≠0){k:lL}(hk:eE z.keys z.aH=some k){n:Nat}(hn:k.no=z.taken+n)(AE:n<=z.tokens.length)(ht:z.tokens.length+1<=200)(hr:z.rem=58::r):
  ∃e,eA z=.ok () {z with allow:=false,keys:=cA z.keys z.aH,ptr:=z.ptr+1,rem:=r,col:=z.col+1,tokens:=z.tokens.take n++tk 386 (k.mark z.buf) (k.mark z.buf)::z.tokens.drop n++[tk 398 z.mark e]}:=by
 unfold eA;rw[hk];have hi:k.no-z.taken=n:=by rw[hn];exact(congrArg (· -z.taken) (Int.add_comm ..)).trans (Int.add_sub_cancel ..)
 show∃e,(if z.keys.length<=1000 then _ else _)=_;rw[if_pos (q5 h.kl (aR rfl)),hi];have e1:iH (n:Int) (tk 386 (k.mark z.buf) (k.mark z.buf)) {z with keys:=cA z.keys z.aH}=.ok () {z with keys:=cA z.keys z.aH,tokens:=z.tokens.take n++tk 386 (k.mark z.buf) (k.mark z.buf)::z.tokens.drop n}:=by
  unfold iH;rw[if_pos ⟨u4 n,AE,q5 h.tl (aR rfl)⟩];rfl
 rw[e1];show∃e,R.bind (if z.aH=0 then _ else _) _=_;rw[if_neg hf];refine hZ (z:={z with allow:=false,keys:=cA z.keys z.aH,tokens:=z.tokens.take n++tk 386 (k.mark z.buf) (k.mark z.buf)::z.tokens.drop n}) hr rfl ?_
 show(z.tokens.take n++_::z.tokens.drop n).length<=200;rw[q6,List.length_cons,List.length_take,List.length_drop];exact q5 (r9 ((v7 ..).trans ((Nat.add_right_comm ..).trans (congrArg (· +1) ((congrArg (z.tokens.length-n+ ·) (Nat.min_comm ..)).trans (Nat.sub_add_min_cancel ..)))))) ht
theorem Yz:bR 1000 44 z=oF z:=rfl
theorem Zc:bR 1000 91 z=iF 338 z:=rfl
theorem Ta:bR 1000 123 z=iF 350 z:=rfl
theorem Zd:bR 1000 93 z=lS 362 z:=rfl
theorem Tb:bR 1000 125 z=lS 374 z:=rfl
theorem wX(hf:z.aH≠0):kT z=.ok true z:=if_neg hf
theorem Zb(hf:z.aH≠0):bR 1000 63 z=oD z:=by
 show(kT z).bind _=_;rw[wX hf];rfl
theorem Lh(hf:z.aH≠0):bR 1000 58 z=eA z:=by
 show(kT z).bind _=_;rw[wX hf];rfl
theorem Yy:bR 1000 42 z=gG 441 z:=rfl
theorem Yx:bR 1000 38 z=gG 460 z:=rfl
theorem Yv:bR 1000 33 z=pN z:=rfl
theorem Lg:bR 1000 39 z=cD 39 z:=rfl
theorem Yw:bR 1000 34 z=cD 34 z:=rfl
end
section
open PySem
theorem Za(hr:z.rem=45::d::r)(hd:isIn lP d=true):bR 1000 45 z=iW z:=by
 have SH:d≠45:=fun e=>by rw[e] at hd;exact nomatch hd
 unfold bR;rw[if_neg (aR rfl),if_neg (aR rfl),if_neg (fun h=>by
  have h:=h.2.2;rw[hr] at h;cases r with
  |nil=>exact nomatch h
  |cons x r=>exact SH (List.cons.inj (List.cons.inj h).2).1)]
 show((peek 1 z).bind fun d z=>R.ok (isIn lP d) z).bind _=_;unfold peek;rw[hr];show(if isIn lP d=true then iW z else _)=_;rw[if_pos hd]
theorem FK(hf:z.aH≠0)(hr:z.rem=64::d::r)(hd:isIn lP d=true):bR 1000 64 z=.err .none z.mark:=by
 show(mI 64 z).bind _=_;unfold mI;rw[if_pos (show isIn oJ 64=true from rfl)];unfold peek;rw[hr];show R.bind (if isIn lP d=true then _ else _) _=_;rw[if_pos hd]
 rfl
theorem LO(h:FZ z)(hf:z.aH≠0):bR 1000 0 z=.ok () {z with keys:=[],allow:=false,tokens:=z.tokens++[tk 290 z.mark z.mark],done:=true}:=by
 show iJ z=_;unfold iJ fB;rw[if_neg hf];show(fA z).bind _=_;rw[eX h];show(push _ _).bind _=_;unfold push;rw[if_pos (q5 h.tl (aR rfl))];rfl
theorem Gg(hd:isIn nF d=true):nQ d=false:=by
 have k:∀x∈nF,nQ x=false:=by decide+kernel
 exact k d (s9.mp hd)
theorem zU{C:Addr}(h:FZ z){a x:Nat}(hr:z.rem=a::x::d::r)(ha:lI a=true)(hx:nQ x=true)(AG:lI x=true)(hd:isIn nF d=true):
  ∃e,gG C z=.ok () {z with allow:=false,keys:=bB z,ptr:=z.ptr+1+1,rem:=d::r,col:=z.col+1+1,tokens:=z.tokens++[IL C (sv [x]) z.mark e]}:=by
 refine⟨kZ z.buf (z.ptr+1+1) z.line (z.col+1+1),?_⟩;unfold gG;rw[iA h];show(mS C {z with keys:=bB z,allow:=false}).bind _=_
 unfold mS;have e0:peek 0 {z with keys:=bB z,allow:=false}=.ok a {z with keys:=bB z,allow:=false}:=by
  unfold peek;rw[hr];rfl
 rw[e0];show((bO {z with keys:=bB z,allow:=false}).bind _).bind _=_
 rw[eO (z:={z with keys:=bB z,allow:=false}) hr ha]
 have sp:span nQ (x::d::r)=some 1:=by
  rw[nV,if_pos hx,nV,if_neg (by rw[Gg hd];decide)];rfl
 show R.bind (match span nQ (x::d::r) with|none=>R.wall|some 0=>_|some n=>_) _=_
 rw[sp];show R.bind (R.bind (R.bind (bO {z with keys:=bB z,allow:=false,ptr:=z.ptr+1,rem:=x::d::r,col:=z.col+1}) _) _) _=_
 rw[eO (z:={z with keys:=bB z,allow:=false,ptr:=z.ptr+1,rem:=x::d::r,col:=z.col+1}) rfl AG]
 show R.bind (if isIn nF d=true then _ else _) _=_;rw[if_pos hd];show push _ _=_;unfold push;rw[if_pos (q5 h.tl (aR rfl))];rfl
end
section
open PySem
noncomputable def fV:List Nat:=[0,32,13,10,133,8232,8233]
theorem pL{P:Nat->Prop}(hd:isIn fV d=true)(h:∀x∈fV,P x):P d:=h d (s9.mp hd)
theorem II(h:FZ z)(hr:z.rem=33::103::d::r)(hd:isIn fV d=true):
  ∃e,pN z=.ok () {z with allow:=false,keys:=bB z,ptr:=z.ptr+1+1,rem:=d::r,col:=z.col+1+1,tokens:=z.tokens++[IL 479 (.tup [.str "!",sv [103]]) z.mark e]}:=by
 refine⟨kZ z.buf (z.ptr+1+1) z.line (z.col+1+1),?_⟩;unfold pN;rw[iA h];show(tA {z with keys:=bB z,allow:=false}).bind _=_
 unfold tA;have hb:isIn rZ d=true:=hd;have e0:({z with keys:=bB z,allow:=false}:Z).rem.take 2=[33,103]:=by show z.rem.take 2=_;rw[hr];rfl
 have e2:peek 2 {z with keys:=bB z,allow:=false}=.ok d {z with keys:=bB z,allow:=false}:=by unfold peek;rw[hr];rfl
 have s2:qG {z with keys:=bB z,allow:=false,ptr:=z.ptr+1,rem:=103::d::r,col:=z.col+1}=.ok [103] {z with keys:=bB z,allow:=false,ptr:=z.ptr+1+1,rem:=d::r,col:=z.col+1+1}:=by
  unfold qG;rw[if_pos (show List.take 1 (103::d::r)=[103] from rfl)];show(if isIn rZ d=true then _ else _)=_;rw[if_pos hb];rfl
 rw[if_pos e0,e2,bL,if_pos hb,eO (z:={z with keys:=bB z,allow:=false}) hr rfl,bL]
 show R.bind (R.bind (qG {z with keys:=bB z,allow:=false,ptr:=z.ptr+1,rem:=103::d::r,col:=z.col+1}) _) _=_
 rw[s2,bL];show R.bind (if isIn rZ d=true then _ else _) _=_;rw[if_pos hb];show push _ _=_;unfold push;rw[if_pos (q5 h.tl (aR rfl))];rfl
end
section
open PySem
theorem AU(hd:d≠39)(hr:z.rem=98::39::d::r):gA false z=.ok [[98]] {z with ptr:=z.ptr+1,rem:=39::d::r,col:=z.col+1}:=by
 obtain⟨buf,ptr,rem,line,col,done,aH,tokens,taken,indent,aO,allow,keys⟩:=z;change rem=_ at hr;subst hr;show(if d=39 then R.wall else R.ok _ _)=_;rw[if_neg hd];rfl
theorem Pk(h:FZ z)(hr:z.rem=39::98::39::d::r)(hd:d≠39):
  ∃e,cD 39 z=.ok () {z with allow:=false,keys:=bB z,ptr:=z.ptr+1+1+1,rem:=d::r,col:=z.col+1+1+1,tokens:=z.tokens++[yP (sv [98]) false z.mark e (sv [39])]}:=by
 refine⟨kZ z.buf (z.ptr+1+1+1) z.line (z.col+1+1+1),?_⟩;unfold cD;rw[iA h];show(eD 39 {z with keys:=bB z,allow:=false}).bind _=_
 unfold eD;have e0:peek 0 {z with keys:=bB z,allow:=false}=.ok 39 {z with keys:=bB z,allow:=false}:=by
  unfold peek;rw[hr];rfl
 rw[e0];show R.bind (R.bind (bO {z with keys:=bB z,allow:=false}) _) _=_
 rw[eO (z:={z with keys:=bB z,allow:=false}) hr rfl]
 show R.bind (R.bind (gA false _) _) _=_;rw[AU (z:={z with keys:=bB z,allow:=false,ptr:=z.ptr+1,rem:=98::39::d::r,col:=z.col+1}) hd rfl]
 show push _ _=_;unfold push;rw[if_pos (q5 h.tl (aR rfl))];rfl
theorem Oc(h:FZ z)(hr:z.rem=34::100::34::d::r):
  ∃e,cD 34 z=.ok () {z with allow:=false,keys:=bB z,ptr:=z.ptr+1+1+1,rem:=d::r,col:=z.col+1+1+1,tokens:=z.tokens++[yP (sv [100]) false z.mark e (sv [34])]}:=by
 refine⟨kZ z.buf (z.ptr+1+1+1) z.line (z.col+1+1+1),?_⟩;unfold cD;rw[iA h];show(eD 34 {z with keys:=bB z,allow:=false}).bind _=_
 unfold eD;have e0:peek 0 {z with keys:=bB z,allow:=false}=.ok 34 {z with keys:=bB z,allow:=false}:=by
  unfold peek;rw[hr];rfl
 rw[e0];show R.bind (R.bind (bO {z with keys:=bB z,allow:=false}) _) _=_
 rw[eO (z:={z with keys:=bB z,allow:=false}) hr rfl]
 show push _ _=_;unfold push;rw[if_pos (q5 h.tl (aR rfl))];rfl
theorem Wo(hd:d≠39)(hr:z.rem=105::39::d::r):gA false z=.ok [[105]] {z with ptr:=z.ptr+1,rem:=39::d::r,col:=z.col+1}:=by
 obtain⟨buf,ptr,rem,line,col,done,aH,tokens,taken,indent,aO,allow,keys⟩:=z;change rem=_ at hr;subst hr;show(if d=39 then R.wall else R.ok _ _)=_;rw[if_neg hd];rfl
theorem Ju(h:FZ z)(hr:z.rem=39::104::10::105::39::d::r)(hd:d≠39):
  ∃e,cD 39 z=.ok () {z with allow:=false,keys:=bB z,ptr:=z.ptr+1+1+1+1+1,rem:=d::r,line:=z.line+1,col:=0+1+1,tokens:=z.tokens++[yP (sv [104,32,105]) false z.mark e (sv [39])]}:=by
 refine⟨kZ z.buf (z.ptr+1+1+1+1+1) (z.line+1) (0+1+1),?_⟩;unfold cD;rw[iA h];show(eD 39 {z with keys:=bB z,allow:=false}).bind _=_
 unfold eD;have e0:peek 0 {z with keys:=bB z,allow:=false}=.ok 39 {z with keys:=bB z,allow:=false}:=by
  unfold peek;rw[hr];rfl
 rw[e0];show R.bind (R.bind (bO {z with keys:=bB z,allow:=false}) _) _=_
 rw[eO (z:={z with keys:=bB z,allow:=false}) hr rfl]
 have n1:gA (39==34) {z with keys:=bB z,allow:=false,ptr:=z.ptr+1,rem:=104::10::105::39::d::r,col:=z.col+1}=.ok [[104]] {z with keys:=bB z,allow:=false,ptr:=z.ptr+1+1,rem:=10::105::39::d::r,col:=z.col+1+1}:=rfl
 rw[bL,n1,bL,if_pos (aR rfl)];have g1:gL (39==34) 39 3 [[104]] {z with keys:=bB z,allow:=false,ptr:=z.ptr+1+1,rem:=10::105::39::d::r,col:=z.col+1+1}=.ok [[104],[32],[105]] {z with keys:=bB z,allow:=false,ptr:=z.ptr+1+1+1+1,rem:=39::d::r,line:=z.line+1,col:=0+1}:=by
  have f1:mL {z with keys:=bB z,allow:=false,ptr:=z.ptr+1+1,rem:=10::105::39::d::r,col:=z.col+1+1}=.ok [[32]] {z with keys:=bB z,allow:=false,ptr:=z.ptr+1+1+1,rem:=105::39::d::r,line:=z.line+1,col:=0}:=rfl
  have e2:peek 0 {z with keys:=bB z,allow:=false,ptr:=z.ptr+1+1,rem:=10::105::39::d::r,col:=z.col+1+1}=.ok 10 {z with keys:=bB z,allow:=false,ptr:=z.ptr+1+1,rem:=10::105::39::d::r,col:=z.col+1+1}:=rfl
  rw[Tr (n:=2),e2,bL,if_neg (aR rfl),f1,bL,if_pos (aR rfl),show gA (39==34) _=gA false _ from rfl,Wo (z:={z with keys:=bB z,allow:=false,ptr:=z.ptr+1+1+1,rem:=105::39::d::r,line:=z.line+1,col:=0}) hd rfl,bL,if_pos (aR rfl)]
  rfl
 rw[g1];show push _ _=_;unfold push;rw[if_pos (q5 h.tl (aR rfl))];rfl
end
section
open PySem
noncomputable def lD(c:Nat):Bool:=!(isIn [32,13,10,133,8232,8233,45,46] c)
theorem iO{c:Nat}(h:lD c=true)(k:Nat)(hk:isIn [32,13,10,133,8232,8233,45,46] k=true):c≠k:=fun e=>by
 rw[e] at h;unfold lD at h;rw[hk] at h;exact nomatch h
theorem qI{c:Nat}(h:lD c=true):isIn Dt c=false:=by
 cases e:isIn Dt c with
 |false=>rfl
 |true=>
  have k:∀x∈Dt,isIn [32,13,10,133,8232,8233,45,46] x=true:=by decide
  exact absurd rfl (iO h c (k c (s9.mp e)))
theorem Jy{c:Nat}(h:lD c=true):span (· ==32) (c::r)=some 0:=by
 rw[nV,if_neg (by simpa using iO h 32 rfl)]
theorem Cy{n:Nat}{c:Nat}(hr:z.rem=c::r)(h:lD c=true):eY (n+1) z=.ok () z:=by
 have e:peek 0 z=.ok c z:=by unfold peek;rw[hr];rfl
 rw[HQ,e,bL,if_neg (iO h 32 rfl),if_neg (by rw[qI h];decide)]
theorem DD{n:Nat}{c:Nat}(hr:z.rem=32::c::r)(h:lD c=true):eY (n+1+1) z=.ok () {z with ptr:=z.ptr+1,rem:=c::r,col:=z.col+1}:=by
 have e:peek 0 z=.ok 32 z:=by unfold peek;rw[hr];rfl
 rw[HQ,e,bL,if_pos rfl,eO hr rfl,bL];exact Cy rfl h
theorem UL{c:Nat}(hr:z.rem=c::r)(h:lD c=true):bJ 1000 z=.ok [] z:=by
 have e:peek 0 z=.ok c z:=by unfold peek;rw[hr];rfl
 unfold bJ;rw[show span (· ==32) z.rem=some 0 from by rw[hr];exact Jy h];show(peek 0 z).bind _=_;rw[e,bL,if_neg (by rw[qI h];decide)]
 rfl
theorem IB{c:Nat}(hr:z.rem=32::c::r)(h:lD c=true):bJ 1000 z=.ok [[32]] {z with ptr:=z.ptr+1,rem:=c::r,col:=z.col+1}:=by
 unfold bJ;rw[show span (· ==32) z.rem=some 1 from by rw[hr,nV,if_pos (show((32:Nat)==32)=true from rfl),Jy h];rfl];show R.bind (R.bind (bO z) _) _=_;rw[eO hr rfl];show(if isIn Dt c then _ else _)=_;rw[if_neg (by rw[qI h];decide),hr]
 rfl
theorem UM{c:Nat}(hr:z.rem=32::32::c::r)(h:lD c=true):bJ 1000 z=.ok [[32,32]] {z with ptr:=z.ptr+1+1,rem:=c::r,col:=z.col+1+1}:=by
 unfold bJ;rw[show span (· ==32) z.rem=some 2 from by rw[hr,nV,if_pos (show((32:Nat)==32)=true from rfl),nV,if_pos (show((32:Nat)==32)=true from rfl),Jy h];rfl];show R.bind (R.bind (bO z) _) _=_;rw[eO hr rfl];show(if isIn Dt c then _ else _)=_;rw[if_neg (by rw[qI h];decide),hr]
 rfl
theorem Vd{α:Type}{x:Nat}(hr:z.rem=x::r)(h1:x≠45)(h2:x≠46){k:R α}:xY z k=k:=by
 unfold xY;rw[hr,if_neg,if_neg]
 ·intro e;rw[List.take_succ_cons] at e;exact h2 (List.cons.inj e).1
 ·intro e;rw[List.take_succ_cons] at e;exact h1 (List.cons.inj e).1
theorem yF{z1 z2:Z}{b x:Nat}{s lb:List Nat}(hr:z.rem=b::r)(hb:b≠32)(Zz:isIn Dt b=true)(hl:dH z=.ok lb z1)(hx:z1.rem=x::s)(h1:x≠45)(h2:x≠46)
  (hp:eY 1000 {z1 with allow:=true}=.ok () z2):bJ 1000 z=.ok (if lb≠[10] then[lb] else[[32]]) z2:=by
 unfold bJ;rw[show span (· ==32) z.rem=some 0 from by rw[hr,nV,if_neg (by simpa using hb)]];show(peek 0 z).bind _=_;have e:peek 0 z=.ok b z:=by unfold peek;rw[hr];rfl
 rw[e,bL,if_pos Zz,hl,bL,Vd hx h1 h2,hp,bL]
theorem DG{c:Nat}(hr:z.rem=10::c::r)(h:lD c=true):bJ 1000 z=.ok [[32]] {z with ptr:=z.ptr+1,rem:=c::r,line:=z.line+1,col:=0,allow:=true}:=by
 obtain⟨buf,ptr,rem,line,col,done,aH,tokens,taken,indent,aO,allow,keys⟩:=z;change rem=_ at hr;subst hr;exact yF (z1:=⟨buf,ptr+1,c::r,line+1,0,done,aH,tokens,taken,indent,aO,allow,keys⟩) (lb:=[10]) rfl (aR rfl) rfl rfl rfl (iO h 45 rfl) (iO h 46 rfl) (Cy (n:=999) rfl h)
theorem NX{c:Nat}(hr:z.rem=8232::c::r)(h:lD c=true):bJ 1000 z=.ok [[8232]] {z with ptr:=z.ptr+1,rem:=c::r,line:=z.line+1,col:=0,allow:=true}:=by
 obtain⟨buf,ptr,rem,line,col,done,aH,tokens,taken,indent,aO,allow,keys⟩:=z;change rem=_ at hr;subst hr;exact yF (z1:=⟨buf,ptr+1,c::r,line+1,0,done,aH,tokens,taken,indent,aO,allow,keys⟩) (lb:=[8232]) rfl (aR rfl) rfl rfl rfl (iO h 45 rfl) (iO h 46 rfl) (Cy (n:=999) rfl h)
theorem ID{c:Nat}(hr:z.rem=133::32::c::r)(h:lD c=true):bJ 1000 z=.ok [[32]] {z with ptr:=z.ptr+1+1,rem:=c::r,line:=z.line+1,col:=0+1,allow:=true}:=by
 obtain⟨buf,ptr,rem,line,col,done,aH,tokens,taken,indent,aO,allow,keys⟩:=z;change rem=_ at hr;subst hr;exact yF (z1:=⟨buf,ptr+1,32::c::r,line+1,0,done,aH,tokens,taken,indent,aO,allow,keys⟩) (lb:=[10]) rfl (aR rfl) rfl rfl rfl (aR rfl) (aR rfl) (DD (n:=998) rfl h)
theorem BE{c:Nat}(hr:z.rem=13::10::32::c::r)(h:lD c=true):bJ 1000 z=.ok [[32]] {z with ptr:=z.ptr+1+1+1,rem:=c::r,line:=z.line+1,col:=0+1,allow:=true}:=by
 obtain⟨buf,ptr,rem,line,col,done,aH,tokens,taken,indent,aO,allow,keys⟩:=z;change rem=_ at hr;subst hr;exact yF (z1:=⟨buf,ptr+1+1,32::c::r,line+1,0,done,aH,tokens,taken,indent,aO,allow,keys⟩) (lb:=[10]) rfl (aR rfl) rfl rfl rfl (aR rfl) (aR rfl) (DD (n:=998) rfl h)
theorem MZ(hr:z.rem=13::d::r)(hd:d≠10):dH z=.ok [10] {z with ptr:=z.ptr+1,rem:=d::r,line:=z.line+1,col:=0}:=by
 have e1:bO z=.ok () {z with ptr:=z.ptr+1,rem:=d::r,line:=z.line+1,col:=0}:=by
  unfold bO;rw[hr];show(if d=10 then _ else _)=_;rw[if_neg hd]
 unfold dH;rw[hr];show(if[13,d]=[13,10] then _ else(qC 1 z).bind _)=_;rw[if_neg (fun h=>hd (List.cons.inj (List.cons.inj h).2).1)];show R.bind (R.bind (bO z) _) _=_;rw[e1];rfl
theorem NW{c:Nat}(hr:z.rem=13::c::r)(h:lD c=true):bJ 1000 z=.ok [[32]] {z with ptr:=z.ptr+1,rem:=c::r,line:=z.line+1,col:=0,allow:=true}:=
 yF (lb:=[10]) hr (aR rfl) rfl (MZ hr (iO h 10 rfl)) rfl (iO h 45 rfl) (iO h 46 rfl) (Cy (n:=999) rfl h)
end
section
open PySem
theorem HS{ind:Int}{n:Nat}{cs sp:List (List Nat)}{em:V}{c:Nat}(hr:z.rem=c::r)(hf:z.aH≠0)(hs:c=35\/cW true (c::r)=some 0):gV 1000 ind (n+1) cs sp em z=.ok (cs,em) z:=by
 have e:peek 0 z=.ok c z:=by unfold peek;rw[hr];rfl
 rw[HT,e,bL]
 by_cases h:c=35
 ·rw[if_pos h]
 ·rw[if_neg h,show(z.aH !=0)=true from bne_iff_ne.mpr hf,hr]
  rcases hs with hs|hs
  ·exact absurd hs h
  ·rw[hs];rfl
theorem Mc{ind:Int}{n:Nat}{cs sp vQ:List (List Nat)}{em:V}{z2:Z}{x:Nat}(hr:z.rem=x::r)(hf:z.aH≠0)(hx:x≠35)(AG:lI x=true)(hs:cW true (x::r)=some 1)(hl:cs.length+sp.length<=10)
  (hp:bJ 1000 {z with allow:=false,ptr:=z.ptr+1,rem:=r,col:=z.col+1}=.ok vQ z2) (Hj:vQ.length<=10):
  gV 1000 ind (n+1) cs sp em z=if vQ=[] then .ok (cs++sp++[[x]],kZ z.buf (z.ptr+1) z.line (z.col+1)) z2 else(peek 0 z2).bind fun c z2=>if c=35 then .ok (cs++sp++[[x]],kZ z.buf (z.ptr+1) z.line (z.col+1)) z2 else
   if z2.aH=0/\z2.col<ind then .ok (cs++sp++[[x]],kZ z.buf (z.ptr+1) z.line (z.col+1)) z2 else gV 1000 ind n (cs++sp++[[x]]) vQ (kZ z.buf (z.ptr+1) z.line (z.col+1)) z2:=by
 have e:peek 0 z=.ok x z:=by unfold peek;rw[hr];rfl
 rw[HT,e,bL,if_neg hx,show(z.aH !=0)=true from bne_iff_ne.mpr hf,hr,hs];show(if cs.length+sp.length<=1000 then _ else _)=_;rw[if_pos (q5 hl (aR rfl))];show R.bind (R.bind (bO _) _) _=_;rw[eO (z:={z with allow:=false,rem:=x::r}) rfl AG]
 show(bJ 1000 {z with allow:=false,ptr:=z.ptr+1,rem:=r,col:=z.col+1}).bind _=_
 rw[hp,bL,if_pos (q5 Hj (aR rfl))]
 rfl
end
section
open PySem
theorem As{ind:Int}{n:Nat}{cs sp vQ:List (List Nat)}{em:V}{z2:Z}{x c:Nat}{r2:List Nat}(hr:z.rem=x::r)(hf:z.aH≠0)(hx:x≠35)(AG:lI x=true)(hs:cW true (x::r)=some 1)(hl:cs.length+sp.length<=10)
  (hp:bJ 1000 {z with allow:=false,ptr:=z.ptr+1,rem:=r,col:=z.col+1}=.ok vQ z2) (Hj:vQ.length<=10) (JC:z2.rem=c::r2) (JA:z2.aH≠0) (hc:c=35\/cW true (c::r2)=some 0):
  gV 1000 ind (n+1+1) cs sp em z=.ok (cs++sp++[[x]],kZ z.buf (z.ptr+1) z.line (z.col+1)) z2:=by
 rw[Mc hr hf hx AG hs hl hp Hj]
 by_cases e:vQ=[]
 ·rw[if_pos e]
 ·have e2:peek 0 z2=.ok c z2:=by unfold peek;rw[JC];rfl
  rw[if_neg e,e2,bL]
  by_cases h:c=35
  ·rw[if_pos h]
  ·rw[if_neg h,if_neg (fun k=>JA k.1),HS JC JA hc]
theorem Pb{z2:Z}(h:FZ z)(hf:z.aH≠0){x c:Nat}{t r2:List Nat}(hr:z.rem=x::t)(hx:x≠35)(AG:lI x=true)(hs:cW true (x::t)=some 1){vQ:List (List Nat)}
  (hp:bJ 1000 {z with keys:=bB z,allow:=false,ptr:=z.ptr+1,rem:=t,col:=z.col+1}=.ok vQ z2) (Hj:vQ.length<=10) (JC:z2.rem=c::r2) (JA:z2.aH≠0) (HC:z2.tokens=z.tokens) (hc:c=35\/cW true (c::r2)=some 0):
  ∃e,eI 1000 z=.ok () {z2 with tokens:=z.tokens++[yP (sv [x]) true z.mark e .none]}:=by
 refine⟨kZ z.buf (z.ptr+1) z.line (z.col+1),?_⟩;unfold eI;rw[iA h];show(kP 1000 {z with keys:=bB z,allow:=false}).bind _=_
 unfold kP;rw[As (n:=998) (z:={z with keys:=bB z,allow:=false}) hr hf hx AG hs (aR rfl) hp Hj JC JA hc]
 show push _ z2=_;unfold push;rw[HC,if_pos (q5 h.tl (aR rfl))]
 rfl
theorem Aq{z1 z2:Z}(h:FZ z)(hf:z.aH≠0){x y c:Nat}{t t1 r2:List Nat}(hr:z.rem=x::t)(hx:x≠35)(AG:lI x=true)(hs:cW true (x::t)=some 1){BO vQ:List (List Nat)}
  (TB:bJ 1000 {z with keys:=bB z,allow:=false,ptr:=z.ptr+1,rem:=t,col:=z.col+1}=.ok BO z1) (hn:BO≠[]) (VZ:BO.length<=5) (WD:z1.rem=y::t1) (VV:z1.aH≠0) (m9:z1.buf=z.buf)
  (hy:y≠35) (ZV:lI y=true) (ZR:cW true (y::t1)=some 1)
  (hp:bJ 1000 {z1 with allow:=false,ptr:=z1.ptr+1,rem:=t1,col:=z1.col+1}=.ok vQ z2) (Hj:vQ.length<=10) (JC:z2.rem=c::r2) (JA:z2.aH≠0) (HC:z2.tokens=z.tokens) (hc:c=35\/cW true (c::r2)=some 0)
  (CR:([[x]]++BO++[[y]]).flatten.length+([[x]]++BO++[[y]]).length<=1000000):
  ∃e,eI 1000 z=.ok () {z2 with tokens:=z.tokens++[yP (sv ([[x]]++BO++[[y]]).flatten) true z.mark e .none]}:=by
 refine⟨kZ z1.buf (z1.ptr+1) z1.line (z1.col+1),?_⟩;unfold eI;rw[iA h];show(kP 1000 {z with keys:=bB z,allow:=false}).bind _=_
 unfold kP;have e1:peek 0 z1=.ok y z1:=by unfold peek;rw[WD];rfl
 rw[Mc (n:=999) (z:={z with keys:=bB z,allow:=false}) hr hf hx AG hs (aR rfl) TB (q5 VZ (aR rfl)),if_neg hn,e1,bL,if_neg hy,if_neg (fun k=>VV k.1),As (n:=997) WD VV hy ZV ZR (by show 1+BO.length<=10;exact q5 (t9 VZ _) (aR rfl)) hp Hj JC JA hc,bL]
 show R.bind (if([[x]]++BO++[[y]]).flatten.length+([[x]]++BO++[[y]]).length<=1000000 then _ else _) _=_;rw[if_pos CR,bL];unfold push;rw[HC,if_pos (q5 h.tl (aR rfl))]
 rfl
end
section
open PySem
noncomputable def sT:Option Int->List (Int×lL)->Option Int
 |m,[]=>m
 |m,kv::r=>sT (some (match m with|none=>kv.2.no|some i=>if kv.2.no<i then kv.2.no else i)) r
theorem Oz(nd:(ks.map (·.1)).Nodup):∀(l:List (Int×lL)) {m:Option Int},(∀kv∈l,kv∈ks)->jW ks m (l.map (·.1))=some (sT m l):=by
 intro eN;induction eN with
 |nil=>
  intro _ _;exact rfl
 |cons kv r ih=>
  intro m h;refine jM (pQ nd (List.mem_map_of_mem (f:=fun kv:Int×lL=>kv.1) (h kv (.head _)))) fun k g1 g2 g3=>?_;have ek:kv.2=k:=g3 kv (h kv (.head _)) rfl;show(match eE ks kv.1 with|none=>none|some k=>jW ks (some (match m with|none=>k.no|some i=>if k.no<i then k.no else i)) (List.map (fun kv:Int×lL=>kv.1) r))=_
  rw[g1,←ek];exact ih fun kv hk=>h kv (.tail _ hk)
theorem jV(hd:z.done=false)(ht:z.tokens=[]):dT z=.ok true z:=by
 unfold dT;rw[if_neg (by rw[hd];decide),ht,if_pos (by decide),if_pos rfl]
theorem pU(h:FZ z)(hd:z.done=false)(ht:z.tokens≠[]):dT z=.ok (sT none (z.keys.filter fun kv=>live z.line z.ptr kv.2)==some z.taken) {z with keys:=z.keys.filter fun kv=>live z.line z.ptr kv.2}:=by
 unfold dT;rw[if_neg (by rw[hd];decide),if_pos (q5 h.tl (by decide)),if_neg ht,tG h,bL];have:=Oz (h.filter fun kv=>live z.line z.ptr kv.2).nd (z.keys.filter fun kv=>live z.line z.ptr kv.2) (m:=none) (fun _ hk=>hk);show(match jW (z.keys.filter fun kv=>live z.line z.ptr kv.2) none ((z.keys.filter fun kv=>live z.line z.ptr kv.2).map (·.1)) with|none=>R.wall|some m=>_)=_
 rw[this]
theorem qW(hd:z.done=true):dT z=.ok false z:=by
 unfold dT;rw[if_pos hd]
end
section
open PySem
theorem yM(hf:z.aH=0)(hi:z.indent<=z.col):fB z.col z=.ok () z:=by
 unfold fB;rw[if_pos hf];show(if z.col<z.indent then _ else R.ok () z)=_;rw[if_neg (Int.not_lt.mpr hi)]
theorem Fe(h:FZ z)(hp:z.ptr=0)(hf:z.aH=0)(hi:z.indent<=z.col){c:Nat}(hr:z.rem=c::r)(hc:pS c=true)(hb:c≠65279):
  dE 1000 z=bR 1000 c {z with keys:=z.keys.filter fun kv=>live z.line z.ptr kv.2}:=by
 have e:peek 0 z=.ok c z:=by unfold peek;rw[hr];rfl
 have e':pC 1000 z=.ok () z:=by
  unfold pC;rw[if_pos hp,e,bL,if_neg hb];exact CP (n:=999) hr hc
 unfold dE;rw[e',bL,tG h,bL,yM (z:={z with keys:=z.keys.filter fun kv=>live z.line z.ptr kv.2}) hf hi,bL]
 show(peek 0 {z with keys:=z.keys.filter fun kv=>live z.line z.ptr kv.2}).bind _=_
 unfold peek;rw[hr];rfl
theorem uX(hf:z.aH=0)(hr:z.rem=58::d::r)(hd:isIn lP d=true):bR 1000 58 z=eA z:=by
 show(kT z).bind _=_;unfold kT;rw[if_pos hf];unfold peek;rw[hr];show(if isIn lP d=true then eA z else _)=_;rw[if_pos hd]
theorem Jq(hf:z.aH=0)(ha:z.allow=false)(hk:eE z.keys z.aH=none):eA z=.err .none z.mark:=by
 unfold eA;rw[hk];show(if z.aH=0 then if z.allow=true then _ else _ else _)=_;rw[if_pos hf,if_neg (by rw[ha];decide)]
theorem xC(h:FZ z)(hf:z.aH=0)(hi:z.indent=-1)(CT:z.aO=[]){k:lL}(hk:eE z.keys z.aH=some k)(ZE:0<=k.col)(Wx:k.no-z.taken=0)(ht:z.tokens.length+2<=200)(hr:z.rem=58::r):
  ∃e,eA z=.ok () {z with allow:=false,keys:=cA z.keys z.aH,indent:=k.col,aO:=[-1],ptr:=z.ptr+1,rem:=r,col:=z.col+1,tokens:=tk 314 (k.mark z.buf) (k.mark z.buf)::tk 386 (k.mark z.buf) (k.mark z.buf)::z.tokens++[tk 398 z.mark e]}:=by
 unfold eA;rw[hk];show∃e,(if z.keys.length<=1000 then _ else _)=_;rw[if_pos (q5 h.kl (by decide)),Wx];have e1:iH (0:Int) (tk 386 (k.mark z.buf) (k.mark z.buf)) {z with keys:=cA z.keys z.aH}=.ok () {z with keys:=cA z.keys z.aH,tokens:=tk 386 (k.mark z.buf) (k.mark z.buf)::z.tokens}:=by
  unfold iH;rw[if_pos ⟨Int.le_refl 0,Nat.zero_le _,q5 h.tl (by decide)⟩];rfl
 rw[e1];show∃e,R.bind (if z.aH=0 then(if z.indent<k.col then if z.aO.length<=1000 then _ else _ else _:R Bool).bind _ else _) _=_;rw[if_pos hf,if_pos (by rw[hi];exact Int.lt_of_lt_of_le (by decide) ZE),if_pos (by rw[CT];decide)];have e2:iH (k.no-z.taken) (tk 314 (k.mark z.buf) (k.mark z.buf)) {z with keys:=cA z.keys z.aH,aO:=z.aO++[z.indent],indent:=k.col,tokens:=tk 386 (k.mark z.buf) (k.mark z.buf)::z.tokens}=.ok () {z with keys:=cA z.keys z.aH,aO:=z.aO++[z.indent],indent:=k.col,tokens:=tk 314 (k.mark z.buf) (k.mark z.buf)::tk 386 (k.mark z.buf) (k.mark z.buf)::z.tokens}:=by
  unfold iH;rw[Wx];rw[if_pos ⟨Int.le_refl 0,Nat.zero_le _,q5 (Nat.succ_le_succ h.tl) (by decide)⟩]
  rfl
 show∃e,R.bind (iH (k.no-z.taken) _ _) _=_;rw[e2,CT,hi];refine hZ (z:={z with allow:=false,keys:=cA z.keys z.aH,aO:=[-1],indent:=k.col,tokens:=tk 314 (k.mark z.buf) (k.mark z.buf)::tk 386 (k.mark z.buf) (k.mark z.buf)::z.tokens}) hr rfl ?_
 exact ht
theorem Zg(h:FZ z)(hf:z.aH=0)(hi:z.indent=0)(CT:z.aO=[-1])(ht:z.tokens.length+1<=200):bR 1000 0 z=.ok () {z with indent:=-1,aO:=[],keys:=[],allow:=false,tokens:=z.tokens++[tk 326 z.mark z.mark]++[tk 290 z.mark z.mark],done:=true}:=by
 show iJ z=_;unfold iJ fB;rw[if_pos hf];have e1:pD 4 (-1) z=.ok () {z with indent:=-1,aO:=[],tokens:=z.tokens++[tk 326 z.mark z.mark]}:=by
  show(if-1<z.indent then(match z.aO.getLast? with|some i=>if z.aO.length<=1000 then(push (tk 326 z.mark z.mark) {z with indent:=i,aO:=z.aO.dropLast}).bind fun _ z=>pD 3 (-1) z else .wall|none=>.wall) else R.ok () z)=_
  rw[if_pos (by rw[hi];decide),CT];show R.bind (push (tk 326 z.mark z.mark) {z with indent:=-1,aO:=[]}) _=_
  unfold push;rw[if_pos (show z.tokens.length<=1000 from q5 (Nat.le_of_succ_le ht) (by decide))]
  rfl
 rw[e1,bL,eX (z:={z with indent:=-1,aO:=[],tokens:=z.tokens++[tk 326 z.mark z.mark]}) ⟨h.nd,h.rq,h.kl,by rw[q6];exact ht⟩,bL]
 unfold push;rw[if_pos (by show(z.tokens++[_]).length<=1000;rw[q6];exact q5 ht (by decide))]
 rfl
end
section
open PySem
noncomputable abbrev Z.mv(z:Z)(ks:List (Int×lL))(ts:List V)(fl p:Int)(r:List Nat)(l k:Int)(a:Bool):Z:={z with keys:=ks,tokens:=ts,aH:=fl,ptr:=p,rem:=r,line:=l,col:=k,allow:=a}
noncomputable def C0:List Nat:=[58,44,93,125,63,0]
noncomputable def C2:List Nat:=[58,44,93,125,63,0,91,123]
def Nn(z:Z)(res:R Unit)(ks:List (Int×lL))(ts:List V)(fl n own:Int)(av:Bool)(g:List Nat)(d:Int)(c:Nat)(r:List Nat):Prop:=
 ∃p l k a g2 d2,res=.ok () (z.mv ks ts fl p (g2++c::r) l k a)/\(g2,d2)∈gX/\p+g2.length=z.ptr+n+g.length/\l+d2=z.line+own+d/\z.line+own<=l/\(isIn C0 c=false\/d=0->a=av)/\(c=64->l=z.line+own)/\z.ptr<p/\(0<=z.col->0<=k)
theorem Nn.mk{res:R Unit}{ts:List V}{fl n own:Int}{av:Bool}{g:List Nat}{d:Int}{c:Nat}(hg:(g,d)∈gX){p l k:Int}(e:res=.ok () (z.mv ks ts fl p (g++c::r) l k av))(hp:p=z.ptr+n)(hl:l=z.line+own)(hk:0<=z.col->0<=k)(hn:0<n):Nn z res ks ts fl n own av g d c r:=
 ⟨p,l,k,av,g,d,e,hg,by rw[hp],by rw[hl],Int.le_of_eq hl.symm,fun _=>rfl,fun _=>hl,by rw[hp];exact Int.lt_add_of_pos_right _ hn,hk⟩
noncomputable def xG(g:List Nat):Bool:=g==[]||g==[32]||g==[32,32]
noncomputable def vL(g:List Nat)(c:Nat):Bool:=isIn g 35||(isIn C2 c&&(isIn C0 c||xG g))
noncomputable def qL:List Nat->Bool
 |[]=>false
 |d::_=>isIn lP d
theorem Wf{c:Nat}(h:isIn C2 c=true):lD c=true:=by
 have k:∀x∈C2,lD x=true:=by decide
 exact k c (s9.mp h)
theorem DF{c:Nat}(h:isIn C2 c=true)(hr:c=58->qL r=true):cW true (c::r)=some 0:=by
 by_cases e:c=58
 ·subst e;have hr:=hr rfl;cases r with
  |nil=>exact nomatch hr
  |cons d r=>
   have hd:isIn (lP++[44,91,93,123,125]) d=true:=s9.mpr (List.mem_append_left _ (s9.mp hr));show(if isIn lP 58 then _ else if 58=58 then(if isIn (lP++[44,91,93,123,125]) d then some 0 else _) else _)=_;rw[if_neg (aR rfl),if_pos rfl,if_pos hd]
 ·have k:∀x∈C2,x≠58->isIn lP x=true\/isIn [44,63,91,93,123,125] x=true:=by decide
  show(if isIn lP c then some 0 else if c=58 then _ else if(true&&isIn [44,63,91,93,123,125] c) then some 0 else _)=_
  rcases k c (s9.mp h) e with x|x
  ·rw[if_pos x]
  ·by_cases y:isIn lP c=true
   ·rw[if_pos y]
   ·rw[if_neg y,if_neg e,if_pos (by rw[x];rfl)]
noncomputable abbrev Z.gp(z:Z)(p:Int)(r:List Nat)(l k:Int)(a:Bool):Z:={z with ptr:=p,rem:=r,line:=l,col:=k,allow:=a}
def OQ(z:Z)(g:List Nat)(d:Int)(c:Nat)(r:List Nat)(sp:List (List Nat))(p:Int)(c2:Nat)(r2:List Nat)(l k:Int)(a:Bool):Prop:=
 bJ 1000 z=.ok sp (z.gp p (c2::r2) l k a)/\sp.length<=10/\(c2=35\/cW true (c2::r2)=some 0)/\
 (∃g2 d2,c2::r2=g2++c::r/\(g2,d2)∈gX/\p+g2.length=z.ptr+g.length/\l+d2=z.line+d)/\z.line<=l/\(isIn C0 c=false\/d=0->a=z.allow)/\(c=64->l=z.line)/\z.ptr<=p/\(0<=z.col->0<=k)
theorem nG{g:List Nat}{d:Int}{c:Nat}(hg:(g,d)∈gX)(hf:vL g c=true)(YD:isIn g 35=false)(hb:c=58->qL r=true){sp:List (List Nat)}{p l k:Int}{a:Bool}(h1:lD c=true->bJ 1000 z=.ok sp (z.gp p (c::r) l k a))(h2:sp.length<=10)(h3:p=z.ptr+g.length)(h4:l=z.line+d)(h5:0<=d)(h6:xG g=true->a=z.allow)(h7:0<=z.col->0<=k):∃sp p c2 r2 l k a,OQ z g d c r sp p c2 r2 l k a:=by
 unfold vL at hf;rw[YD,Bool.false_or] at hf;have hf:=(q9 _ _).mp hf;subst h3;subst h4;refine⟨sp,_,c,r,_,k,a,h1 (Wf hf.1),h2,.inr (DF hf.1 hb),(Xz ([]) 0 rfl (aR rfl) (u9 _) (u9 _)),Int.le_add_of_nonneg_right h5,fun hc=>?_,fun e=>(by rw[e] at hf;exact nomatch hf.1),Int.le_add_of_nonneg_right (u4 _),h7⟩
 have f0:∀q∈gX,q.2=0->xG q.1=true:=by decide
 rcases hc with hc|hc
 ·rcases(Bool.or_eq_true _ _).mp hf.2 with x|x
  ·rw[x] at hc;exact nomatch hc
  ·exact h6 x
 ·exact h6 (f0 _ hg hc)
def Nh(q:List Nat×Int):Prop:=q∈gX->isIn q.1 35=false->∀{z:Z} {c:Nat} {r:List Nat},z.rem=q.1++c::r->vL q.1 c=true->(c=58->qL r=true)->∃sp p c2 r2 l k a,OQ z q.1 q.2 c r sp p c2 r2 l k a
theorem Nh.no{q:List Nat×Int}(h:isIn q.1 35=true):Nh q:=fun _ e=>nomatch h.symm.trans e
theorem BA:∀q∈gX,Nh q:=by
 refine fa (P:=Nh) (fun hg e {z _ _} hr hf hb=>nG hg hf e hb (IB hr) (aR rfl) rfl (u9 _).symm (aR rfl) (fun _=>rfl) ?_) ?_
 ·first|exact id|exact qO|exact xX|exact fun U=>nn
 refine fa (P:=Nh) (fun hg e {z c r} hr hf hb=>nG (sp:=[]) (l:=z.line) (k:=z.col) (a:=z.allow) hg hf e hb (fun hs=>(UL hr hs).trans (congrArg (R.ok []) (by rw[←show z.rem=c::r from hr]))) (aR rfl) (u9 _).symm (u9 _).symm (aR rfl) (fun _=>rfl) id) ?_;refine fa (P:=Nh) (fun hg e {z _ _} hr hf hb=>nG hg hf e hb (DG hr) (aR rfl) rfl rfl (aR rfl) (fun h=>nomatch h) ?_) ?_
 ·first|exact id|exact qO|exact xX|exact fun U=>nn
 refine fa (P:=Nh) (fun hg e {z _ _} hr hf hb=>nG hg hf e hb (UM hr) (aR rfl) (t8 ..) (u9 _).symm (aR rfl) (fun _=>rfl) ?_) ?_
 ·first|exact id|exact qO|exact xX|exact fun U=>nn
 refine fa (P:=Nh) (fun hg e {z _ _} hr hf hb=>nG hg hf e hb (BE hr) (aR rfl) ((t8 ..).trans (t8 ..)) rfl (aR rfl) (fun h=>nomatch h) ?_) ?_
 ·first|exact id|exact qO|exact xX|exact fun U=>nn
 refine fa (P:=Nh) (.no rfl) ?_;refine fa (P:=Nh) (fun hg e {z _ _} hr hf hb=>nG hg hf e hb (NW hr) (aR rfl) rfl rfl (aR rfl) (fun h=>nomatch h) ?_) ?_
 ·first|exact id|exact qO|exact xX|exact fun U=>nn
 refine fa (P:=Nh) (fun hg e {z _ _} hr hf hb=>nG hg hf e hb (ID hr) (aR rfl) (t8 ..) rfl (aR rfl) (fun h=>nomatch h) ?_) ?_
 ·first|exact id|exact qO|exact xX|exact fun U=>nn
 refine fa (P:=Nh) (fun hg e {z _ _} hr hf hb=>nG hg hf e hb (NX hr) (aR rfl) rfl rfl (aR rfl) (fun h=>nomatch h) ?_) ?_
 ·first|exact id|exact qO|exact xX|exact fun U=>nn
 exact fa (P:=Nh) (.no rfl) (fa (.no rfl) (fa (.no rfl) PA))
theorem Cz{g:List Nat}{d:Int}{c:Nat}(hg:(g,d)∈gX)(hw:g.head?≠some 35)(hr:z.rem=g++c::r)(hf:vL g c=true)(hb:c=58->qL r=true):∃sp p c2 r2 l k a,OQ z g d c r sp p c2 r2 l k a:=by
 by_cases VI:isIn g 35=true
 ·--a comment:o8 blank ahead of it alone
  have two:∀q:List Nat×Int,q∈gX->q.1.head?≠some 35->isIn q.1 35=true->q=([32,35,32,58,10],1)\/q=([32,35,44,8233],1):=by decide
  have go:∀t:List Nat,(35::t,d)∈gX->g=32::35::t->∃sp p c2 r2 l k a,OQ z g d c r sp p c2 r2 l k a:=by
   intro t ht e;subst e;refine⟨_,_,35,t++c::r,z.line,z.col+1,z.allow,IB (c:=35) (r:=t++c::r) hr rfl,by decide,.inl rfl,(Xz (35::t) d rfl ht ?_ rfl),Int.le_refl _,fun _=>rfl,fun _=>rfl,Int.le_add_of_nonneg_right (aR rfl),qO⟩;show z.ptr+1+((t.length+1:Nat):Int)=z.ptr+((t.length+1+1:Nat):Int);exact(t8 ..).trans (congrArg (z.ptr+ ·) (Int.add_comm ..))
  rcases two _ hg hw VI with e|e
  ·cases e;exact go [32,58,10] (aR rfl) rfl
  ·cases e;exact go [44,8233] (aR rfl) rfl
 ·exact BA _ hg hg (Bool.eq_false_iff.mpr VI) hr hf hb
end
section
open PySem
theorem Vo{g:List Nat}{d:Int}{c:Nat}(hg:(g,d)∈gX)(hw:g.head?≠some 35)(hf:vL g c=true)(hb:c=58->qL r=true):cW true (g++c::r)=some 0:=by
 cases g with
 |nil=>
  refine DF ?_ hb;unfold vL at hf;exact((q9 _ _).mp hf).1
 |cons x t=>
  have k:∀q:List Nat×Int,q∈gX->q.1.head?≠some 35->q.1.head?=none\/q.1.head?.any (isIn lP)=true:=by decide
  rcases k _ hg hw with k|k
  ·exact nomatch k
  ·show(if isIn lP x then some 0 else _)=_;rw[if_pos (show isIn lP x=true from k)]
theorem Vn{x:Nat}{t:List Nat}(h1:isIn lP x=false)(h2:x≠58)(h3:isIn [44,63,91,93,123,125] x=false)(h:cW true t=some 0):cW true (x::t)=some 1:=by
 cases t with
 |nil=>exact nomatch h
 |cons y t=>
  show(if isIn lP x then some 0 else if x=58 then _ else if(true&&isIn [44,63,91,93,123,125] x) then some 0 else(cW true (y::t)).map (· +1))=_;rw[if_neg (by rw[h1];decide),if_neg h2,h3,if_neg (aR rfl),h]
  rfl
section
variable{g:List Nat}{d:Int}{c:Nat}
theorem OB(h:FZ z)(hf:z.aH≠0)(hg:(g,d)∈gX)(hw:g.head?≠some 35)(tK:vL g c=true)(hb:c=58->qL r=true)(hr:z.rem=97::(g++c::r)):∃e,Nn z (eI 1000 z) (bB z) (z.tokens++[yP (sv [97]) true z.mark e .none]) z.aH 1 0 false g d c r:=by
 obtain⟨sp,p,c2,r2,l,k,a,h1,h2,h3,⟨g2,d2,h4,h5,h6,h7⟩,h8,h9,Uc,GO,LU⟩:=Cz (z:={z with keys:=bB z,allow:=false,ptr:=z.ptr+1,rem:=g++c::r,col:=z.col+1}) (r:=r) hg hw rfl tK hb
 obtain⟨e,he⟩:=Pb h hf hr (aR rfl) rfl (Vn rfl (aR rfl) rfl (Vo hg hw tK hb)) h1 h2 rfl hf rfl h3;refine⟨e,p,l,k,a,g2,d2,?_,h5,h6,?_,?_,h9,?_,GO,fun h=>LU (qO h)⟩
 ·rw[←h4];exact he
 ·rw[u9];exact h7
 ·rw[u9];exact h8
 ·rw[u9];exact Uc
theorem OC(h:FZ z)(hf:z.aH≠0)(hg:(g,d)∈gX)(hw:g.head?≠some 35)(tK:vL g c=true)(hb:c=58->qL r=true)(hr:z.rem=98::32::99::(g++c::r)):∃e,Nn z (eI 1000 z) (bB z) (z.tokens++[yP (sv [98,32,99]) true z.mark e .none]) z.aH 3 0 false g d c r:=by
 obtain⟨sp,p,c2,r2,l,k,a,h1,h2,h3,⟨g2,d2,h4,h5,h6,h7⟩,h8,h9,Uc,GO,LU⟩:=Cz (z:={z with keys:=bB z,allow:=false,ptr:=z.ptr+1+1+1,rem:=g++c::r,col:=z.col+1+1+1}) (r:=r) hg hw rfl tK hb
 obtain⟨e,he⟩:=Aq (z1:={z with keys:=bB z,allow:=false,ptr:=z.ptr+1+1,rem:=99::(g++c::r),col:=z.col+1+1}) h hf hr (aR rfl) rfl rfl (IB rfl rfl) (aR rfl) (aR rfl) rfl hf rfl (aR rfl) rfl (Vn rfl (aR rfl) rfl (Vo hg hw tK hb)) h1 h2 rfl hf rfl h3 (aR rfl)
 refine⟨e,p,l,k,a,g2,d2,?_,h5,?_,?_,?_,h9,?_,by change z.ptr+1+1+1<=p at GO;exact Int.lt_of_lt_of_le (Int.lt_trans (Int.lt_succ _) (Int.lt_trans (Int.lt_succ _) (Int.lt_succ _))) GO,fun h=>LU (TY h)⟩
 ·rw[←h4];exact he
 ·rw[h6];show z.ptr+1+1+1+_=_;exact congrArg (· +(g.length:Int)) ((t8 (z.ptr+1) 1 1).trans (t8 z.ptr 1 2))
 ·rw[u9];exact h7
 ·rw[u9];exact h8
 ·rw[u9];exact Uc
theorem OD(h:FZ z)(hf:z.aH≠0)(hg:(g,d)∈gX)(hw:g.head?≠some 35)(tK:vL g c=true)(hb:c=58->qL r=true)(hr:z.rem=106::10::107::(g++c::r)):∃e,Nn z (eI 1000 z) (bB z) (z.tokens++[yP (sv [106,32,107]) true z.mark e .none]) z.aH 3 1 false g d c r:=by
 obtain⟨sp,p,c2,r2,l,k,a,h1,h2,h3,⟨g2,d2,h4,h5,h6,h7⟩,h8,h9,Uc,GO,LU⟩:=Cz (z:={z with keys:=bB z,allow:=false,ptr:=z.ptr+1+1+1,rem:=g++c::r,line:=z.line+1,col:=0+1}) (r:=r) hg hw rfl tK hb
 obtain⟨e,he⟩:=Aq (z1:={z with keys:=bB z,allow:=true,ptr:=z.ptr+1+1,rem:=107::(g++c::r),line:=z.line+1,col:=0}) h hf hr (aR rfl) rfl rfl (DG rfl rfl) (aR rfl) (aR rfl) rfl hf rfl (aR rfl) rfl (Vn rfl (aR rfl) rfl (Vo hg hw tK hb)) h1 h2 rfl hf rfl h3 (aR rfl)
 refine⟨e,p,l,k,a,g2,d2,?_,h5,?_,h7,h8,h9,Uc,by change z.ptr+1+1+1<=p at GO;exact Int.lt_of_lt_of_le (Int.lt_trans (Int.lt_succ _) (Int.lt_trans (Int.lt_succ _) (Int.lt_succ _))) GO,fun U=>LU nn⟩
 ·rw[←h4];exact he
 ·rw[h6];show z.ptr+1+1+1+_=_;exact congrArg (· +(g.length:Int)) ((t8 (z.ptr+1) 1 1).trans (t8 z.ptr 1 2))
end
end
section
open PySem
noncomputable def kC(a v s:V):V:=.tup [a,v,s]
noncomputable def vF:List (List Nat×V):=[([97],kC (.str "<scalar>") (.str "a") .none),([39,98,39],kC (.str "<scalar>") (.str "b") (.str "'")),([42,101],kC (.str "<alias>") (.str "e") .none),([98,32,99],kC (.str "<scalar>") (.str "b c") .none),([34,100,34],kC (.str "<scalar>") (.str "d") (.str "\"")),([38,102],kC (.str "<anchor>") (.str "f") .none),([33,103],kC (.str "<tag>") (.tup [.str "!",.str "g"]) .none),([39,104,10,105,39],kC (.str "<scalar>") (.str "h i") (.str "'")),([106,10,107],kC (.str "<scalar>") (.str "j k") .none)]
noncomputable def Ls(l:List (List Nat×V))(s:List Nat):Option V:=(l.find? fun p=>p.1==s).map (·.2)
noncomputable def lJ(s:List Nat):V:=(Ls vF s).getD (kC (sv s) .none .none)
noncomputable def ZY:List (Addr×Str):=[(278,"<stream start>"),(290,"<stream end>"),(314,"<block mapping start>"),(326,"<block end>"),(338,"["),(350,"{"),(362,"]"),(374,"}"),(386,"?"),(398,":"),(410,"-"),(422,","),(441,"<alias>"),(460,"<anchor>"),(479,"<tag>"),(499,"<scalar>")]
noncomputable def Ag(C:Addr):Str:=((ZY.find? fun p=>p.1==C).map (·.2)).getD ""
noncomputable def Vj:List Str:=["start_mark","end_mark"]
noncomputable def JK:List Str:=["value","start_mark","end_mark"]
noncomputable def rV:List (Addr×List Str):=[(338,Vj),(350,Vj),(362,Vj),(374,Vj),(386,Vj),(398,Vj),(410,Vj),(422,Vj),(290,Vj),(314,Vj),(326,Vj),(278,["start_mark","end_mark","encoding"]),(441,JK),(460,JK),(479,JK),(499,["value","plain","start_mark","end_mark","style"])]
noncomputable def nU(C:Addr)(ns:List Str)(n:Nat):Bool:=rV.any (fun p=>decide (p.1=C)&&decide (p.2=ns))&&decide (n=ns.length)
noncomputable def dG(t:V):V:=t.sel .none (o:=fun C ns vs=>if nU C ns vs.length=false then .none else if C=499 then kC (.str (Ag C)) (vs.getD 0 .none) (vs.getD 4 .none) else if C=441\/C=460\/C=479 then kC (.str (Ag C)) (vs.getD 0 .none) .none else kC (.str (Ag C)) .none .none)
noncomputable def aY:List (List Nat):=[[91],[123]]
noncomputable def rX:List (List Nat):=[[97],[98,32,99],[106,10,107],[39,98,39],[34,100,34],[39,104,10,105,39],[42,101],[38,102],[33,103]]
noncomputable def pV:List (List Nat):=[[97],[98,32,99],[106,10,107]]
noncomputable def bU:List (List Nat):=[[93],[125]]
noncomputable def Gq:List (List Nat):=[[44],[45],[63]]
noncomputable def own(s:List Nat):Int:=if isIn s 10 then 1 else 0
noncomputable def Qj(s g:List Nat)(c:Nat):Bool:=
 if pV.contains s then vL g c&&g.head? !=some 35 else if(aY++bU++[[44],[63]]).contains s then true else isIn fV ((g++[c]).headD 0)
theorem xH{g:List Nat}{c:Nat}(h:isIn fV ((g++[c]).headD 0)=true):∃d0 r0,g++c::r=d0::r0/\isIn fV d0=true:=by
 cases g with
 |nil=>exact(Xy c r rfl h)
 |cons x t=>exact(Xy x (t++c::r) rfl h)
theorem wW(h:isIn fV d=true):isIn nF d=true:=pL (P:=fun d=>isIn nF d=true) h (aR rfl)
theorem Ex(h:isIn fV d=true):d≠39:=pL (P:=fun d=>d≠39) h (aR rfl)
theorem zV(h:isIn fV d=true):isIn lP d=true:=pL (P:=fun d=>isIn lP d=true) h (aR rfl)
section
variable{g:List Nat}{d:Int}{c:Nat}
def Sv(z:Z)(s:List Nat)(av:Bool)(fl:Int)(g:List Nat)(d:Int)(c:Nat)(r:List Nat):Prop:=∃t,dG t=lJ s/\Nn z (bR 1000 (s.headD 0) z) (bB z) (z.tokens++[t]) fl s.length (own s) av g d c r
theorem Sv.mk{s:List Nat}{av:Bool}{fl:Int}{X:R Unit}{t:V->V}(hd:bR 1000 (s.headD 0) z=X)(hg:(g,d)∈gX){p l k:Int}(hp:p=z.ptr+s.length)(hl:l=z.line+own s)(ht:∀e,dG (t e)=lJ s)
  (h:∃e,X=.ok () (z.mv (bB z) (z.tokens++[t e]) fl p (g++c::r) l k av)) (hk:0<=z.col->0<=k) (h0:0<(s.length:Int)):Sv z s av fl g d c r:=by
 obtain⟨e,h⟩:=h;exact⟨t e,ht e,Nn.mk hg (hd.trans h) hp hl hk h0⟩
theorem Gz(h:FZ z){s:List Nat}(hs:s∈aY)(hg:(g,d)∈gX)(hr:z.rem=s++(g++c::r)):Sv z s true (z.aH+1) g d c r:=by
 rcases s8.mp hs with e|hs
 ·cases e;exact Sv.mk (t:=tk 338 z.mark) Zc hg rfl (u9 _).symm (fun _=>rfl) (sH h hr rfl) qO (aR rfl)
 ·cases List.mem_singleton.mp hs;exact Sv.mk (t:=tk 350 z.mark) Ta hg rfl (u9 _).symm (fun _=>rfl) (sH h hr rfl) qO (aR rfl)
theorem Sv.pl{s:List Nat}{t:V->V}{n w:Int}(hd:bR 1000 (s.headD 0) z=eI 1000 z)(hn:n=s.length)(hw:w=own s)(ht:∀e,dG (t e)=lJ s)(h:∃e,Nn z (eI 1000 z) (bB z) (z.tokens++[t e]) z.aH n w false g d c r):Sv z s false z.aH g d c r:=by
 obtain⟨e,h⟩:=h;subst hn hw;exact⟨t e,ht e,hd▸h⟩
theorem Cc{x:Nat}(hx:isIn [97,98,106] x=true):bR 1000 x z=eI 1000 z:=by
 have k:∀y∈([97,98,106]:List Nat),bR 1000 y z=eI 1000 z:=fa rfl (fa rfl (fa rfl PA));exact k x (s9.mp hx)
theorem Tq{s:List Nat}(m:pV.contains s=true)(tK:Qj s g c=true):g.head?≠some 35/\vL g c=true:=by
 unfold Qj at tK;rw[if_pos m] at tK;have k:=(q9 _ _).mp tK;exact⟨fun e=>absurd k.2 (by rw[e];decide),k.1⟩
theorem GG{s:List Nat}(m1:pV.contains s=false)(m2:(aY++bU++[[44],[63]]).contains s=false)(tK:Qj s g c=true){R:Prop}(k:∀d0 r0,g++c::r=d0::r0->isIn fV d0=true->R):R:=by
 unfold Qj at tK;rw[if_neg (by rw[m1];decide),if_neg (by rw[m2];decide)] at tK;exact Mr (xH tK) k
def Kw(z:Z)(g:List Nat)(d:Int)(c:Nat)(r:List Nat)(s:List Nat):Prop:=FZ z->z.aH≠0->(g,d)∈gX->Qj s g c=true->(c=58->qL r=true)->z.rem=s++(g++c::r)->Sv z s false z.aH g d c r
theorem Kw.pl{s:List Nat}(m:pV.contains s=true)(k:FZ z->z.aH≠0->(g,d)∈gX->g.head?≠some 35->vL g c=true->(c=58->qL r=true)->z.rem=s++(g++c::r)->Sv z s false z.aH g d c r):Kw z g d c r s:=fun h hf hg tK hb hr=>k h hf hg (Tq m tK).1 (Tq m tK).2 hb hr
theorem Kw.so{s:List Nat}(m1:pV.contains s=false)(m2:(aY++bU++[[44],[63]]).contains s=false)(k:FZ z->(g,d)∈gX->∀d0 r0,g++c::r=d0::r0->isIn fV d0=true->z.rem=s++(d0::r0)->Sv z s false z.aH g d c r):Kw z g d c r s:=fun h hf hg tK hb hr=>GG m1 m2 tK fun d0 r0 e0 h0=>k h hg d0 r0 e0 h0 (e0▸hr)
theorem Qa:∀s∈rX,Kw z g d c r s:=by
 refine fa (P:=Kw z g d c r) (.pl rfl fun h hf hg p1 p2 hb hr=>Sv.pl (t:=fun e=>yP (sv [97]) true z.mark e .none) (Cc rfl) rfl rfl (fun _=>rfl) (OB h hf hg p1 p2 hb hr)) ?_;refine fa (P:=Kw z g d c r) (.pl rfl fun h hf hg p1 p2 hb hr=>Sv.pl (t:=fun e=>yP (sv [98,32,99]) true z.mark e .none) (Cc rfl) rfl rfl (fun _=>rfl) (OC h hf hg p1 p2 hb hr)) ?_;refine fa (P:=Kw z g d c r) (.pl rfl fun h hf hg p1 p2 hb hr=>Sv.pl (t:=fun e=>yP (sv [106,32,107]) true z.mark e .none) (Cc rfl) rfl rfl (fun _=>rfl) (OD h hf hg p1 p2 hb hr)) ?_;refine fa (P:=Kw z g d c r) (.so rfl rfl fun h hg d0 r0 e0 h0 hr=>?_) ?_
 ·refine Sv.mk (t:=fun e=>yP (sv [98]) false z.mark e (sv [39])) Lg hg (p:=z.ptr+1+1+1) (k:=z.col+1+1+1) (t8 (z.ptr+1) 1 1▸t8 z.ptr 1 2) (u9 _).symm (fun _=>rfl) ?_ TY (aR rfl);rw[e0];exact Pk h hr (Ex h0)
 refine fa (P:=Kw z g d c r) (.so rfl rfl fun h hg d0 r0 e0 h0 hr=>?_) ?_
 ·refine Sv.mk (t:=fun e=>yP (sv [100]) false z.mark e (sv [34])) Yw hg (p:=z.ptr+1+1+1) (k:=z.col+1+1+1) (t8 (z.ptr+1) 1 1▸t8 z.ptr 1 2) (u9 _).symm (fun _=>rfl) ?_ TY (aR rfl);rw[e0];exact Oc h hr
 refine fa (P:=Kw z g d c r) (.so rfl rfl fun h hg d0 r0 e0 h0 hr=>?_) ?_
 ·refine Sv.mk (t:=fun e=>yP (sv [104,32,105]) false z.mark e (sv [39])) Lg hg (p:=z.ptr+1+1+1+1+1) (k:=0+1+1) ((t8 ..).trans ((t8 ..).trans ((t8 ..).trans (t8 ..)))) rfl (fun _=>rfl) ?_ (fun U=>by decide) (aR rfl);rw[e0];exact Ju h hr (Ex h0)
 refine fa (P:=Kw z g d c r) (.so rfl rfl fun h hg d0 r0 e0 h0 hr=>?_) ?_
 ·refine Sv.mk (t:=fun e=>IL 441 (sv [101]) z.mark e) Yy hg (p:=z.ptr+1+1) (k:=z.col+1+1) (t8 ..) (u9 _).symm (fun _=>rfl) ?_ xX (aR rfl);rw[e0];exact zU h hr rfl rfl rfl (wW h0)
 refine fa (P:=Kw z g d c r) (.so rfl rfl fun h hg d0 r0 e0 h0 hr=>?_) ?_
 ·refine Sv.mk (t:=fun e=>IL 460 (sv [102]) z.mark e) Yx hg (p:=z.ptr+1+1) (k:=z.col+1+1) (t8 ..) (u9 _).symm (fun _=>rfl) ?_ xX (aR rfl);rw[e0];exact zU h hr rfl rfl rfl (wW h0)
 refine fa (P:=Kw z g d c r) (.so rfl rfl fun h hg d0 r0 e0 h0 hr=>?_) PA
 ·refine Sv.mk (t:=fun e=>IL 479 (.tup [.str "!",sv [103]]) z.mark e) Yv hg (p:=z.ptr+1+1) (k:=z.col+1+1) (t8 ..) (u9 _).symm (fun _=>rfl) ?_ xX (aR rfl);rw[e0];exact II h hr h0
theorem Py(h:FZ z)(hf:z.aH≠0){s:List Nat}(hs:s∈rX)(hg:(g,d)∈gX)(tK:Qj s g c=true)(hb:c=58->qL r=true)(hr:z.rem=s++(g++c::r)):Sv z s false z.aH g d c r:=Qa s hs h hf hg tK hb hr
def Kl(z:Z)(s:List Nat)(av:Bool)(fl:Int)(g:List Nat)(d:Int)(c:Nat)(r:List Nat):Prop:=∃t,dG t=lJ s/\Nn z (bR 1000 (s.headD 0) z) (cA z.keys z.aH) (z.tokens++[t]) fl s.length (own s) av g d c r
theorem Kl.mk{s:List Nat}{av:Bool}{fl:Int}{X:R Unit}{t:V->V}(hd:bR 1000 (s.headD 0) z=X)(hg:(g,d)∈gX){p l k:Int}(hp:p=z.ptr+s.length)(hl:l=z.line+own s)(ht:∀e,dG (t e)=lJ s)
  (h:∃e,X=.ok () (z.mv (cA z.keys z.aH) (z.tokens++[t e]) fl p (g++c::r) l k av)) (hk:0<=z.col->0<=k) (h0:0<(s.length:Int)):Kl z s av fl g d c r:=by
 obtain⟨e,h⟩:=h;exact⟨t e,ht e,Nn.mk hg (hd.trans h) hp hl hk h0⟩
theorem Px(h:FZ z){s:List Nat}(hs:s∈bU)(hg:(g,d)∈gX)(hr:z.rem=s++(g++c::r)):Kl z s false (z.aH-1) g d c r:=by
 rcases s8.mp hs with e|hs
 ·cases e;exact Kl.mk (t:=tk 362 z.mark) Zd hg rfl (u9 _).symm (fun _=>rfl) (wY h hr rfl) qO (aR rfl)
 ·cases List.mem_singleton.mp hs;exact Kl.mk (t:=tk 374 z.mark) Tb hg rfl (u9 _).symm (fun _=>rfl) (wY h hr rfl) qO (aR rfl)
theorem BQ(h:FZ z)(hf:z.aH≠0){s:List Nat}(hs:s∈Gq)(tK:Qj s g c=true)(hg:(g,d)∈gX)(hr:z.rem=s++(g++c::r)):Kl z s (s !=[63]) z.aH g d c r:=by
 rcases s8.mp hs with e|hs
 ·cases e;exact Kl.mk (t:=tk 422 z.mark) Yz hg rfl (u9 _).symm (fun _=>rfl) (Cf h hr) qO (aR rfl)
 rcases s8.mp hs with e|hs
 ·cases e;refine Mr (xH (r:=r) (show isIn fV ((g++[c]).headD 0)=true from tK)) fun d0 r0 e0 h0=>?_;refine Kl.mk (t:=tk 410 z.mark) (Za (by rw[hr,e0];rfl) (zV h0)) hg rfl (u9 _).symm (fun _=>rfl) (yU h hf hr) qO (aR rfl)
 ·cases List.mem_singleton.mp hs;exact Kl.mk (t:=tk 386 z.mark) (Zb hf) hg rfl (u9 _).symm (fun _=>rfl) (Fd h hf hr) qO (aR rfl)
theorem Wg(h:FZ z)(hf:z.aH≠0)(hk:eE z.keys z.aH=none)(hg:(g,d)∈gX)(hr:z.rem=[58]++(g++c::r)):Kl z [58] false z.aH g d c r:=
 Kl.mk (t:=tk 398 z.mark) (Lh hf) hg rfl (u9 _).symm (fun _=>rfl) (vJ h hf hk hr) qO (aR rfl)
theorem Wh(h:FZ z)(hf:z.aH≠0){k:lL}(hk:eE z.keys z.aH=some k){n:Nat}(hn:k.no=z.taken+n)(AE:n<=z.tokens.length)(ht:z.tokens.length+1<=200)(hg:(g,d)∈gX)(hr:z.rem=[58]++(g++c::r)):
  ∃t t',dG t=lJ [63]/\dG t'=lJ [58]/\Nn z (bR 1000 58 z) (cA z.keys z.aH) (z.tokens.take n++t::z.tokens.drop n++[t']) z.aH 1 0 false g d c r:=by
 obtain⟨e,he⟩:=vK h hf hk hn AE ht hr;exact(Rk _ _ rfl rfl (Nn.mk hg ((Lh hf).trans he) rfl (u9 _).symm qO (aR rfl)))
end
end
section
open PySem
noncomputable def lH:V:=kC (sv [63]) .none .none
noncomputable def fl(keys:List Nat):Nat->List V->List V
 |_,[]=>[]
 |n,r::R=>if keys.contains n then lH::r::fl keys (n+1) R else r::fl keys (n+1) R
theorem jR(keys:List Nat)(n:Nat)(r:V)(R:List V):fl keys n (r::R)=(if keys.contains n then[lH,r] else[r])++fl keys (n+1) R:=by
 show(if keys.contains n then _ else _)=_;cases keys.contains n with
 |true=>rfl
 |false=>rfl
theorem kL(keys:List Nat):∀(A B:List V) (n:Nat),fl keys n (A++B)=fl keys n A++fl keys (n+A.length) B:=by
 intro eN;induction eN with
 |nil=>
  intro _ _;exact rfl
 |cons a A ih=>
  intro B n;show fl keys n (a::(A++B))=_;rw[jR,jR,ih B (n+1),r7,List.length_cons,Nat.add_assoc n 1,v7 1]
theorem xD{k1 k2:List Nat}:∀(R:List V) (n:Nat),(∀x,n<=x->x<n+R.length->k1.contains x=k2.contains x)->fl k1 n R=fl k2 n R:=by
 intro eN;induction eN with
 |nil=>
  intro _ _;exact rfl
 |cons r R ih=>
  intro n h;rw[jR,jR,h n (w7 _) (Nat.lt_add_of_pos_right (Nat.succ_pos _)),ih (n+1) fun x h1 h2=>h x (Nat.le_of_succ_le h1) (by rw[List.length_cons];exact Nat.lt_of_lt_of_eq h2 (Nat.add_right_comm ..))]
theorem GF(b:Bool)(r:V)(X:List V):((if b then[lH,r] else[r])++X).length<=X.length+2/\X.length+1<=((if b then[lH,r] else[r])++X).length:=by
 cases b with
 |true=>exact⟨w7 _,Nat.le_succ _⟩
 |false=>exact⟨Nat.le_succ _,w7 _⟩
theorem rP(keys:List Nat):∀(R:List V) (n:Nat),R.length<=(fl keys n R).length/\(fl keys n R).length<=2 * R.length:=by
 intro eN;induction eN with
 |nil=>
  intro _;exact⟨w7 _,w7 _⟩
 |cons r R ih=>
  intro n;have h:=ih (n+1);have k:=GF (keys.contains n) r (fl keys (n+1) R);rw[jR,List.length_cons];exact⟨q5 (Nat.succ_le_succ h.1) k.2,q5 k.1 (Nat.add_le_add_right h.2 2)⟩
noncomputable def fM(keys:List Nat)(R:List V)(k:Nat):Nat:=1+(fl keys 1 (R.take (k-1))).length
theorem iG(l:List Nat)(k x:Nat)(h:x≠k):(l++[k]).contains x=l.contains x:=by
 rw[Bool.eq_iff_iff,s9,s9,List.mem_append,List.mem_singleton];exact⟨fun o=>o.resolve_right h,.inl⟩
theorem Vf{R S:List V}{k:Nat}(h:k<=R.length+1):fM keys (R++S) k=fM keys R k:=by
 unfold fM;rw[List.take_append_of_le_length (Nat.sub_le_of_le_add h)]
theorem Vg{R:List V}{k j:Nat}(h:k<=j)(h0:k≠0):fM (keys++[j]) R k=fM keys R k:=by
 unfold fM;rw[xD _ 1 fun x h1 h2=>iG keys j x ?_];have h3:x<1+(k-1):=Nat.lt_of_lt_of_le h2 (t9 (by rw[List.length_take];exact Nat.min_le_left _ _) 1);rw[Nat.add_sub_of_le (Nat.pos_of_ne_zero h0)] at h3;exact Nat.ne_of_lt (Nat.lt_of_lt_of_le h3 h)
theorem sV{R:List V}:fM keys R (R.length+1)=1+(fl keys 1 R).length:=by
 unfold fM;rw[Nat.add_sub_cancel,List.take_length]
theorem Cw{R:List V}{k j:Nat}(h0:k≠0)(h:k<j)(hj:k<=R.length):fM keys R k<fM keys R j:=by
 unfold fM;have e:R.take (j-1)=R.take (k-1)++(R.drop (k-1)).take (j-k):=by
  have:j-1=(k-1)+(j-k):=by
   clear hj;exact((v7 ..).trans (Nat.sub_add_sub_cancel (Nat.le_of_lt h) (Nat.pos_of_ne_zero h0))).symm
  rw[this,List.take_add]
 have l:=(rP keys ((R.drop (k-1)).take (j-k)) (1+(R.take (k-1)).length)).1;rw[List.length_take,List.length_drop] at l;rw[e,kL,q6,←Nat.add_assoc];exact Nat.lt_add_of_pos_right (Nat.lt_of_lt_of_le (Nat.lt_min.mpr ⟨Nat.sub_pos_of_lt h,Nat.sub_pos_of_lt (Nat.lt_of_lt_of_le (Nat.sub_lt (Nat.pos_of_ne_zero h0) Nat.one_pos) hj)⟩) l)
theorem AS{R:List V}{k:Nat}(h0:k≠0)(h:k<=R.length+1):fM keys R k<=1+(fl keys 1 R).length:=by
 rcases Nat.eq_or_lt_of_le h with e|e
 ·rw[e,sV];exact w7 _
 ·rw[←sV];exact Nat.le_of_lt (Cw h0 e (Nat.lt_succ_iff.mp e))
theorem Tp{R:List V}{k:Nat}(h0:k≠0)(hk:k<=R.length)(hn:keys.contains k=false)(t:V):t::fl (keys++[k]) 1 R=(t::fl keys 1 R).take (fM keys R k)++lH::(t::fl keys 1 R).drop (fM keys R k):=by
 obtain⟨A,b,B,e,hA⟩:∃A b B,R=A++b::B/\A.length+1=k:=by
  have hd:R.drop (k-1)≠[]:=fun e=>by
   have:=List.drop_eq_nil_iff.mp e;exact absurd (Nat.lt_of_lt_of_le (Nat.sub_lt (Nat.pos_of_ne_zero h0) Nat.one_pos) (q5 hk this)) (Nat.lt_irrefl _)
  refine Ho (List.exists_cons_of_ne_nil hd) fun b B eB=>?_;refine(EB (R.take (k-1)) b B (by rw[←eB,List.take_append_drop]) ?_);rw[List.length_take];exact(congrArg (· +1) (Nat.min_eq_left (q5 (Nat.sub_le ..) hk))).trans (Nat.sub_add_cancel (Nat.pos_of_ne_zero h0))
 subst e hA;have e1:fM keys (A++b::B) (A.length+1)=1+(fl keys 1 A).length:=by
  unfold fM;rw[Nat.add_sub_cancel,List.take_left]
 have e2:fl (keys++[A.length+1]) 1 A=fl keys 1 A:=xD A 1 fun x h1 h2=>iG keys _ x (Nat.ne_of_lt (Nat.lt_of_lt_of_eq h2 (v7 ..)));have e3:fl (keys++[A.length+1]) (1+A.length+1) B=fl keys (1+A.length+1) B:=xD B _ fun x h1 h2=>iG keys _ x (Nat.ne_of_gt (Nat.lt_of_lt_of_le (Nat.lt_succ_of_le (r9 (v7 ..))) h1));have e4:(keys++[A.length+1]).contains (1+A.length)=true:=by
  rw[s9,v7 1];exact q7 _ (.head _)
 have e5:keys.contains (1+A.length)=false:=by rw[v7 1];exact hn
 rw[e1,kL,kL,jR,jR,e2,e3,e4,e5,if_pos rfl,if_neg (aR rfl),v7 1 (fl keys 1 A).length,List.take_succ_cons,List.drop_succ_cons,List.take_left,List.drop_left]
 rfl
structure Ab where
 R:List V
 ln:List Int
 K:Int->Nat
 keys:List Nat
 c:Int
noncomputable def Ab.n(A:Ab):Nat:=A.R.length
noncomputable def Ab.uF(A:Ab)(j:Nat):Int:=A.ln.getD (j-1) 0
noncomputable def Ab.fM(A:Ab)(j:Nat):Nat:=Internal.fM A.keys A.R j
noncomputable def lE(K:Int->Nat)(l:Int)(v:Nat):Int->Nat:=fun x=>if x=l then v else K x
theorem fD{l:Int}{v:Nat}:lE K l v l=v:=if_pos rfl
theorem cQ{l x:Int}{v:Nat}(h:x≠l):lE K l v x=K x:=if_neg h
abbrev Ab.at_(A:Ab)(l L:Int):Prop:=A.K l≠0/\A.K l<=A.R.length/\A.uF (A.K l)=L
structure wB(A:Ab):Prop where
 mono:∀l l',l<l'->A.K l≠0->A.K l'≠0->A.K l<A.K l'
 top:∀l,A.K l<=A.R.length+1
 low:∀l,l≠A.c->A.K l<=A.R.length
 hi:∀l,A.c<l->A.K l=0
 nk:∀l,A.K l≠0->A.keys.contains (A.K l)=false
 kn:∀k,A.keys.contains k=true->k<=A.R.length
 ll:A.ln.length=A.R.length
noncomputable def Ab.add(A:Ab)(s:List Nat)(L:Int)(K:Int->Nat)(c:Int):Ab:={A with R:=A.R++[lJ s],ln:=A.ln++[L],K:=K,c:=c}
theorem Ab.add_n{A:Ab}{s:List Nat}{c:Int}:(A.add s L K c).R.length=A.R.length+1:=q6
theorem Ab.tY{A:Ab}(h:A.ln.length=A.R.length){s:List Nat}{c:Int}{j:Nat}(h0:j≠0)(hj:j<=A.R.length):(A.add s L K c).uF j=A.uF j:=by
 show(A.ln++[L]).getD (j-1) 0=A.ln.getD (j-1) 0;rw[x8,x8,List.getElem?_append_left (Nat.lt_of_lt_of_le (Nat.sub_lt (Nat.pos_of_ne_zero h0) Nat.one_pos) (q5 hj (r9 h.symm)))]
theorem Ab.Bw{A:Ab}(h:A.ln.length=A.R.length){s:List Nat}{c:Int}:(A.add s L K c).uF (A.R.length+1)=L:=by
 show(A.ln++[L]).getD (A.R.length+1-1) 0=L;rw[Nat.add_sub_cancel,x8,List.getElem?_append_right (r9 h),h,Nat.sub_self]
 rfl
theorem Ab.wU{A:Ab}{s:List Nat}{c:Int}{j:Nat}(hj:j<=A.R.length+1):(A.add s L K c).fM j=A.fM j:=Vf hj
theorem wB.add{A:Ab}(h:wB A){s:List Nat}{c:Int}(mono:∀l l',l<l'->K l≠0->K l'≠0->K l<K l')(top:∀l,K l<=A.R.length+2)(low:∀l,l≠c->K l<=A.R.length+1)(hi:∀l,c<l->K l=0)(nk:∀l,K l≠0->A.keys.contains (K l)=false):wB (A.add s L K c):=
 ⟨mono,fun l=>by rw[Ab.add_n];exact top l,fun l hl=>by rw[Ab.add_n];exact low l hl,hi,nk,fun k hk=>by rw[Ab.add_n];exact w9 (h.kn k hk),by rw[Ab.add_n];show(A.ln++[L]).length=_;rw[q6,h.ll];rfl⟩
theorem wB.fresh{A:Ab}(h:wB A){j:Nat}(hj:A.R.length<j):A.keys.contains j=false:=by
 cases e:A.keys.contains j with
 |false=>rfl
 |true=>exact absurd (h.kn j e) (Nat.not_le.mpr hj)
theorem wB.OF{A:Ab}(h:wB A){s:List Nat}:wB (A.add s L A.K A.c):=
 h.add h.mono (fun l=>w9 (h.top l)) (fun l hl=>w9 (h.low l hl)) h.hi h.nk
theorem wB.WU{A:Ab}(h:wB A){s:List Nat}:wB (A.add s L (lE A.K (A.c+1) (A.R.length+2)) (A.c+1)):=by
 refine h.add (fun l l' hl h1 h2=>?_) (fun l=>?_) (fun l hl=>?_) (fun l hl=>?_) (fun l hl=>?_)
 ·by_cases e:l=A.c+1
  ·have l1:A.c+1<l':=e▸hl;rw[cQ (Int.ne_of_gt l1)] at h2;exact absurd (h.hi l' (Int.lt_trans (Int.lt_succ A.c) l1)) h2
  ·rw[cQ e] at h1⊢
   by_cases e':l'=A.c+1
   ·subst e';rw[fD];exact Nat.lt_succ_of_le (h.top l)
   ·rw[cQ e'] at h2⊢;exact h.mono l l' hl h1 h2
 ·unfold lE;split
  ·exact w7 _
  ·exact w9 (h.top l)
 ·rw[cQ hl];exact h.top l
 ·rw[cQ (Int.ne_of_gt hl)];exact h.hi l (Int.lt_trans (Int.lt_succ A.c) hl)
 ·by_cases e:l=A.c+1
  ·rw[e,fD];exact h.fresh (Nat.lt_succ_of_lt (x9 _))
  ·rw[cQ e] at hl⊢;exact h.nk l hl
theorem wB.kill{A:Ab}(h:wB A){s:List Nat}{v:Nat}{c:Int}(hv:v=0\/v=A.R.length+2/\c=A.c)(hc:c=A.c\/c=A.c-1/\v=0):wB (A.add s L (lE A.K A.c v) c):=by
 refine h.add (fun l l' hl h1 h2=>?_) (fun l=>?_) (fun l hl=>?_) (fun l hl=>?_) (fun l hl=>?_)
 ·by_cases e:l=A.c
  ·have l1:A.c<l':=e▸hl;rw[cQ (Int.ne_of_gt l1)] at h2;exact absurd (h.hi l' l1) h2
  ·rw[cQ e] at h1⊢
   by_cases e':l'=A.c
   ·subst e';rw[fD] at h2⊢;rw[(hv.resolve_left h2).1];exact Nat.lt_succ_of_le (w9 (h.low l e))
   ·rw[cQ e'] at h2⊢;exact h.mono l l' hl h1 h2
 ·by_cases e:l=A.c
  ·rw[e,fD];exact hv.elim (fun q=>q▸Nat.zero_le _) fun q=>r9 q.1
  ·rw[cQ e];exact w9 (h.top l)
 ·by_cases e:l=A.c
  ·rw[e,fD];exact hv.elim (fun q=>q▸Nat.zero_le _) fun q=>absurd (e.trans q.2.symm) hl
  ·rw[cQ e];exact w9 (h.low l e)
 ·by_cases e:l=A.c
  ·rw[e,fD];exact hv.elim id fun q=>absurd (show c<l from hl) (by rw[q.2,e];exact Int.lt_irrefl _)
  ·rw[cQ e];exact h.hi l (hc.elim (fun q=>q▸hl) fun q=>Int.lt_iff_le_and_ne.mpr ⟨Int.le_of_sub_one_lt (q.1▸hl),Ne.symm e⟩)
 ·by_cases e:l=A.c
  ·rw[e,fD] at hl⊢;exact h.fresh (by rw[(hv.resolve_left hl).1];exact Nat.lt_succ_of_lt (x9 _))
  ·rw[cQ e] at hl⊢;exact h.nk l hl
noncomputable def Ab.take(A:Ab):Ab:={A with keys:=A.keys++[A.K A.c],K:=lE A.K A.c 0}
theorem wB.take{A:Ab}(h:wB A)(h0:A.K A.c≠0)(h1:A.K A.c<=A.R.length):wB A.take:=by
 refine⟨fun l l' hl k1 k2=>?_,fun l=>?_,fun l hl=>?_,fun l hl=>?_,fun l hl=>?_,fun k hk=>?_,h.ll⟩
 ·have e:l≠A.c:=fun e=>k1 (by rw[e];exact fD);have e':l'≠A.c:=fun e=>k2 (by rw[e];exact fD);have u1:A.take.K l=A.K l:=cQ e;have u2:A.take.K l'=A.K l':=cQ e';rw[u1] at k1⊢;rw[u2] at k2⊢;exact h.mono l l' hl k1 k2
 ·show lE A.K A.c 0 l<=_;unfold lE;split
  ·exact Nat.zero_le _
  ·exact h.top l
 ·have u1:A.take.K l=A.K l:=cQ hl;rw[u1];exact h.low l hl
 ·have u1:A.take.K l=A.K l:=cQ (by have:A.c<l:=hl;exact Int.ne_of_gt this);rw[u1];exact h.hi l hl
 ·have e:l≠A.c:=fun e=>hl (by rw[e];exact fD);have u1:A.take.K l=A.K l:=cQ e;rw[u1] at hl⊢;show(A.keys++[A.K A.c]).contains (A.K l)=false;rw[iG]
  ·exact h.nk l hl
  ·intro q
   rcases Int.lt_or_gt_of_ne e with o|o
   ·have:=h.mono l A.c o hl h0;exact absurd q (Nat.ne_of_lt this)
   ·exact hl (h.hi l o)
 ·show k<=A.R.length
  by_cases e:k=A.K A.c
  ·rw[e];exact h1
  ·refine h.kn k ?_;rw[←iG A.keys (A.K A.c) k e];exact hk
end
section
open PySem
noncomputable def cH:V:=kC (.str "<stream start>") .none .none
def wK(A:Ab)(l:Int)(k:lL):Prop:=A.K l≠0/\A.K l<=A.R.length/\k.line=A.uF (A.K l)/\k.no=A.fM (A.K l)/\k.req=false/\0<=k.idx/\(l=0->k.col=0)
structure mY(N:Int)(z:Z)(got:List V)(A:Ab):Prop where
 ok:wB A
 toks:(got++z.tokens).map dG=cH::fl A.keys 1 A.R
 tk:z.taken=got.length
 rQ:z.aH=A.c
 snd:∀kv∈z.keys,wK A kv.1 kv.2
 cmp:∀l,A.at_ l z.line->l∈z.keys.map (·.1)
 min:∀l,A.at_ l z.line->got.length<=A.fM (A.K l)
 CY:∀j,j≠0->j<=A.R.length->A.uF j<=z.line
 nd:(z.keys.map (·.1)).Nodup
 kl:z.keys.length<=A.R.length
 ind:z.indent=-1
 oW:z.aO=[]
 dn:z.done=false
 pos:0<=z.ptr
 ps:A.R.length≠0->0<z.ptr
 cl:0<=z.col
 bd:z.ptr+z.rem.length=N
section
variable{N:Int}{got:List V}{A:Ab}
theorem mY.len(h:mY N z got A):got.length+z.tokens.length=1+(fl A.keys 1 A.R).length:=by
 have e:=congrArg List.length h.toks;rw[t7,q6,List.length_cons] at e;rw[e,v7]
theorem mY.fz(h:mY N z got A)(hn:A.R.length<=90):FZ z:=
 ⟨h.nd,fun kv hk=>(h.snd kv hk).2.2.2.2.1,q5 h.kl (q5 hn (aR rfl)),by have:=h.len;have:=(rP A.keys A.R 1).2;exact q5 (q5 (Nat.le_add_left _ _) (r9 h.len)) (q5 (t9 (q5 this (Nat.mul_le_mul_left 2 hn)) 1) (aR rfl))⟩
theorem mY.move(h:mY N z got A){p l k:Int}(hl:z.line<=l)(hp:z.ptr<=p)(hk:0<=k)(hb:p+r.length=N)(hN:N<=1000):mY N {z with ptr:=p,rem:=r,line:=l,col:=k,keys:=z.keys.filter fun kv=>live l p kv.2} got A:=by
 have li:∀kv∈z.keys,kv.2.line=l->live l p kv.2=true:=fun kv hk e=>by
  unfold live;rw[u7 e,u7];rfl;have:=(h.snd kv hk).2.2.2.2.2.1;exact Int.le_trans (Int.sub_le_self _ this) (Int.le_trans (Int.le_trans (Int.le_add_of_nonneg_right (u4 _)) (Int.le_of_eq hb)) (Int.le_trans hN (aR rfl)))
 have le:∀i,A.at_ i l->A.at_ i z.line:=fun i hi=>by
  have:=h.CY (A.K i) hi.1 hi.2.1;rw[hi.2.2] at this;exact(fH hi.1 hi.2.1 (hi.2.2.trans (Int.le_antisymm this hl)))
 have sub:(z.keys.filter fun kv=>live l p kv.2).Sublist z.keys:=List.filter_sublist;refine⟨h.ok,h.toks,h.tk,h.rQ,fun kv hk=>h.snd kv (sub.subset hk),fun i hi=>?_,fun i hi=>h.min i (le i hi),fun j h0 hj=>Int.le_trans (h.CY j h0 hj) hl,(sub.map _).nodup h.nd,q5 sub.length_le h.kl,h.ind,h.oW,h.dn,Int.le_trans h.pos hp,fun e=>Int.lt_of_lt_of_le (h.ps e) hp,hk,hb⟩;refine bQ (List.mem_map.mp (h.cmp i (le i hi))) fun kv m1 m2=>?_;refine List.mem_map.mpr (fG kv (List.mem_filter.mpr ⟨m1,li kv m1 ?_⟩) m2);have:=(h.snd kv m1).2.2.1;rw[this,m2];exact hi.2.2
theorem mY.stale(h:mY N z got A)(hN:N<=1000):mY N {z with keys:=z.keys.filter fun kv=>live z.line z.ptr kv.2} got A:=h.move (r:=z.rem) (Int.le_refl _) (Int.le_refl _) h.cl h.bd hN
theorem mY.more(h:mY N z got A){t:V}{s:List Nat}(ht:dG t=lJ s):(got++(z.tokens++[t])).map dG=cH::fl A.keys 1 (A.R++[lJ s]):=by
 have k:A.keys.contains (1+A.R.length)=false:=h.ok.fresh (Nat.lt_of_lt_of_eq (Nat.lt_add_one _) (v7 ..));rw[←r7,u6,h.toks,kL,jR,k,List.map_singleton,ht]
 rfl
theorem pP{c:Int}{kv:Int×lL}(h:kv∈cA ks c):kv∈ks/\kv.1≠c:=by
 have:=List.mem_filter.mp h;exact⟨this.1,r8 this.2⟩
theorem Cs{c l:Int}(h:l∈ks.map (·.1))(hl:l≠c):l∈(cA ks c).map (·.1):=by
 refine bQ (List.mem_map.mp h) fun kv m1 m2=>?_;exact List.mem_map.mpr (fG kv (List.mem_filter.mpr ⟨m1,u7 (by rw[m2];exact hl)⟩) m2)
theorem Uq{c:Int}{k:lL}:sS (cA ks c) c k=cA ks c++[(c,k)]:=by
 unfold sS;rw[if_neg];intro e;refine bQ (List.any_eq_true.mp e) fun kv m1 m2=>?_;exact(pP m1).2 (r8 m2)
theorem mY.kill(h:mY N z got A){t:V}{s:List Nat}(ht:dG t=lJ s){v:Nat}{c p l k:Int}{r:List Nat}{a:Bool}{L:Int}(hL:L=z.line)(hv:v=0\/v=A.R.length+2/\c=A.c)(hc:c=A.c\/c=A.c-1/\v=0)
  (hl:z.line<=l) (hp:z.ptr<p) (hk:0<=k) (hb:p+r.length=N):mY N (z.mv (cA z.keys z.aH) (z.tokens++[t]) c p r l k a) got (A.add s L (lE A.K A.c v) c):=by
 have sub:(cA z.keys z.aH).Sublist z.keys:=List.filter_sublist;have le:∀i,(A.add s L (lE A.K A.c v) c).at_ i l->i≠A.c/\A.at_ i z.line/\lE A.K A.c v i=A.K i:=fun i hi=>by
  refine lZ hi fun h1 h2 h3=>?_;rw[Ab.add_n] at h2
  by_cases e:i=A.c
  ·change lE A.K A.c v i≠0 at h1;change lE A.K A.c v i<=_ at h2;rw[e,fD] at h1 h2;exact hv.elim (fun e=>absurd e h1) fun e=>absurd (q5 (r9 e.1.symm) h2) (Nat.not_succ_le_self _)
  ·have u:lE A.K A.c v i=A.K i:=cQ e;change lE A.K A.c v i≠0 at h1;change Ab.uF _ (lE A.K A.c v i)=l at h3;rw[u] at h1 h3;have lo:=h.ok.low i e;rw[Ab.tY h.ok.ll h1 lo] at h3;have:=h.CY _ h1 lo;rw[h3] at this;exact(fH e (fH h1 lo (h3.trans (Int.le_antisymm this hl))) u)
 refine⟨h.ok.kill hv hc,h.more ht,h.tk,rfl,fun kv hk=>?_,fun i hi=>?_,fun i hi=>?_,fun j h0 hj=>?_,(sub.map _).nodup h.nd,by rw[Ab.add_n];exact w9 (q5 sub.length_le h.kl),h.ind,h.oW,h.dn,Int.le_of_lt (Int.lt_of_le_of_lt h.pos hp),fun _=>Int.lt_of_le_of_lt h.pos hp,hk,hb⟩
 ·obtain⟨m1,m2⟩:=pP hk;rw[h.rQ] at m2;refine yR (h.snd kv m1) fun k1 k2 k3 k4 k5=>?_;have u:(A.add s L (lE A.K A.c v) c).K kv.1=A.K kv.1:=cQ m2;unfold wK;rw[u,Ab.add_n,Ab.tY h.ok.ll k1 k2,Ab.wU (w9 k2)];exact(Xx k1 (w9 k2) k3 k4 k5)
 ·refine lZ (le i hi) fun e k1 k2=>?_;exact Cs (h.cmp i k1) (by rw[h.rQ];exact e)
 ·refine lZ (le i hi) fun e k1 k2=>?_;have u:(A.add s L (lE A.K A.c v) c).K i=A.K i:=k2;rw[u,Ab.wU (w9 k1.2.1)];exact h.min i k1
 ·rw[Ab.add_n] at hj
  rcases Nat.eq_or_lt_of_le hj with e|e
  ·rw[e,Ab.Bw h.ok.ll,hL];exact hl
  ·rw[Ab.tY h.ok.ll h0 (Nat.lt_succ_iff.mp e)];exact Int.le_trans (h.CY j h0 (Nat.lt_succ_iff.mp e)) hl
theorem mY.save(h:mY N z got A){t:V}{s:List Nat}(ht:dG t=lJ s){c p l k:Int}{a:Bool}(hL:L=z.line)(ok:wB (A.add s L K c))(hK:∀i,i<=A.c->K i=A.K i)(YM:∀i,A.c<i->K i=0\/A.R.length+1<K i)(ha:z.allow=decide (A.K A.c=A.R.length+1))(AF:(Cu z).req=false)(SE:A.c=0->z.col=0)
  (hl:z.line<=l) (hp:z.ptr<p) (hk:0<=k) (hb:p+r.length=N):mY N (z.mv (bB z) (z.tokens++[t]) c p r l k a) got (A.add s L K c):=by
 have lo:∀i,K i≠0->K i<=A.R.length+1->i<=A.c/\K i=A.K i:=fun i h0 h1=>by
  rcases Int.lt_or_le A.c i with o|o
  ·have:=YM i o;exact this.elim (fun e=>absurd e h0) fun e=>absurd h1 (Nat.not_le.mpr e)
  ·exact⟨o,hK i o⟩
 have le:∀i,(A.add s L K c).at_ i l->i<=A.c/\K i=A.K i/\(A.at_ i z.line\/i=A.c/\A.K i=A.R.length+1):=fun i hi=>by
  refine lZ hi fun h1 h2 h3=>?_;rw[Ab.add_n] at h2;obtain⟨o,u⟩:=lo i h1 h2;refine(fH o u ?_);change K i≠0 at h1;change K i<=_ at h2;change Ab.uF _ (K i)=l at h3;rw[u] at h1 h2 h3
  rcases Nat.eq_or_lt_of_le h2 with e|e
  ·refine .inr ⟨?_,e⟩
   by_cases e2:i=A.c
   ·exact e2
   ·have:=h.ok.low i e2;exact absurd (q5 (r9 e.symm) this) (Nat.not_succ_le_self _)
  ·have lo:=Nat.lt_succ_iff.mp e;rw[Ab.tY h.ok.ll h1 lo] at h3;have:=h.CY _ h1 lo;rw[h3] at this;exact .inl (fH h1 lo (h3.trans (Int.le_antisymm this hl)))
 have old:∀kv:Int×lL,wK A kv.1 kv.2->wK (A.add s L K c) kv.1 kv.2:=fun kv hk=>by
  refine yR hk fun k1 k2 k3 k4 k5=>?_;have o:kv.1<=A.c:=by
   rcases Int.lt_or_le A.c kv.1 with o|o
   ·exact absurd (h.ok.hi _ o) k1
   ·exact o
  have u:(A.add s L K c).K kv.1=A.K kv.1:=hK _ o;unfold wK;rw[u,Ab.add_n,Ab.tY h.ok.ll k1 k2,Ab.wU (w9 k2)];exact(Xx k1 (w9 k2) k3 k4 k5)
 have sv:(bB z=z.keys/\A.K A.c≠A.R.length+1)\/(bB z=cA z.keys z.aH++[(z.aH,Cu z)]/\A.K A.c=A.R.length+1):=by
  unfold bB
  by_cases e:A.K A.c=A.R.length+1
  ·rw[ha,u7 e,if_pos rfl,Uq];exact .inr ⟨rfl,e⟩
  ·rw[ha,u0 e,if_neg (aR rfl)];exact .inl ⟨rfl,e⟩
 have sub:(cA z.keys z.aH).Sublist z.keys:=List.filter_sublist;have Vi:(A.add s L K c).fM (A.R.length+1)=got.length+z.tokens.length:=by
  rw[Ab.wU (w7 _),h.len];exact sV
 refine⟨ok,h.more ht,h.tk,rfl,fun kv hk=>?_,fun i hi=>?_,fun i hi=>?_,fun j h0 hj=>?_,?_,?_,h.ind,h.oW,h.dn,Int.le_of_lt (Int.lt_of_le_of_lt h.pos hp),fun _=>Int.lt_of_le_of_lt h.pos hp,hk,hb⟩
 ·change kv∈bB z at hk
  rcases sv with⟨e,f⟩|⟨e,f⟩
  ·rw[e] at hk;exact old kv (h.snd kv hk)
  ·rw[e] at hk
   rcases List.mem_append.mp hk with m|m
   ·exact old kv (h.snd kv (pP m).1)
   ·cases List.mem_singleton.mp m;have u:(A.add s L K c).K z.aH=A.R.length+1:=by
     show K z.aH=_;rw[h.rQ,hK _ (Int.le_refl _),f]
    unfold wK;rw[u,Ab.add_n,Ab.Bw h.ok.ll,Vi];exact(QN (Nat.succ_ne_zero _) (w7 _) hL.symm (by show z.taken+_=_;rw[h.tk];rfl) AF h.pos (fun e=>SE (h.rQ.symm.trans e)))
 ·refine lZ (le i hi) fun o u w=>?_;show i∈(bB z).map (·.1)
  rcases sv with⟨e,f⟩|⟨e,f⟩
  ·rw[e]
   rcases w with w|w
   ·exact h.cmp i w
   ·exact absurd (w.1▸w.2) f
  ·rw[e,u6]
   by_cases q:i=z.aH
   ·exact q7 _ (by rw[q];exact .head _)
   ·rcases w with w|w
    ·exact List.mem_append_left _ (Cs (h.cmp i w) q)
    ·exact absurd (w.1.trans h.rQ.symm) q
 ·refine lZ (le i hi) fun o u w=>?_;have u:(A.add s L K c).K i=A.K i:=u;rw[u]
  rcases w with w|w
  ·rw[Ab.wU (w9 w.2.1)];exact h.min i w
  ·rw[w.2,Vi];exact x7 _ _
 ·rw[Ab.add_n] at hj
  rcases Nat.eq_or_lt_of_le hj with e|e
  ·rw[e,Ab.Bw h.ok.ll,hL];exact hl
  ·rw[Ab.tY h.ok.ll h0 (Nat.lt_succ_iff.mp e)];exact Int.le_trans (h.CY j h0 (Nat.lt_succ_iff.mp e)) hl
 ·show((bB z).map (·.1)).Nodup
  rcases sv with⟨e,f⟩|⟨e,f⟩
  ·rw[e];exact h.nd
  ·rw[e,u6];refine List.nodup_append.mpr (fH ((sub.map _).nodup h.nd) (x6.mpr ⟨List.not_mem_nil,List.nodup_nil⟩) (fun x hx y hy=>?_));refine bQ (List.mem_map.mp hx) fun kv m1 m2=>?_;cases List.mem_singleton.mp hy;rw[←m2];exact(pP m1).2
 ·show(bB z).length<=_;rw[Ab.add_n]
  rcases sv with⟨e,f⟩|⟨e,f⟩
  ·rw[e];exact w9 h.kl
  ·rw[e,q6];exact Nat.succ_le_succ (q5 sub.length_le h.kl)
theorem mY.key(h:mY N z got A)(hk:A.at_ A.c z.line){n:Nat}(hn:A.fM (A.K A.c)=got.length+n){t:V}(ht:dG t=lH):mY N {z with keys:=cA z.keys z.aH,tokens:=z.tokens.take n++t::z.tokens.drop n} got A.take:=by
 have sub:(cA z.keys z.aH).Sublist z.keys:=List.filter_sublist;have lt:∀i,A.K i≠0->A.K i<=A.K A.c\/A.c<i:=fun i h0=>by
  rcases Int.lt_or_le A.c i with o|o
  ·exact .inr o
  ·rcases Int.lt_or_eq_of_le o with o|o
   ·exact .inl (Nat.le_of_lt (h.ok.mono i A.c o h0 hk.1))
   ·rw[o];exact .inl (w7 _)
 have le:∀i,A.take.at_ i z.line->i≠A.c/\A.at_ i z.line/\lE A.K A.c 0 i=A.K i:=fun i hi=>by
  refine lZ hi fun h1 h2 h3=>?_;have e:i≠A.c:=fun e=>h1 (by rw[e];exact fD);have u:A.take.K i=A.K i:=cQ e;rw[u] at h1 h2 h3;exact(fH e (fH h1 h2 h3) u)
 have no:∀i,A.K i≠0->A.take.fM (A.K i)=A.fM (A.K i):=fun i h0=>by
  rcases lt i h0 with o|o
  ·exact Vg o h0
  ·exact absurd (h.ok.hi i o) h0
 refine⟨h.ok.take hk.1 hk.2.1,?_,h.tk,h.rQ,fun kv m=>?_,fun i hi=>?_,fun i hi=>?_,h.CY,(sub.map _).nodup h.nd,q5 sub.length_le h.kl,h.ind,h.oW,h.dn,h.pos,h.ps,h.cl,h.bd⟩
 ·have e:(got++(z.tokens.take n++t::z.tokens.drop n)).map dG=((got++z.tokens).map dG).take (got.length+n)++lH::((got++z.tokens).map dG).drop (got.length+n):=by
   rw[←List.map_take,←List.map_drop,List.take_length_add_append,List.drop_length_add_append,←ht,←List.map_cons,←u6,r7]
  show(got++(z.tokens.take n++t::z.tokens.drop n)).map dG=_;rw[e,h.toks,←hn];exact(Tp hk.1 hk.2.1 (h.ok.nk _ hk.1) cH).symm
 ·obtain⟨m1,m2⟩:=pP m;rw[h.rQ] at m2;refine yR (h.snd kv m1) fun k1 k2 k3 k4 k5=>?_;have u:A.take.K kv.1=A.K kv.1:=cQ m2;unfold wK;rw[u,no _ k1];exact(Xx k1 k2 k3 k4 k5)
 ·refine lZ (le i hi) fun e k1 k2=>?_;exact Cs (h.cmp i k1) (by rw[h.rQ];exact e)
 ·refine lZ (le i hi) fun e k1 k2=>?_;have u:A.take.K i=A.K i:=k2;rw[u,no i k1.1];exact h.min i k1
end
end
section
open PySem
inductive eU:Nat->Z->List V->List V×Option (V×V)->Prop
 |more{k z z1 z2 got r:_}(h1:dT z=.ok true z1)(h2:dE 1000 z1=.ok () z2)(h:eU k z2 got r):eU (k+1) z got r
 |err{k z z1 got c p:_}(h1:dT z=.ok true z1)(h2:dE 1000 z1=.err c p):eU (k+1) z got (got,some (c,p))
 |pop{k z z1 got t ts r:_}(h1:dT z=.ok false z1)(h2:z1.tokens=t::ts)(hl:z1.tokens.length<=1000)(h:eU k {z1 with taken:=z1.taken+1,tokens:=ts} (got++[t]) r):eU (k+1) z got r
 |stop{k z z1 got:_}(h1:dT z=.ok false z1)(h2:z1.tokens=[]):eU (k+1) z got (got,none)
noncomputable def Ze(n m:Nat)(z:Z)(got:List V):Option (List V×Option (V×V)):=
 match fZ 1000 n z with
 |.ok none _=>some (got,none)
 |.ok (some t) z=>mK 1000 m z (got++[t])
 |.err c p=>some (got,some (c,p))
 |.wall=>none
theorem eU.Ze{k:Nat}{z:Z}{got:List V}{r:List V×Option (V×V)}(h:eU k z got r):k<=1000->∀n m,k<=n->k<=m->Internal.Ze n m z got=some r:=by
 induction h with
 |more h1 h2 _ ih=>
  intro hk n m hn hm;cases n with
  |zero=>exact absurd hn (Nat.not_succ_le_zero _)
  |succ n=>
   have:=ih (Nat.le_of_succ_le hk) n m (Nat.le_of_succ_le_succ hn) (Nat.le_of_succ_le hm);unfold Internal.Ze;rw[mN];rw[h1];show(match (dE 1000 _).bind fun U z=>fZ 1000 n z with|.ok none _=>_|.ok (some t) z=>_|.err c p=>_|.wall=>_)=_
   rw[h2];exact this
 |err h1 h2=>
  intro hk n m hn hm;cases n with
  |zero=>exact absurd hn (Nat.not_succ_le_zero _)
  |succ n=>
   unfold Internal.Ze;rw[mN];rw[h1];show(match (dE 1000 _).bind fun U z=>fZ 1000 n z with|.ok none _=>_|.ok (some t) z=>_|.err c p=>_|.wall=>_)=_
   rw[h2]
   rfl
 | @pop k z z1 got t ts r h1 h2 hl _ ih=>
  intro hk n m hn hm;cases n with
  |zero=>exact absurd hn (Nat.not_succ_le_zero _)
  |succ n=>
  cases m with
  |zero=>exact absurd hm (Nat.not_succ_le_zero _)
  |succ m=>
   have:=ih (Nat.le_of_succ_le hk) 1000 m (Nat.le_of_succ_le hk) (Nat.le_of_succ_le_succ hm);unfold Internal.Ze;rw[mN];rw[h1];show(match (match z1.tokens with|[]=>R.ok none z1|t::r=>if z1.tokens.length<=1000 then .ok (some t) {z1 with taken:=z1.taken+1,tokens:=r} else .wall) with|.ok none _=>_|.ok (some t) z=>_|.err c p=>_|.wall=>_)=_
   rw[h2] at hl⊢;dsimp only;rw[if_pos hl];exact this
 | @stop k z z1 got h1 h2=>
  intro hk n m hn hm;cases n with
  |zero=>exact absurd hn (Nat.not_succ_le_zero _)
  |succ n=>
   unfold Internal.Ze;rw[mN];rw[h1];show(match (match z1.tokens with|[]=>R.ok none z1|t::r=>if z1.tokens.length<=1000 then .ok (some t) {z1 with taken:=z1.taken+1,tokens:=r} else .wall) with|.ok none _=>_|.ok (some t) z=>_|.err c p=>_|.wall=>_)=_
   rw[h2]
theorem Fz:∀(ks:List (Int×lL)) (m:Option Int) (i:Int),sT m ks=some i->(m=some i\/∃kv∈ks,kv.2.no=i)/\(∀j,m=some j->i<=j)/\∀kv∈ks,i<=kv.2.no:=by
 intro eN;induction eN with
 |nil=>
  intro m i h;exact(fH (.inl h) (fun j e=>by have:=e.symm.trans h;cases this;exact Int.le_refl _) (fun _ hk=>nomatch hk))
 |cons kv r ih=>
  intro m i h;refine lZ (ih _ i h) fun h1 h2 h3=>?_;have h2:=h2 _ rfl;cases m with
  |none=>
   refine(fH (.inr ?_) (fun _ e=>(nomatch e)) (fun x hx=>?_))
   ·rcases h1 with e|⟨x,hx,e⟩
    ·exact(fG kv (.head _) (Option.some.inj e))
    ·exact(fG x (.tail _ hx) e)
   ·rcases s8.mp hx with e|hx
    ·rw[e];exact h2
    ·exact h3 x hx
  |some j=>
   change sT (some (if kv.2.no<j then kv.2.no else j)) r=some i at h;change some (if kv.2.no<j then kv.2.no else j)=some i\/_ at h1;change i<=(if kv.2.no<j then kv.2.no else j) at h2
   by_cases o:kv.2.no<j
   ·rw[if_pos o] at h1 h2;refine(fH (.inr ?_) (fun q e=>?_) (fun x hx=>?_))
    ·rcases h1 with e|⟨x,hx,e⟩
     ·exact(fG kv (.head _) (Option.some.inj e))
     ·exact(fG x (.tail _ hx) e)
    ·cases e;exact Int.le_trans h2 (Int.le_of_lt o)
    ·rcases s8.mp hx with e|hx
     ·rw[e];exact h2
     ·exact h3 x hx
   ·rw[if_neg o] at h1 h2;refine(fH ?_ (fun q e=>?_) (fun x hx=>?_))
    ·rcases h1 with e|⟨x,hx,e⟩
     ·exact .inl e
     ·exact .inr (fG x (.tail _ hx) e)
    ·cases e;exact h2
    ·rcases s8.mp hx with e|hx
     ·rw[e];exact Int.le_trans h2 (Int.not_lt.mp o)
     ·exact h3 x hx
theorem xU:∀(ks:List (Int×lL)) (m:Option Int),(m≠none\/ks≠[])->∃i,sT m ks=some i
 |[],some i,_=>⟨i,rfl⟩
 |[],none,h=>by rcases h with h|h<;>exact absurd rfl h
 |kv::r,m,_=>xU r _ (.inl fun e=>nomatch e)
section
variable{N:Int}{got:List V}{A:Ab}
def Ei(A:Ab)(L:Int)(ts got:List V):Prop:=ts=[]\/∃l,A.at_ l L/\got.length=A.fM (A.K l)
theorem mY.pop(h:mY N z got A){t:V}{ts:List V}(ht:z.tokens=t::ts)(hm:∀l,A.at_ l z.line->got.length<A.fM (A.K l)):mY N {z with taken:=z.taken+1,tokens:=ts} (got++[t]) A:=by
 refine⟨h.ok,?_,?_,h.rQ,h.snd,h.cmp,fun l hl=>?_,h.CY,h.nd,h.kl,h.ind,h.oW,h.dn,h.pos,h.ps,h.cl,h.bd⟩
 ·rw[r7];have:=h.toks;rw[ht] at this;exact this
 ·show z.taken+1=_;rw[h.tk,q6];rfl
 ·rw[q6];exact hm l hl
def EU(N:Int)(A:Ab)(z:Z)(got:List V):Prop:=∀Ω:Prop,(∀z0 fP ks ts tk (q:Nat),dT z0=.ok true {z with keys:=ks,tokens:=ts,taken:=tk}->mY N {z with keys:=ks,tokens:=ts,taken:=tk} fP A->Ei A z.line ts fP->got.length+q=fP.length->(∀j r,eU j z0 fP r->eU (j+q) z got r)->Ω)->Ω
theorem EU.mk{N:Int}{A:Ab}{got:List V}(z0 fP ks ts tk)(q:Nat)(a1:dT z0=.ok true {z with keys:=ks,tokens:=ts,taken:=tk})(a2:mY N {z with keys:=ks,tokens:=ts,taken:=tk} fP A)(a3:Ei A z.line ts fP)(a4:got.length+q=fP.length)(a5:∀j r,eU j z0 fP r->eU (j+q) z got r):EU N A z got:=fun U φ=>φ z0 fP ks ts tk q a1 a2 a3 a4 a5
theorem mY.NT(hn:A.R.length<=90)(hN:N<=1000):∀(m:Nat) (z:Z) (got:List V),z.tokens.length<=m->mY N z got A->EU N A z got:=fun m=>by
 induction m with
 |zero=>
  intro z got hm h;have e:z.tokens=[]:=List.length_eq_zero_iff.mp (Nat.le_zero.mp hm);exact .mk z got z.keys z.tokens z.taken 0 (jV h.dn e) h (.inl e) rfl fun _ _ hr=>hr
 |succ m ih=>
  intro z got hm h
  by_cases e:z.tokens=[]
  ·exact .mk z got z.keys z.tokens z.taken 0 (jV h.dn e) h (.inl e) rfl fun _ _ hr=>hr
  ·have hs:=h.stale hN;have nm:=pU (h.fz hn) h.dn e
   by_cases b:(sT none (z.keys.filter fun kv=>live z.line z.ptr kv.2)==some z.taken)=true
   ·rw[b] at nm;refine .mk z got _ z.tokens z.taken 0 nm hs (.inr ?_) rfl fun _ _ hr=>hr;refine lZ (Fz _ _ _ (beq_iff_eq.mp b)) fun h1 h2 h3=>?_
    rcases h1 with h1|⟨kv,h1,h4⟩
    ·exact nomatch h1
    ·refine yR (hs.snd kv h1) fun k1 k2 k3 k4 k5=>?_;have lv:kv.2.line=z.line:=by
      have:=(List.mem_filter.mp h1).2;unfold live at this;exact r8 ((q9 _ _).mp this).1
     refine(fG kv.1 (fH k1 k2 (k3.symm.trans lv)) ?_);have:((A.fM (A.K kv.1):Nat):Int)=got.length:=k4.symm.trans (h4.trans h.tk);exact(Int.ofNat.inj this).symm
   ·have b:(sT none (z.keys.filter fun kv=>live z.line z.ptr kv.2)==some z.taken)=false:=by
     cases q:(sT none (z.keys.filter fun kv=>live z.line z.ptr kv.2)==some z.taken) with
     |false=>rfl
     |true=>exact absurd q b
    rw[b] at nm;refine Ho (List.exists_cons_of_ne_nil e) fun t ts et=>?_;have AD:∀l,A.at_ l z.line->got.length<A.fM (A.K l):=fun l hl=>by
     refine bQ (List.mem_map.mp (hs.cmp l hl)) fun kv m1 m2=>?_;obtain⟨i,hi⟩:=xU (z.keys.filter fun kv=>live z.line z.ptr kv.2) none (.inr fun e=>by rw[show List.filter _ z.keys=[] from e] at m1;exact nomatch m1)
     refine lZ (Fz _ _ _ hi) fun h1 h2 h3=>?_;have ne:i≠z.taken:=fun e=>by rw[hi,e,beq_self_eq_true] at b;exact nomatch b
     have k4:=(hs.snd kv m1).2.2.2.1;have l3:=h3 kv m1
     rcases h1 with h1|⟨kw,n1,n2⟩
     ·exact nomatch h1
     ·refine yR (hs.snd kw n1) fun w1 w2 w3 w4 w5=>?_;have lv:kw.2.line=z.line:=by
       have:=(List.mem_filter.mp n1).2;unfold live at this;exact r8 ((q9 _ _).mp this).1
      have mi:=h.min kw.1 (fH w1 w2 (w3.symm.trans lv));rw[m2] at k4;have tk:=h.tk;exact Int.ofNat_lt.mp (Int.lt_of_lt_of_le (Int.lt_iff_le_and_ne.mpr ⟨Int.le_trans (Int.ofNat_le.mpr mi) (Int.le_of_eq (w4.symm.trans n2)),fun e=>ne (e.symm.trans tk.symm)⟩) (Int.le_trans l3 (Int.le_of_eq k4)))
    have hp:=hs.pop (t:=t) (ts:=ts) et AD;refine ih _ _ (by rw[et] at hm;exact Nat.le_of_succ_le_succ hm) hp _ fun z0 fP ks j8 tk q a1 a2 a3 a4 a5=>?_;refine .mk z0 fP ks j8 tk (q+1) a1 a2 a3 ?_ fun j r hr=>?_
    ·rw[←a4,q6];show _=_+1+q;exact Nat.add_right_comm got.length q 1
    ·exact eU.pop nm et (q5 (h.fz hn).tl (by decide)) (a5 j r hr)
end
end
section
open PySem
def Rd(z:Z)(A:Ab)(c:Nat)(r:List Nat)(L0 L:Int):Prop:=
 ∃g d,(g,d)∈gX/\z.rem=g++c::r/\z.line+d=L/\L0<=z.line/\(isIn C0 c=false\/L0=L->z.allow=decide (A.K A.c=A.R.length+1))/\(c=64->z.line=L0)
noncomputable def Ab.step(A:Ab)(s:List Nat)(L:Int):Ab:=
 if aY.contains s then A.add s L (lE A.K (A.c+1) (A.R.length+2)) (A.c+1)
 else if bU.contains s then A.add s L (lE A.K A.c 0) (A.c-1)
 else if Gq.contains s then A.add s L (lE A.K A.c (if s=[63] then 0 else A.R.length+2)) A.c
 else if s=[58] then(if A.K A.c≠0/\A.K A.c<=A.R.length/\A.uF (A.K A.c)=L then A.take else A).add s L (lE A.K A.c 0) A.c
 else A.add s L A.K A.c
noncomputable def gO:List (List Nat):=rX++(aY++(bU++(Gq++[[58]])))
theorem Fo:∀q∈gX,0<=q.2:=by decide
section
variable{N:Int}{got:List V}{A:Ab}
theorem mY.ahead(h:mY N z got A)(hn:A.R.length<=90)(hN:N<=1000)(hf:A.c≠0)(h0:A.R.length≠0){c:Nat}{L0:Int}(rd:Rd z A c r L0 L)(hc:pS c=true):
  ∃z0 z1 fP q zs,dT z0=.ok true z1/\mY N z1 fP A/\Ei A z.line z1.tokens fP/\got.length+q=fP.length/\(∀j r,eU j z0 fP r->eU (j+q) z got r)/\
   dE 1000 z1=bR 1000 c zs/\mY N zs fP A/\zs.rem=c::r/\zs.line=L/\zs.allow=z.allow/\z1.line=z.line/\∀kv∈zs.keys,kv.2.line=zs.line:=by
 refine Mt rd fun g d hg hr hl m8 ha PC=>?_;refine mY.NT hn hN _ z got (w7 _) h _ fun z0 fP ks ts tk q a1 a2 a3 a4 a5=>?_;refine Hq (It (z:={z with keys:=ks,tokens:=ts,taken:=tk}) (a2.fz hn) (Int.ne_of_gt (a2.ps h0)) (fun e=>hf (a2.rQ.symm.trans e)) hg hr hc) fun p' l' k' e1 e2 e3 e4=>?_
 refine⟨z0,_,fP,q,_,a1,a2,a3,a4,a5,e1,a2.move ?_ ?_ (e4 a2.cl) ?_ hN,rfl,e3.trans hl,rfl,rfl,fun kv hk=>?_⟩
 ·have:=Fo _ hg;rw[e3];exact Int.le_add_of_nonneg_right this
 ·rw[e2];exact Int.le_add_of_nonneg_right (u4 _)
 ·have:=h.bd;rw[hr,q6] at this;rw[e2,←this];show z.ptr+_+_=z.ptr+((_+_:Nat):Int);rw[Int.natCast_add,t8]
 ·have:=(List.mem_filter.mp hk).2;unfold live at this;exact r8 ((q9 _ _).mp this).1
theorem Rd.of{zs z2:Z}{A':Ab}{ts:List V}{fw own:Int}{s g:List Nat}{d:Int}{c:Nat}{av:Bool}{res:R Unit}(hs:Nn zs res ks ts fw s.length own av g d c r)(hr:zs.rem=s++(g++c::r))(hb:zs.ptr+zs.rem.length=N)(ho:0<=own)
  (hc:0<=zs.col) (hJ:∀{p l k:Int} {r':List Nat} {a:Bool},zs.line<=l->zs.ptr<p->0<=k->p+r'.length=N->mY N (zs.mv ks ts fw p r' l k a) got A') (RY:av=decide (A'.K A'.c=A'.R.length+1)):
  ∃z2,res=.ok () z2/\mY N z2 got A'/\Rd z2 A' c r (zs.line+own) (zs.line+own+d):=by
 obtain⟨p,l,k,a,g2,d2,e1,e2,e3,e4,e5,e6,e7,e8,e9⟩:=hs;refine⟨_,e1,hJ (Int.le_trans (Int.le_add_of_nonneg_right ho) e5) e8 (e9 hc) ?_,g2,d2,e2,rfl,e4,e5,fun hc=>(e6 (hc.imp_right fun e=>(Int.add_left_cancel ((u9 _).trans e)).symm)).trans RY,e7⟩;rw[hr] at hb;rw[←hb,q6,q6,q6];exact(t8 ..).symm.trans ((congrArg (· +((c::r).length:Int)) e3).trans ((t8 ..).trans (t8 ..)))
theorem DK{s:List Nat}(hs:s∈gO):(s∈rX/\aY.contains s=false/\bU.contains s=false/\Gq.contains s=false/\s≠[58])\/s∈aY\/(s∈bU/\aY.contains s=false)\/(s∈Gq/\aY.contains s=false/\bU.contains s=false)\/s=[58]:=by
 rcases List.mem_append.mp hs with m|m
 ·have k:∀s∈rX,aY.contains s=false/\bU.contains s=false/\Gq.contains s=false/\s≠[58]:=by decide
  exact .inl ⟨m,k s m⟩
 rcases List.mem_append.mp m with m|m
 ·exact .inr (.inl m)
 rcases List.mem_append.mp m with m|m
 ·have k:∀s∈bU,aY.contains s=false:=by decide
  exact .inr (.inr (.inl ⟨m,k s m⟩))
 rcases List.mem_append.mp m with m|m
 ·have k:∀s∈Gq,aY.contains s=false/\bU.contains s=false:=by decide
  exact .inr (.inr (.inr (.inl ⟨m,k s m⟩)))
 ·exact .inr (.inr (.inr (.inr (List.mem_singleton.mp m))))
theorem oX(s:List Nat):0<=own s:=by
 unfold own;split
 ·decide
 ·exact Int.le_refl _
theorem rJ:∀s∈gO,pS (s.headD 0)=true/\s=s.headD 0::s.tail:=by decide
theorem Vh(h:¬(z.aH∈z.keys.map (·.1))):eE z.keys z.aH=none:=by
 unfold eE;rw[List.find?_eq_none.mpr fun kv hk e=>h (List.mem_map.mpr ⟨kv,hk,r8 e⟩)];rfl
theorem BN{zs:Z}(h:mY N zs got A)(hn:A.R.length<=80)(hN:N<=1000)(hf:A.c≠0){s g:List Nat}{d:Int}{c:Nat}(hs:s∈gO)(hg:(g,d)∈gX)(tK:Qj s g c=true)(hb:c=58->qL r=true)(hr:zs.rem=s++(g++c::r))
  (ha:isIn C0 (s.headD 0)=false->zs.allow=decide (A.K A.c=A.R.length+1)) (Af:∀kv∈zs.keys,kv.2.line=zs.line):
  ∃z2,bR 1000 (s.headD 0) zs=.ok () z2/\mY N z2 got (A.step s zs.line)/\Rd z2 (A.step s zs.line) c r (zs.line+own s) (zs.line+own s+d):=by
 have fz:=h.fz (q5 hn (aR rfl));have MB:zs.aH≠0:=fun e=>hf (h.rQ.symm.trans e);have AF:(Cu zs).req=false:=by
  show(decide (zs.aH=0)&&_)=false;rw[u0 MB];rfl
 rcases DK hs with⟨m,e1,e2,e3,e4⟩|m|⟨m,e1⟩|⟨m,e1,e2⟩|m
 ·have ea:A.step s zs.line=A.add s zs.line A.K A.c:=by
   unfold Ab.step;rw[e1,e2,e3,if_neg (aR rfl),if_neg (aR rfl),if_neg (aR rfl),if_neg e4]
  have k:∀s∈rX,isIn C0 (s.headD 0)=false:=by decide
  refine bQ (Py fz MB m hg tK hb hr) fun t t1 t2=>?_;rw[ea];refine Rd.of t2 hr h.bd (oX s) h.cl (@fun p l k' r' a l1 l2 l0 l3=>?_) ?_ (z2:=zs)
  ·have:=h.save (k:=k') (a:=a) (t:=t) (s:=s) (K:=A.K) (c:=A.c) t1 rfl h.ok.OF (fun _ _=>rfl) (fun i hi=>.inl (h.ok.hi i hi)) (ha (k s m)) AF (fun e=>absurd e hf) l1 l2 l0 l3;rw[h.rQ];exact this
  ·symm
   refine u0 ?_;rw[Ab.add_n];exact Nat.ne_of_lt (Nat.lt_succ_of_le (h.ok.top A.c))
 ·have ea:A.step s zs.line=A.add s zs.line (lE A.K (A.c+1) (A.R.length+2)) (A.c+1):=if_pos (s9.mpr m);have k:∀s∈aY,isIn C0 (s.headD 0)=false:=by decide
  refine bQ (Gz fz m hg hr) fun t t1 t2=>?_;rw[ea];refine Rd.of t2 hr h.bd (oX s) h.cl (@fun p l k' r' a l1 l2 l0 l3=>?_) ?_ (z2:=zs)
  ·have:=h.save (k:=k') (a:=a) (t:=t) (s:=s) (K:=lE A.K (A.c+1) (A.R.length+2)) (c:=A.c+1) t1 rfl h.ok.WU (fun i hi=>cQ (Int.ne_of_lt (Int.lt_add_one_of_le hi))) (fun i hi=>?_) (ha (k s m)) AF (fun e=>absurd e hf) l1 l2 l0 l3
   ·rw[h.rQ];exact this
   ·by_cases e:i=A.c+1
    ·rw[e,fD];exact .inr (x9 _)
    ·rw[cQ e];exact .inl (h.ok.hi i hi)
  ·rw[Ab.add_n];exact(u7 fD).symm
 ·have ea:A.step s zs.line=A.add s zs.line (lE A.K A.c 0) (A.c-1):=by
   unfold Ab.step;rw[e1,if_neg (aR rfl),if_pos (s9.mpr m)]
  refine bQ (Px fz m hg hr) fun t t1 t2=>?_;rw[ea];refine Rd.of t2 hr h.bd (oX s) h.cl (@fun p l k' r' a l1 l2 l0 l3=>?_) ?_ (z2:=zs)
  ·have:=h.kill (k:=k') (a:=a) (t:=t) (s:=s) (v:=0) (c:=A.c-1) t1 rfl (.inl rfl) (.inr ⟨rfl,rfl⟩) l1 l2 l0 l3;rw[h.rQ];rw[h.rQ] at this;exact this
  ·symm
   refine u0 ?_;rw[Ab.add_n];have u:(A.add s zs.line (lE A.K A.c 0) (A.c-1)).K (A.c-1)=A.K (A.c-1):=cQ (Int.ne_of_lt (Int.sub_lt_self _ (aR rfl)));have:=h.ok.top (A.c-1);show(A.add s zs.line (lE A.K A.c 0) (A.c-1)).K (A.c-1)≠_;rw[u];exact Nat.ne_of_lt (Nat.lt_succ_of_le this)
 ·have ea:A.step s zs.line=A.add s zs.line (lE A.K A.c (if s=[63] then 0 else A.R.length+2)) A.c:=by
   unfold Ab.step;rw[e1,e2,if_neg (aR rfl),if_neg (aR rfl),if_pos (s9.mpr m)]
  refine bQ (BQ fz MB m tK hg hr) fun t t1 t2=>?_;rw[ea];refine Rd.of t2 hr h.bd (oX s) h.cl (@fun p l k' r' a l1 l2 l0 l3=>?_) ?_ (z2:=zs)
  ·have:=h.kill (k:=k') (a:=a) (t:=t) (s:=s) (v:=if s=[63] then 0 else A.R.length+2) (c:=A.c) t1 rfl (by split;exact .inl rfl;exact .inr ⟨rfl,rfl⟩) (.inl rfl) l1 l2 l0 l3;rw[h.rQ];rw[h.rQ] at this;exact this
  ·rw[Ab.add_n];show _=decide (lE A.K A.c _ A.c=_);rw[fD]
   by_cases e:s=[63]
   ·subst e;rfl
   ·rw[if_neg e,u7 rfl];exact bne_iff_ne.mpr e
 ·subst m
  by_cases cd:A.K A.c≠0/\A.K A.c<=A.R.length/\A.uF (A.K A.c)=zs.line
  ·have ea:A.step [58] zs.line=A.take.add [58] zs.line (lE A.K A.c 0) A.c:=by
    unfold Ab.step;rw[if_neg (aR rfl),if_neg (aR rfl),if_neg (aR rfl),if_pos rfl,if_pos cd]
   have mem:=h.cmp A.c cd;rw[←h.rQ] at mem;refine jM (pQ h.nd mem) fun k g1 g2 g3=>?_;refine yR (h.snd _ g2) fun k1 k2 k3 k4 k5=>?_;rw[h.rQ] at k4;have mi:=h.min A.c cd;have le:=AS (keys:=A.keys) (R:=A.R) cd.1 (w9 cd.2.1);have ln:=h.len;have YN:A.fM (A.K A.c)=got.length+(A.fM (A.K A.c)-got.length):=(Nat.add_sub_cancel' mi).symm;have TN:=(rP A.keys A.R 1).2;have YF:A.fM (A.K A.c)-got.length<=zs.tokens.length:=by
    have:A.fM (A.K A.c)<=1+(fl A.keys 1 A.R).length:=le;exact Nat.sub_le_of_le_add (q5 this (r9 (ln.symm.trans (v7 ..))))
   obtain⟨t,t',t1,t2,t3⟩:=Wh fz MB g1 (n:=A.fM (A.K A.c)-got.length) (by rw[h.tk];show k.no=_;rw[k4];exact(congrArg (fun n:Nat=>(n:Int)) (Nat.add_sub_of_le mi)).symm) YF (q5 (Nat.succ_le_succ (q5 (q5 (Nat.le_add_left _ _) (r9 ln)) (t9 (q5 TN (Nat.mul_le_mul_left 2 hn)) 1))) (aR rfl)) hg hr;rw[ea];refine Rd.of (s:=[58]) (own:=own [58]) t3 hr h.bd (oX [58]) h.cl (@fun p l k' r' a l1 l2 l0 l3=>?_) ?_ (z2:=zs)
   ·have hk:=h.key cd YN (t:=t) t1;have:=hk.kill (k:=k') (a:=a) (t:=t') (s:=[58]) (v:=0) (c:=A.c) t2 rfl (.inl rfl) (.inl rfl) l1 l2 l0 l3;have u:lE A.take.K A.take.c 0=lE A.K A.c 0:=by
     funext x
     by_cases e:x=A.c
     ·rw[e];exact fD.trans fD.symm
     ·exact((cQ e).trans (cQ e)).trans (cQ e).symm
    have w:cA (cA zs.keys zs.aH) zs.aH=cA zs.keys zs.aH:=by
     unfold cA;rw[List.filter_filter];exact List.filter_congr fun kv _=>Bool.and_self _
    rw[h.rQ];rw[u] at this;change mY N ({zs with keys:=_,tokens:=_}.mv (cA (cA zs.keys zs.aH) zs.aH) _ _ _ _ _ _ _) got _ at this
    rw[w,h.rQ] at this;exact this
   ·symm
    refine u0 ?_;show lE A.K A.c 0 A.c≠_;rw[fD,Ab.add_n];exact(Nat.succ_ne_zero _).symm
  ·have ea:A.step [58] zs.line=A.add [58] zs.line (lE A.K A.c 0) A.c:=by
    unfold Ab.step;rw[if_neg (aR rfl),if_neg (aR rfl),if_neg (aR rfl),if_pos rfl,if_neg cd]
   have nk:eE zs.keys zs.aH=none:=Vh fun m=>by
    refine bQ (List.mem_map.mp m) fun kv m1 m2=>?_;refine rB (h.snd kv m1) fun k1 k2 k3 k4=>?_;rw[m2,h.rQ] at k1 k2 k3;exact cd ⟨k1,k2,k3.symm.trans (Af kv m1)⟩
   refine bQ (Wg fz MB nk hg hr) fun t t1 t2=>?_;rw[ea];refine Rd.of t2 hr h.bd (oX [58]) h.cl (@fun p l k' r' a l1 l2 l0 l3=>?_) ?_ (z2:=zs)
   ·have:=h.kill (k:=k') (a:=a) (t:=t) (s:=[58]) (v:=0) (c:=A.c) t1 rfl (.inl rfl) (.inl rfl) l1 l2 l0 l3;rw[h.rQ];rw[h.rQ] at this;exact this
   ·symm
    refine u0 ?_;show lE A.K A.c 0 A.c≠_;rw[fD,Ab.add_n];exact(Nat.succ_ne_zero _).symm
end
end
section
open PySem
noncomputable def uK:List (List Nat):=[[58],[44],[91],[123],[97],[39,98,39],[63],[93],[42,101],[58],[98,32,99],[34,100,34],[38,102],[33,103],[45],[39,104,10,105,39],[106,10,107],[125]]
noncomputable def hY:List (List Nat):=[[32],[],[10],[32,32],[13,10,32],[32],[32,35,32,58,10],[],[13],[32],[133,32],[32,32],[8232],[32,35,44,8233]]
noncomputable def Ff:List (List Nat):=[[],[32],[32,32]]
noncomputable def bE(last sign gap:List Nat):List Nat:=
 if pV.contains last then
  (if[[58],[44],[93],[125],[63],[91],[123]].contains sign then
   (if aY.contains sign&&!Ff.contains gap&&!isIn gap 35 then[32] else gap)
  else if isIn gap 35 then gap else[32,35,32,58,10])
 else if gap==[]&&![[91],[123],[44],[63],[93],[125]].contains last then[32] else gap
noncomputable def dl(g:List Nat):Int:=if Ff.contains g then 0 else 1
noncomputable abbrev Sn:=List Nat×Int×Int
noncomputable def gD:Sn:=([91],0,-1)
noncomputable def zI:List (List Nat):=[[44],[63],[58],[45]]
noncomputable def uH:List (List Nat):=[[91],[123],[44],[45]]
noncomputable def lC(s:Sn)(level:Int):Bool:=decide (level<s.2.2)||(decide (s.2.2=level)&&!zI.contains s.1)
noncomputable def eR(signs:List Sn)(bN:Nat)(level:Int):Nat->Nat
 |0=>0
 |b+1=>if lC (signs.getD b gD) level then eR signs bN level b else if uH.contains (signs.getD b gD).1&&decide (b+1<bN) then b+1 else 0
noncomputable def fL(signs:List Sn)(bN:Nat)(level:Int):Nat:=eR signs bN level bN
noncomputable def oY(n:Int)(depth:Nat):List Nat:=
 let s:=uK.getD (n % 18).toNat []
 if aY.contains s&&depth==4||bU.contains s&&depth==1 then[44] else s
noncomputable def wZ(s:List Nat)(depth:Nat):Nat:=if aY.contains s then depth+1 else if bU.contains s then depth-1 else depth
noncomputable abbrev Pr:=List Nat×List Nat
noncomputable def jH(n:Int):List Nat:=hY.getD (n % 14).toNat []
noncomputable def gB:List Int->Nat->List Pr
 |[],_=>[]
 |n::r,d=>(oY n d,jH (n/18))::gB r (wZ (oY n d) d)
noncomputable def cP:List Int->Nat->Nat
 |[],d=>d
 |n::r,d=>cP r (wZ (oY n d) d)
structure LS where
 text:List Nat
 signs:List Sn
 line:Int
 level:Int
 last:List Nat
 gap:List Nat
noncomputable def LS.init:LS:=⟨[],[gD],0,0,[91],[]⟩
noncomputable def kO(s:List Nat)(level:Int):Int:=if bU.contains s then level-1 else level
noncomputable def LS.step(x:LS)(p:Pr):LS:=
 let g:=bE x.last p.1 x.gap
 let l:=x.line+dl g
 let v:=kO p.1 x.level
 ⟨x.text++g++p.1,x.signs++[(p.1,l,v)],l+own p.1,if aY.contains p.1 then v+1 else v,p.1,p.2⟩
noncomputable def fR(signs:List Sn)(bN:Nat)(L:Int)(level:Int):Option Nat:=
 let f:=fL signs bN level
 if f≠0/\(signs.getD f gD).2.1=L then some f else none
noncomputable def iY(signs:List Sn):Nat->List Nat->Nat->List Nat
 |_,keys,0=>keys
 |bN,keys,n+1=>iY signs (bN+1) (if(signs.getD bN gD).1=[58] then keys++(fR signs bN (signs.getD bN gD).2.1 (signs.getD bN gD).2.2).toList else keys) n
noncomputable def bD(signs:List Sn):List Nat:=iY signs 1 [] (signs.length-1)
noncomputable def oC(signs:List Sn)(line:Int):Nat->Nat->Nat
 |0,e=>(fR signs signs.length line 0).getD e
 |w+1,e=>oC signs line w ((fR signs signs.length line ((w+1:Nat):Int)).getD e)
noncomputable def cX(signs:List Sn):List V:=signs.tail.map fun s=>lJ s.1
structure Lw where
 text:List Nat
 fX:List V
 place:Option Nat
noncomputable def lB(s:Str):V:=kC (.str s) .none .none
noncomputable def jX(script:List Int):List Int:=(script.drop 1).take 11
noncomputable def lA(head:Int):List Nat:=if head/4 % 2=0 then[91] else[123]
noncomputable def jY(e:Int)(d:Nat)(row:List Pr):List Pr:=(if e=0\/e=3 then row++List.replicate d ([93],[32]) else row)++(if e=0 then[([58],[32])] else[])
noncomputable def xT(e:Int)(d:Nat)(x:LS):Lw:=
 if e=0 then
  if(bD x.signs).contains 1 then⟨x.text++[32,122],[cH,lB "<block mapping start>"]++fl (bD x.signs) 1 (cX x.signs)++[kC (.str "<scalar>") (.str "z") .none,lB "<block end>"]++[lB "<stream end>"],none⟩
  else⟨x.text++[32,122],cH::fl (bD x.signs) 1 ((cX x.signs).take (x.signs.length-2)),some (x.text.length-1)⟩
 else if e=1 then
  ⟨x.text++(bE x.last [64] x.gap++[64]),cH::fl (bD x.signs) 1 ((cX x.signs).take (oC x.signs x.line d x.signs.length-1)),some ((x.text++(bE x.last [64] x.gap++[64])).length-1)⟩
 else⟨x.text,cH::fl (bD x.signs) 1 (cX x.signs)++[lB "<stream end>"],none⟩
noncomputable def Ut(script:List Int):Lw:=
 xT (script.headD 0 % 4) (cP (jX script) 1) ((jY (script.headD 0 % 4) (cP (jX script) 1) ((lA (script.headD 0),jH (script.headD 0/8))::gB (jX script) 1)).foldl LS.step LS.init)
end
theorem Wi{a b:List Nat}:((⟨a.toArray⟩:Str)==⟨b.toArray⟩)=(a==b):=by
 by_cases h:a=b
 ·subst h;rw[beq_self_eq_true,beq_self_eq_true]
 ·rw[beq_eq_false_iff_ne.mpr h,beq_eq_false_iff_ne.mpr fun e=>h (by have:=congrArg (fun s:Str=>s.cps.toList) e;simpa using this)]
noncomputable abbrev st(l:List Nat):Str:=⟨l.toArray⟩
theorem FJ(s:List Nat):∀l:List (List Nat),(l.map st).any (· ==st s)=l.contains s:=by
 intro eN;induction eN with
 |nil=>
  exact rfl
 |cons b l ih=>
  rw[List.map_cons,List.any_cons,ih,List.contains_cons,Wi,BEq.comm]
theorem HL(l:List (List Nat)):l.map sv=(l.map st).map V.str:=by rw[List.map_map];rfl
theorem tJ.s{neg:Bool}{Q:nX}{lo:aM}{o:bX}{s:List Nat}(l:List (List Nat))(e:vs=l.map sv)(h:Q (neg !=l.contains s) lo o):tJ neg Q (sv s) (.tup vs) lo o:=by
 refine tJ.t (l.map st) (e.trans (HL l)) ?_;rw[FJ];exact h
noncomputable def Lu:List (Addr×FD×List Str×Nat×List V):=[de 1057 (top 36) [] 0 [],de 1064 (top 37) [] 0 [],de 1071 (top 38) [] 0 [],de 1078 (top 39) ["last","sign","gap"] 3 [],de 1085 (top 40) ["signs","spot","level"] 3 [],de 1092 (top 41) ["token"] 1 []]
noncomputable def NB:List (Str×Addr):=[pe "_law_SIGNS" 1057,pe "_law_TOLD" 1064,pe "_law_GAPS" 1071,pe "_law_gap" 1078,pe "_law_first" 1085,pe "_law_told" 1092]
structure JY(g:Gl)(C:Addr):Prop where
 pg:plainGet g.K C "id"=true
 hd:hasDictIn g.K C=true
 fi:∃t,findIn g.K (.ref C) "id"=some (some (Value.str (Ag C) t))/\specialIn g.K (Value.str (Ag C) t) "__get__"=some Option.none
structure iM(g:Gl):Prop where
 d:∀{f:Addr} {fd:FD} {ns:List Str} {k:Nat} {jF:List V} (i:Nat),lR Lu i=some (f,fd,ns,k,jF)->vR g f fd ns k [] jF
 k:∀{f:Addr} (i:Nat),(lR Lu i).map (·.1)=some f->Ki g f
 gl:∀{x:Str} {a:Addr} (i:Nat),lR NB i=some (x,a)->nsIn g.K mainGlobals x=some (some (.ref a))
 tok:∀p∈rV,JY g p.1
 val:∀C∈([441,460,479,499]:List Addr),iK g C "value"
 XC:iK g 499 "style"
 err:iK g 511 "problem_mark"
section
variable{D:Nat}{X:nA}{Q:mF}
theorem Ts(LF:iM g)(h:Q (.lst (uK.map sv)) σ):FW g 0 ρ X 1057 [] σ Q:=by
 refine cK (LF.d 0 rfl) [] rfl rfl (by kernel_rfl) fun C' B=>?_;refine aA rfl (bV (sF rfl ?_));refine aB (aB (aB (aB (aB (aB ?_)))));refine aB (aB (aB (aB (aB (aB ?_)))));refine aB (aB (aB (aB (aB (aB ?_)))));exact⟨by decide,h⟩
theorem Ln(LF:iM g)(h:Q (.lst (hY.map sv)) σ):FW g 0 ρ X 1071 [] σ Q:=by
 refine cK (LF.d 2 rfl) [] rfl rfl (by kernel_rfl) fun C' B=>?_;refine aA rfl (bV (sF rfl ?_));refine aB (aB (aB (aB (aB (aB (aB ?_))))));refine aB (aB (aB (aB (aB (aB (aB ?_))))));exact⟨by decide,h⟩
theorem eG{C:Cx}{X:eZ}{l:aM}{a b c:Expr}{k:Nat}{Q:tU}(hs:bA pos [a,b,c] C.env)
  (h:EW g D C ρ X a l σ (fun u l s=>EW g D C ρ X b l s (fun v l s=>EW g D C ρ X c l s (fun w=>Q (.tup [u,v,w]))))):EW g D C ρ X (.Tuple [a,b,c] k pos) l σ Q:=
 eW hs (h.mono fun u l s h=>h.mono fun v l s h=>h.mono fun w l s h=>⟨(by decide:(3:Nat)<=sizeLine),h⟩)
noncomputable def Wq:List Str:=vF.map fun p=>st p.1
theorem Zm(LF:iM g)(h:Q (.Lf g.prog g.w Wq (vF.map (·.2))) σ):FW g 0 ρ X 1064 [] σ Q:=by
 refine cK (LF.d 1 rfl) [] rfl rfl (by kernel_rfl) fun C' B=>?_;refine aA rfl (bV (DS [(_,_,_),(_,_,_),(_,_,_),(_,_,_),(_,_,_),(_,_,_),(_,_,_),(_,_,_),(_,_,_)] rfl rfl (fun h=>nomatch h) (Nat.le_of_ble_eq_true rfl) (by decide+kernel) ?_))
 refine eG rfl (aB (aB (bT ?_)));refine eG rfl (aB (aB (aB ?_)));refine eG rfl (aB (aB (bT ?_)));refine eG rfl (aB (aB (bT ?_)));refine eG rfl (aB (aB (aB ?_)));refine eG rfl (aB (aB (bT ?_)));refine eG rfl (aB (eW rfl (aB (aB ⟨by decide,bT ?_⟩))));refine eG rfl (aB (aB (aB ?_)));refine eG rfl (aB (aB (bT ?_)));exact h
theorem Oa(s:List Nat)(d:V):∀l:List (List Nat×V),Ez (l.map fun p=>st p.1) (l.map (·.2)) (st s) d=(Ls l s).getD d:=by
 intro eN;induction eN with
 |nil=>
  exact rfl
 |cons p l ih=>
  have ih:=ih;unfold Ls at ih⊢;rw[List.find?_cons];show(if st p.1=st s then p.2 else Ez (l.map fun p=>st p.1) (l.map (·.2)) (st s) d)=_
  by_cases e:p.1=s
  ·rw[if_pos (by rw[e]),beq_iff_eq.mpr e];rfl
  ·rw[if_neg fun h=>e (by have:=congrArg (fun s:Str=>s.cps.toList) h;simpa using this),beq_eq_false_iff_ne.mpr e];exact ih
end
section
variable{D:Nat}{X:nA}{Q:mF}
theorem Le{c:Nat}{l:List Nat}{k:Bool->Prop}(hx:x=⟨#[c]⟩)(hk:k (isIn l c)):sG .In (.str x) (sv l) k:=by
 subst hx;exact fJ l rfl hk
theorem Sx{c:Nat}{l:List Nat}{k:Bool->Prop}(hx:x=⟨#[c]⟩)(hk:k (!isIn l c)):sG .NotIn (.str x) (sv l) k:=by
 subst hx;show k (!Txt.contains (st l) ⟨#[c]⟩);rw[oS];exact hk
theorem Ld{a b:List Nat}{k:Bool->Prop}(hx:x=st b)(hk:k (a==b)):sG .Eq (sv a) (.str x) k:=by
 subst hx;show k (st a==st b);rw[Wi];exact hk
theorem Tt(LF:iM g){last sign gap:List Nat}(h:Q (sv (bE last sign gap)) σ):FW g 0 ρ X 1078 [sv last,sv sign,sv gap] σ Q:=by
 refine cK (LF.d 3 rfl) [] rfl rfl (by kernel_rfl) fun C' B=>?_;unfold bE at h;refine aA rfl (aW rfl (gR false rfl rfl (aE B 0 rfl rfl rfl (eW rfl (aB (aB (aB ⟨by decide,tJ.s pV rfl ?_⟩)))))));rw[Bool.false_bne];cases hp:pV.contains last with
 |true=>
  rw[if_pos hp] at h;refine .p1 (aA rfl (aW rfl (gR true rfl rfl (aE B 1 rfl rfl rfl (eW rfl (aB (aB (aB (aB (aB (aB (aB ⟨by decide,tJ.s [[58],[44],[93],[125],[63],[91],[123]] rfl ?_⟩))))))))))));rw[Bool.true_bne];cases hs:([[58],[44],[93],[125],[63],[91],[123]]:List (List Nat)).contains sign with
  |false=>
   rw[if_neg (Bool.eq_false_iff.mp hs)] at h;refine .p1 (aA rfl (bV (mB (aL rfl (aB (aE B 2 rfl rfl rfl (Le (c:=35) rfl ?_)))))));cases hg:isIn gap 35 with
   |true=>rw[if_pos hg] at h;exact .p1 (aE B 2 rfl rfl rfl h)
   |false=>rw[if_neg (Bool.eq_false_iff.mp hg)] at h;exact .p2 (aB h)
  |true=>
   rw[if_pos hs] at h;refine .p2 (aC (aA rfl (aW rfl (cV (gR false rfl rfl (aE B 1 rfl rfl rfl (eW rfl (aB (aB ⟨by decide,tJ.s aY rfl ?_⟩)))))))));rw[Bool.false_bne];cases ho:aY.contains sign with
   |false=>
    rw[ho] at h;exact .p1 (.p2 (aC (aA rfl (bV (aE B 2 rfl rfl rfl h)))))
   |true=>
    rw[ho,Bool.true_and] at h;refine .p2 (cV (gR true rfl rfl (aE B 2 rfl rfl rfl (eW rfl (aB (aB (aB ⟨by decide,tJ.s Ff rfl ?_⟩)))))));rw[Bool.true_bne];cases hf:Ff.contains gap with
    |true=>
     rw[hf] at h;exact .p1 (.p2 (aC (aA rfl (bV (aE B 2 rfl rfl rfl h)))))
    |false=>
     rw[hf,Bool.not_false,Bool.true_and] at h;refine .p2 (eP (aL rfl (aB (aE B 2 rfl rfl rfl (Sx (c:=35) rfl ?_)))));cases hg:isIn gap 35 with
     |true=>rw[hg] at h;exact .p2 (aC (aA rfl (bV (aE B 2 rfl rfl rfl h))))
     |false=>rw[hg] at h;exact .p1 (aA rfl (bV (aB h)))
 |false=>
  rw[if_neg (Bool.eq_false_iff.mp hp)] at h;refine .p2 (aC (aA rfl (bV (mB (cV (aL rfl (aE B 2 rfl rfl rfl (aB (Ld (b:=[]) rfl ?_)))))))));cases he:gap==[] with
  |false=>
   rw[he] at h;exact .p1 (.p2 (aE B 2 rfl rfl rfl h))
  |true=>
   rw[he,Bool.true_and] at h;refine .p2 (eP (gR true rfl rfl (aE B 0 rfl rfl rfl (eW rfl (aB (aB (aB (aB (aB (aB ⟨by decide,tJ.s [[91],[123],[44],[63],[93],[125]] rfl ?_⟩))))))))));rw[Bool.true_bne];cases hl:([[91],[123],[44],[63],[93],[125]]:List (List Nat)).contains last with
   |true=>rw[hl] at h;exact .p2 (aE B 2 rfl rfl rfl h)
   |false=>rw[hl] at h;exact .p1 (aB h)
end
noncomputable def Jw(s:Sn):V:=.tup [sv s.1,.int s.2.1,.int s.2.2]
section
variable{D:Nat}{X:nA}{Q:mF}
def RG(k:Nat)(Q:tU)(a b:V)(l:aM)(s:bX):Prop:=∀Ω:Prop,(∀(signs:List Sn) (i:Nat) (ha:a=.lst (signs.map Jw)) (hb:b=.int i) (hi:i<signs.length) (hz:i<=1000) (v:V) (hv:([sv (signs.getD i gD).1,.int (signs.getD i gD).2.1,.int (signs.getD i gD).2.2]:List V)[k]?=some v) (h:Q v l s),Ω)->Ω
theorem RG.mk{k:Nat}{Q:tU}{a b:V}{l:aM}{s:bX}(signs:List Sn)(i:Nat)(ha:a=.lst (signs.map Jw))(hb:b=.int i)(hi:i<signs.length)(hz:i<=1000)(v:V)(hv:([sv (signs.getD i gD).1,.int (signs.getD i gD).2.1,.int (signs.getD i gD).2.2]:List V)[k]?=some v)(h:Q v l s):RG k Q a b l s:=fun U φ=>φ signs i ha hb hi hz v hv h
theorem mD{C:Cx}{X:eZ}{l:aM}{a b:Expr}{k kk:Nat}{p1 p2:Pos}{Q:tU}(hs:∀a i u,subscripted b false (.ref a) (.int i u)=operate [.ref a,.int i u] (getItem (.ref a) (.int i u)))
  (Ol:∀a i u,subscripted (.Constant (.int k) kk p) false (.ref a) (.int i u)=operate [.ref a,.int i u] (getItem (.ref a) (.int i u)))
  (h:EW g D C ρ X a l σ (Kp g D C ρ X b (RG k Q))):EW g D C ρ X (.Subscript (.Subscript a b p1) (.Constant (.int k) kk p) p2) l σ Q:=by
 refine Bl Ol (Bl hs (h.mono fun u l s h=>h.mono fun w l s h=>?_));refine h _ ?_;clear h
 rintro signs i rfl rfl hi hz v hv hq
 refine(.mk _ i (Jw (signs.getD i gD)) (.inl rfl) rfl ?_ (v9 hz (aR rfl)) (aQ (.mk _ k v (.inr rfl) rfl hv ?_ hq)))
 ·rw[List.getElem?_map,x8,List.getElem?_eq_getElem hi];rfl
 ·have:k<3:=(List.getElem?_eq_some_iff.mp hv).1;exact Nat.lt_trans this (aR rfl)
noncomputable def GH(signs:List Sn)(bN:Nat)(level:Int)(b:LV):aM:=[("signs",.val (.lst (signs.map Jw))),("spot",.val (.int bN)),("level",.val (.int level)),("back",b)]
def IS(signs:List Sn)(bN:Nat)(level:Int)(σ:bX)(k:Nat)(l:aM)(s:bX):Prop:=∀Ω:Prop,(∀(hb:k<bN) (el:l=GH signs bN level (.val (.int k))) (es:s=σ) (hf:eR signs bN level (k+1)=fL signs bN level),Ω)->Ω
theorem IS.mk{bN:Nat}{level:Int}{k:Nat}{l:aM}{s:bX}(hb:k<bN)(el:l=GH signs bN level (.val (.int k)))(es:s=σ)(hf:eR signs bN level (k+1)=fL signs bN level):IS signs bN level σ k l s:=fun U φ=>φ hb el es hf
theorem Fi(LF:iM g){bN:Nat}{level:Int}(h0:signs.getD 0 gD=gD)(hl:0<=level)(h1:1<=bN)(hs:bN<=signs.length)(hz:signs.length<=1000)(h:Q (.int (fL signs bN level)) σ):FW g 0 ρ X 1085 [.lst (signs.map Jw),.int bN,.int level] σ Q:=by
 refine cK (LF.d 4 rfl) ["back"] rfl rfl (by kernel_rfl) fun C' B=>?_;have Qk:((bN:Int)-1)=((bN-1:Nat):Int):=(Int.ofNat_sub h1).symm;refine aA rfl (aD rfl (B.loc (x:="back") rfl rfl).1 (tR (aE B 1 rfl rfl rfl (aQ ⟨_,_,rfl,rfl,_,.cM 3 rfl rfl,?_⟩))));have j0:IS signs bN level σ (bN-1) (GH signs bN level (.val (.int ((bN:Int)-1)))) σ:=(.mk (Nat.sub_lt h1 (aR rfl)) (by rw[Qk]) rfl (by rw[Nat.sub_add_cancel h1];rfl));refine aA rfl (iV rfl (IS signs bN level σ) (bN-1) j0 ?_)
 rintro k l s q_
 refine q_ _ ?_;clear q_
 rintro hb rfl rfl hf
 have hk:=Nat.lt_of_lt_of_le hb hs;have kz:=Nat.le_of_lt (Nat.lt_of_lt_of_le hk hz);have turn:lC (signs.getD k gD) level=true->SW g 0 C' ρ (fun x U s=>X x s) (k0 (vN (top 40).body.tail)) (GH signs bN level (.val (.int k))) s (Qe (IS signs bN level s) k (lQ g 0 C' ρ (fun x U s=>X x s) (top 40).body.tail.tail (iU Q))):=fun JD=>by
  induction k with
  |zero=>
   rw[h0] at JD;have:lC gD level=false:=by
    show(decide (level< -1)||(decide ((-1:Int)=level)&&true))=false;rw[u0 (fun e=>absurd (Int.lt_of_lt_of_le e (by decide:(-1:Int)<=0)) (Int.not_lt.mpr hl)),u0 (fun e=>absurd (e▸hl) (aR rfl))];rfl
   rw[this] at JD;cases JD
  |succ k _=>
   refine aA rfl (nZ (B.loc (x:="back") rfl rfl).1 (aN 3 rfl) (aQ ⟨_,rfl,_,.cM 3 rfl rfl,aC ⟨k,x9 k,.mk (Nat.lt_of_succ_lt hb) ?_ rfl ?_⟩⟩))
   ·show GH signs bN level (.val (.int (((k+1:Nat):Int)-1)))=_;rw[show(((k+1:Nat):Int)-1)=k from Int.add_sub_cancel (k:Int) 1]
   ·rw[←hf];show _=if lC (signs.getD (k+1) gD) level then _ else _;rw[if_pos JD]
 have stop:lC (signs.getD k gD) level=false->SW g 0 C' ρ (fun x U s=>X x s) (top 40).body.tail.tail (GH signs bN level (.val (.int k))) s (iU Q):=fun JD=>by
  rw[←hf] at h;have e:eR signs bN level (k+1)=if(uH.contains (signs.getD k gD).1&&decide (k+1<bN))=true then k+1 else 0:=by
   show(if lC (signs.getD k gD) level=true then _ else _)=_;rw[if_neg (Bool.eq_false_iff.mp JD)]
  rw[e] at h;refine aA rfl (bV (mB (cV (gR false rfl rfl (mD (fun U U U=>rfl) (fun U U U=>rfl) (aE B 0 rfl rfl rfl (aE B 3 rfl rfl rfl (.mk signs k rfl rfl hk kz _ rfl (eW rfl (aB (aB (aB (aB ⟨by decide,tJ.s uH rfl ?_⟩)))))))))))));rw[Bool.false_bne];cases ho:uH.contains (signs.getD k gD).1 with
  |false=>rw[ho] at h;exact .p1 (.p2 (aQ h))
  |true=>
   rw[ho,Bool.true_and] at h;refine .p2 (eP (aL rfl (lG (aE B 3 rfl rfl rfl (aQ ⟨_,_,rfl,rfl,aE B 1 rfl rfl rfl ?_⟩)))));show ED g 0 C' ρ _ _ _ _ (decide ((k:Int)+1<bN)) _ _;have e2:decide ((k:Int)+1<bN)=decide (k+1<bN):=decide_eq_decide.mpr Int.ofNat_lt;rw[e2];cases hd:decide (k+1<bN) with
   |false=>rw[hd] at h;exact .p2 (aQ h)
   |true=>rw[hd] at h;exact .p1 (lG (aE B 3 rfl rfl rfl (aQ ⟨_,_,rfl,rfl,h⟩)))
 have es:∀b,lC (signs.getD k gD) level=b->CF g 0 C' ρ (fun x U s=>X x s) (k0 (vN (top 40).body.tail)) (IS signs bN level s) k (lQ g 0 C' ρ (fun x U s=>X x s) (top 40).body.tail.tail (iU Q)) b (GH signs bN level (.val (.int k))) s:=fun b e=>⟨fun hb=>turn (e.trans hb),fun hb=>stop (e.trans hb)⟩;unfold lC at es;refine gS (aL rfl (mD (fun U U U=>rfl) (fun U U U=>rfl) (aE B 0 rfl rfl rfl (aE B 3 rfl rfl rfl (.mk signs k rfl rfl hk kz _ rfl (aE B 2 rfl rfl rfl ?_))))));show Bq g 0 C' ρ _ _ _ (decide (level<(signs.getD k gD).2.2)) _ _;cases ha:decide (level<(signs.getD k gD).2.2) with
 |true=>exact .p1 (es _ (by rw[ha];rfl))
 |false=>
  rw[ha] at es;refine .p2 (iS (cV (aL rfl (mD (fun U U U=>rfl) (fun U U U=>rfl) (aE B 0 rfl rfl rfl (aE B 3 rfl rfl rfl (.mk signs k rfl rfl hk kz _ rfl (aE B 2 rfl rfl rfl ?_))))))));show yQ g 0 C' ρ _ _ _ (decide ((signs.getD k gD).2.2=level)) _ _;cases hc:decide ((signs.getD k gD).2.2=level) with
  |false=>exact .p1 (es _ (by rw[hc];rfl))
  |true=>
   rw[hc] at es;refine .p2 (eP (gR true rfl rfl (mD (fun U U U=>rfl) (fun U U U=>rfl) (aE B 0 rfl rfl rfl (aE B 3 rfl rfl rfl (.mk signs k rfl rfl hk kz _ rfl (eW rfl (aB (aB (aB (aB ⟨by decide,tJ.s zI rfl ?_⟩)))))))))));rw[Bool.true_bne];exact es _ rfl
end
theorem xA:∀(n:Nat) {v:V},v.mJ n=true->v.plain=true
 |0,v,h=>by cases v<;>first|rfl|exact nomatch h
 |n+1,v,h=>by cases v<;>first|rfl|exact nomatch h
def Sg(t r:V):Prop:=∀Ω:Prop,(∀(C:Addr) (ns:List Str) (vs:List V) (et:t=.inst C ns vs) (hs:(C,ns)∈rV) (hl:vs.length=ns.length) (er:dG t=r) (p0:C=499\/C=441\/C=460\/C=479->(vs.getD 0 .none).plain=true) (p4:C=499->(vs.getD 4 .none).plain=true),Ω)->Ω
theorem Sg.mk{t r:V}(C:Addr)(ns:List Str)(vs:List V)(et:t=.inst C ns vs)(hs:(C,ns)∈rV)(hl:vs.length=ns.length)(er:dG t=r)(p0:C=499\/C=441\/C=460\/C=479->(vs.getD 0 .none).plain=true)(p4:C=499->(vs.getD 4 .none).plain=true):Sg t r:=fun U φ=>φ C ns vs et hs hl er p0 p4
theorem IM{t r:V}(h:dG t=r){us:List V}{n:Nat}(e:r=.tup us)(hd:us.all (V.mJ n)=true):Sg t r:=by
 cases t with
 |inst C ns vs=>
  subst e;have h:(if nU C ns vs.length=false then V.none else if C=499 then kC (.str (Ag C)) (vs.getD 0 .none) (vs.getD 4 .none) else if C=441\/C=460\/C=479 then kC (.str (Ag C)) (vs.getD 0 .none) .none else kC (.str (Ag C)) .none .none)=V.tup us:=h;cases GX:nU C ns vs.length with
  |false=>rw[if_pos GX] at h;cases h
  |true=>
  have ML:¬nU C ns vs.length=false:=by rw[GX];decide
  rw[if_neg ML] at h;unfold nU at GX;rw[q9,List.any_eq_true] at GX;obtain⟨⟨p,hp,TC⟩,hlen⟩:=GX;rw[q9,decide_eq_true_eq,decide_eq_true_eq] at TC;have MG:(C,ns)∈rV:=by rw[←TC.1,←TC.2];exact hp
  refine(.mk C ns vs rfl MG (r8 hlen) ?_ (fun hC=>?_) (fun hC=>?_))
  ·show(if nU C ns vs.length=false then V.none else _)=_;rw[if_neg ML];exact h
  ·have hm:vs.getD 0 .none∈us:=by
    by_cases e:C=499
    ·rw[if_pos e] at h;cases h;exact .tail _ (.head _)
    ·rw[if_neg e,if_pos (hC.resolve_left e)] at h;cases h;exact .tail _ (.head _)
   exact xA n (u5.mp hd _ hm)
  ·rw[if_pos hC] at h;cases h;exact xA n (u5.mp hd _ (.tail _ (.tail _ (.head _))))
 |_=>subst e;cases h
section
variable{D:Nat}{X:nA}{Q:mF}
noncomputable def NL:List Str:=["value","plain","start_mark","end_mark","style"]
theorem Wa:∀p∈rV,(Ag p.1==("<scalar>":Str))=decide (p.1=499)/\([("<alias>":Str),"<anchor>","<tag>"].any (· ==Ag p.1))=decide (p.1=441\/p.1=460\/p.1=479)/\("id":Str)∉p.2/\p.2.Nodup/\
  (p.1=499->p.2=NL)/\(p.1=441\/p.1=460\/p.1=479->p.2=JK):=by decide+kernel
theorem v5(h:vs.length=5):(("value":Str),vs.getD 0 .none)∈NL.zip vs/\(("style":Str),vs.getD 4 .none)∈NL.zip vs:=
 TL (P:=fun vs=>(("value":Str),vs.getD 0 .none)∈NL.zip vs/\(("style":Str),vs.getD 4 .none)∈NL.zip vs) h fun _ _ _ _ _=>⟨.head _,.tail _ (.tail _ (.tail _ (.tail _ (.head _))))⟩
theorem v3(h:vs.length=3):(("value":Str),vs.getD 0 .none)∈JK.zip vs:=
 PM (P:=fun vs=>(("value":Str),vs.getD 0 .none)∈JK.zip vs) h fun _ _ _=>.head _
theorem Zq(LF:iM g){t r:V}(T:Sg t r)(h:Q r σ):FW g 0 ρ X 1092 [t] σ Q:=by
 refine T _ ?_;clear T
 rintro C ns vs rfl hs hl rfl p0 p4
 refine Qy (Wa _ hs) fun k1 k2 k3 k4 k5 k6=>?_;obtain⟨pg,hd,tk,f1,f2⟩:=LF.tok _ hs;have GX:¬nU C ns vs.length=false:=by
  rw[show nU C ns vs.length=true from ?_];decide;unfold nU;rw[q9,List.any_eq_true];exact⟨(fG _ hs (by rw[u7 rfl,u7 rfl];rfl)),u7 hl⟩
 have hr:Q (if nU C ns vs.length=false then V.none else if C=499 then kC (.str (Ag C)) (vs.getD 0 .none) (vs.getD 4 .none) else if C=441\/C=460\/C=479 then kC (.str (Ag C)) (vs.getD 0 .none) .none else kC (.str (Ag C)) .none .none) σ:=h;clear h;rw[if_neg GX] at hr;refine cK (LF.d 5 rfl) [] rfl rfl (by kernel_rfl) fun C' B=>?_;have MR:∀{p p2:Pos} {Q:tU},Q (.str (Ag C)) (iQ ["token"] [.inst C ns vs] []) σ->EW g 0 C' ρ (fun x U s=>X x s) (.Attribute (.Name "token" p) "id" p2) (iQ ["token"] [.inst C ns vs] []) σ Q:=fun hq=>
  Hs rfl (aE B 0 rfl rfl rfl (QS C ns vs (Ag C) tk rfl pg hd f1 f2 rfl k3 hq))
 refine aA rfl (aW rfl (aL rfl (MR (aB ?_))));show yT g 0 C' ρ _ _ _ _ (Ag C==("<scalar>":Str)) _ _;rw[show(Ag C==("<scalar>":Str))=decide (C=499) from k1]
 by_cases e:C=499
 ·rw[u7 e];rw[if_pos e] at hr;have SU:=k5 e;subst SU;subst e;exact .p1 (aA rfl (bV (eG rfl (MR (jD rfl (aE B 0 rfl rfl rfl (Ya 499 _ _ _ rfl (LF.val _ (.tail _ (.tail _ (.tail _ (.head _))))) k4 (v5 hl).1 (p0 (.inl rfl)) (jD rfl (aE B 0 rfl rfl rfl (Ya 499 _ _ _ rfl LF.XC k4 (v5 hl).2 (p4 rfl) hr))))))))))
 ·rw[u0 e];rw[if_neg e] at hr;refine .p2 (aC (aA rfl (aW rfl (gR false rfl rfl (MR (eW rfl (aB (aB (aB ⟨by decide,tJ.t [("<alias>":Str),"<anchor>","<tag>"] rfl ?_⟩)))))))));rw[Bool.false_bne,show([("<alias>":Str),"<anchor>","<tag>"].any (· ==Ag C))=decide (C=441\/C=460\/C=479) from k2]
  by_cases e2:C=441\/C=460\/C=479
  ·rw[u7 e2];rw[if_pos e2] at hr;have SU:=k6 e2;subst SU;have hv:iK g C "value":=by
    rcases e2 with rfl|rfl|rfl
    ·exact LF.val _ (.head _)
    ·exact LF.val _ (.tail _ (.head _))
    ·exact LF.val _ (.tail _ (.tail _ (.head _)))
   exact .p1 (aA rfl (bV (eG rfl (MR (jD rfl (aE B 0 rfl rfl rfl (Ya C _ _ _ rfl hv k4 (v3 hl) (p0 (.inr e2)) (bT hr))))))))
  ·rw[u0 e2];rw[if_neg e2] at hr;exact .p2 (aC (aA rfl (bV (eG rfl (MR (bT (bT hr)))))))
end
section
open PySem
noncomputable def A0:Ab:=⟨[],[],lE (fun U=>0) 0 1,[],0⟩
noncomputable def aV(signs:List Sn):Ab:=signs.tail.foldl (fun A s=>A.step s.1 s.2.1) A0
theorem zT(h:signs≠[])(x:Sn):aV (signs++[x])=(aV signs).step x.1 x.2.1:=by
 unfold aV;rw[List.tail_append_of_ne_nil h,List.foldl_append]
 rfl
theorem sN{t:List Sn}{b:Nat}(h:b<signs.length):(signs++t).getD b gD=signs.getD b gD:=by
 rw[x8,x8,List.getElem?_append_left h]
theorem qE{x:Sn}:(signs++[x]).getD signs.length gD=x:=by
 rw[x8,List.getElem?_append_right (w7 _),Nat.sub_self]
 rfl
theorem jG{bN:Nat}{l:Int}{b:Nat}:eR signs bN l (b+1)=if lC (signs.getD b gD) l then eR signs bN l b else if uH.contains (signs.getD b gD).1&&decide (b+1<bN) then b+1 else 0:=rfl
theorem nD{signs t:List Sn}{bN:Nat}{l:Int}:∀{b:Nat},b<=signs.length->eR (signs++t) bN l b=eR signs bN l b
 |0,_=>rfl
 |b+1,h=>by rw[jG,jG,sN h,nD (Nat.le_of_succ_le h)]
theorem sJ{signs:List Sn}{s1 s2:Nat}{l:Int}:∀{b:Nat},b<s1->b<s2->eR signs s1 l b=eR signs s2 l b
 |0,_,_=>rfl
 |b+1,h1,h2=>by rw[jG,jG,u7 h1,u7 h2,sJ (Nat.lt_of_succ_lt h1) (Nat.lt_of_succ_lt h2)]
theorem rN{signs:List Sn}{bN:Nat}{l:Int}:∀{b:Nat},eR signs bN l b<=b
 |0=>w7 _
 |b+1=>by
  rw[jG];split
  ·exact w9 rN
  ·split
   ·exact w7 _
   ·exact Nat.zero_le _
noncomputable def zC(signs:List Sn)(l:Int):Nat:=eR signs (signs.length+1) l signs.length
theorem Gb{x:Sn}{l:Int}:zC (signs++[x]) l=if lC x l then zC signs l else if uH.contains x.1 then signs.length+1 else 0:=by
 unfold zC;rw[q6];show eR (signs++[x]) (signs.length+1+1) l (signs.length+1)=_;rw[jG,qE,u7 (x9 _),Bool.and_true,nD (w7 _),sJ (Nat.lt_succ_of_lt (x9 _)) (x9 _)]
theorem Ce{l:Int}(h:signs≠[]):fL signs signs.length l=if zC signs l<signs.length then zC signs l else 0:=by
 obtain⟨s,x,e⟩:∃s x,signs=s++[x]:=⟨signs.dropLast,signs.getLast h,(List.dropLast_concat_getLast h).symm⟩;subst e;unfold fL;rw[Gb,q6];show eR (s++[x]) (s.length+1) l (s.length+1)=_;rw[jG,qE,u0 (Nat.lt_irrefl _),Bool.and_false,if_neg (show¬(false=true) by decide),nD (w7 _)];show _=if(if lC x l then zC s l else if uH.contains x.1 then s.length+1 else 0)<s.length+1 then _ else 0
 by_cases e:lC x l=true
 ·rw[if_pos e,if_pos e];exact(if_pos (Nat.lt_succ_of_le rN)).symm
 ·rw[if_neg e,if_neg e];cases uH.contains x.1 with
  |true=>rw[if_pos rfl,if_neg (Nat.lt_irrefl _)]
  |false=>exact(if_pos (Nat.succ_pos _)).symm
theorem Aj{t:List Sn}{bN:Nat}{l:Int}(h:bN<=signs.length)(h0:0<bN):fR (signs++t) bN L l=fR signs bN L l:=by
 unfold fR fL;rw[nD h];show(if eR signs bN l bN≠0/\_ then _ else _)=if eR signs bN l bN≠0/\_ then _ else _;have:eR signs bN l bN<signs.length:=by
  obtain⟨b,e⟩:=Nat.exists_eq_succ_of_ne_zero (Nat.ne_of_gt h0);subst e;refine Nat.lt_of_lt_of_le ?_ h;rw[jG,u0 (Nat.lt_irrefl _),Bool.and_false,if_neg (show¬(false=true) by decide)]
  split
  ·exact Nat.lt_succ_of_le rN
  ·exact Nat.succ_pos _
 rw[sN this]
theorem xQ{signs t:List Sn}:∀{n bN:Nat} {ks:List Nat},0<bN->bN+n<=signs.length->iY (signs++t) bN ks n=iY signs bN ks n
 |0,_,_,_,_=>rfl
 |n+1,bN,ks,h0,h=>by
  show iY (signs++t) (bN+1) _ n=iY signs (bN+1) _ n;rw[xQ (Nat.succ_pos _) (q5 (r9 (Nat.succ_add ..)) h),sN (v9 (x7 _ _) h),Aj (q5 (x7 ..) h) h0]
theorem uZ{signs:List Sn}:∀{n bN:Nat} {ks:List Nat},iY signs bN ks (n+1)=if(signs.getD (bN+n) gD).1=[58] then iY signs bN ks n++(fR signs (bN+n) (signs.getD (bN+n) gD).2.1 (signs.getD (bN+n) gD).2.2).toList else iY signs bN ks n
 |0,_,_=>rfl
 |n+1,bN,ks=>by
  show iY signs (bN+1) _ (n+1)=if(signs.getD (bN+(n+1)) gD).1=[58] then iY signs (bN+1) _ n++_ else iY signs (bN+1) _ n;rw[uZ,Nat.add_right_comm bN 1 n,Nat.add_assoc bN n 1]
theorem xR(h:signs≠[]){x:Sn}:bD (signs++[x])=if x.1=[58] then bD signs++(fR signs signs.length x.2.1 x.2.2).toList else bD signs:=by
 have hl:0<signs.length:=List.length_pos_iff.mpr h;have e:1+(signs.length-1)=signs.length:=Nat.add_sub_cancel' hl;unfold bD;rw[q6];show iY (signs++[x]) 1 [] (signs.length+1-1)=_;obtain⟨n,en⟩:∃n,signs.length=n+1:=⟨signs.length-1,(Nat.sub_add_cancel hl).symm⟩;rw[en,Nat.add_sub_cancel,Nat.add_sub_cancel,uZ,v7 1 n,←en,qE,Aj (w7 _) hl,xQ Nat.one_pos (by rw[en,v7];exact w7 _)]
structure SI(x:LS):Prop where
 ne:x.signs≠[]
 c:(aV x.signs).c=x.level
 lk:∀l,0<=l->l<=x.level->zC x.signs l=(aV x.signs).K l
 keys:bD x.signs=(aV x.signs).keys
 rows:cX x.signs=(aV x.signs).R
 len:(aV x.signs).R.length+1=x.signs.length
 ln:∀j,j≠0->j<x.signs.length->(aV x.signs).uF j=(x.signs.getD j gD).2.1
theorem SI.init:SI LS.init:=⟨(fun e=>nomatch e),rfl,fun l h0 h1=>by cases Int.le_antisymm h1 h0;rfl,rfl,rfl,rfl,fun j h0 hj=>absurd (Nat.lt_one_iff.mp hj) h0⟩
theorem SI.key{x:LS}(h:SI x)(ok:wB (aV x.signs)){l:Int}(h0:0<=l)(hl:l<=x.level):fR x.signs x.signs.length L l=if(aV x.signs).K l≠0/\(aV x.signs).K l<=(aV x.signs).R.length/\(aV x.signs).uF ((aV x.signs).K l)=L then some ((aV x.signs).K l) else none:=by
 unfold fR;rw[Ce h.ne,h.lk l h0 hl,←h.len];show(if(if(aV x.signs).K l<(aV x.signs).R.length+1 then(aV x.signs).K l else 0)≠0/\(x.signs.getD (if(aV x.signs).K l<(aV x.signs).R.length+1 then(aV x.signs).K l else 0) gD).2.1=L then some (if(aV x.signs).K l<(aV x.signs).R.length+1 then(aV x.signs).K l else 0) else none)=_
 by_cases e:(aV x.signs).K l<(aV x.signs).R.length+1
 ·rw[if_pos e]
  by_cases z0:(aV x.signs).K l=0
  ·rw[z0];rfl
  ·have:=h.ln _ z0 (by rw[←h.len];exact e);rw[←this]
   by_cases q:(aV x.signs).uF ((aV x.signs).K l)=L
   ·rw[if_pos ⟨z0,q⟩,if_pos ⟨z0,Nat.lt_succ_iff.mp e,q⟩]
   ·rw[if_neg (fun k=>q k.2),if_neg (fun k=>q k.2.2)]
 ·rw[if_neg e];exact(if_neg fun k=>k.1 rfl).trans (if_neg fun k=>e (Nat.lt_succ_of_le k.2.1)).symm
theorem Ab.We{A:Ab}{s:List Nat}:(A.step s L).R=A.R++[lJ s]/\(A.step s L).ln=A.ln++[L]:=by
 unfold Ab.step;split
 ·exact⟨rfl,rfl⟩
 ·split
  ·exact⟨rfl,rfl⟩
  ·split
   ·exact⟨rfl,rfl⟩
   ·split
    ·split<;>exact⟨rfl,rfl⟩
    ·exact⟨rfl,rfl⟩
theorem mT{s:List Nat}{v l:Int}(h:zI.contains s=false/\l<=v\/l<v):lC (s,L,v) l=true:=by
 show(decide (l<v)||(decide (v=l)&&!zI.contains s))=true
 rcases h with h|h
 ·rw[h.1]
  rcases Int.lt_or_eq_of_le h.2 with o|o
  ·rw[u7 o];rfl
  ·rw[u7 o.symm];simp
 ·rw[u7 h];rfl
theorem pY{s:List Nat}{v l:Int}(h:zI.contains s=true/\v<=l\/v<l):lC (s,L,v) l=false:=by
 show(decide (l<v)||(decide (v=l)&&!zI.contains s))=false
 rcases h with h|h
 ·rw[h.1,u0 (Int.not_lt.mpr h.2)];simp
 ·rw[u0 (Int.not_lt.mpr (Int.le_of_lt h)),u0 (Int.ne_of_lt h)];rfl
theorem SI.step{x:LS}(h:SI x)(ok:wB (aV x.signs)){p:Pr}(hs:p.1∈gO)(hc:0<=x.level)(hn:bD x.signs=(aV x.signs).keys):SI (x.step p):=by
 obtain⟨s,b⟩:=p;have ea:aV (x.step (s,b)).signs=(aV x.signs).step s (x.line+dl (bE x.last s x.gap)):=zT h.ne _;have hR:=Ab.We (A:=aV x.signs) (s:=s) (L:=x.line+dl (bE x.last s x.gap));have lk:∀l,zC (x.step (s,b)).signs l=if lC (s,x.line+dl (bE x.last s x.gap),kO s x.level) l then zC x.signs l else if uH.contains s then x.signs.length+1 else 0:=fun l=>Gb;have kk:bD (x.step (s,b)).signs=if s=[58] then bD x.signs++(fR x.signs x.signs.length (x.line+dl (bE x.last s x.gap)) (kO s x.level)).toList else bD x.signs:=xR h.ne;have hlen:(x.step (s,b)).signs.length=x.signs.length+1:=q6;have common:(aV (x.step (s,b)).signs).c=(x.step (s,b)).level->(∀l,0<=l->l<=(x.step (s,b)).level->zC (x.step (s,b)).signs l=(aV (x.step (s,b)).signs).K l)->bD (x.step (s,b)).signs=(aV (x.step (s,b)).signs).keys->SI (x.step (s,b)):=fun k1 k2 k3=>by
  refine⟨List.append_ne_nil_of_right_ne_nil _ (fun e=>nomatch e),k1,k2,k3,?_,?_,fun j h0 hj=>?_⟩
  ·show(x.signs++[(s,_,_)]).tail.map _=_;rw[ea,hR.1,List.tail_append_of_ne_nil h.ne,u6,←h.rows]
   rfl
  ·rw[ea,hR.1,hlen,←h.len];exact congrArg (· +1) q6
  ·show((aV (x.step (s,b)).signs).ln.getD (j-1) 0)=_;rw[hlen] at hj;rw[ea,hR.2]
   rcases Nat.eq_or_lt_of_le (Nat.lt_succ_iff.mp hj) with e|e
   ·subst e;show _=((x.signs++[_]).getD _ gD).2.1;rw[qE,x8,←h.len,Nat.add_sub_cancel,List.getElem?_append_right (r9 ok.ll),ok.ll,Nat.sub_self]
    rfl
   ·show _=((x.signs++[_]).getD _ gD).2.1;rw[sN e,←h.ln j h0 e,x8,List.getElem?_append_left (by rw[ok.ll];exact Nat.sub_lt_right_of_lt_add (Nat.pos_of_ne_zero h0) (h.len▸e)),←x8]
    rfl
 have AA:∀s,bU.contains s=false->kO s x.level=x.level:=fun s e=>by unfold kO;rw[e];rfl
 have XA:x.signs.length+1=(aV x.signs).R.length+2:=by rw[←h.len]
 rcases DK hs with⟨m,e1,e2,e3,e4⟩|m|⟨m,e1⟩|⟨m,e1,e2⟩|m
 ·have k:∀s∈rX,zI.contains s=false:=by decide
  have es:(aV x.signs).step s (x.line+dl (bE x.last s x.gap))=(aV x.signs).add s (x.line+dl (bE x.last s x.gap)) (aV x.signs).K (aV x.signs).c:=by
   unfold Ab.step;rw[e1,e2,e3,if_neg (by decide),if_neg (by decide),if_neg (by decide),if_neg e4]
  have ev:(x.step (s,b)).level=x.level:=by
   show(if aY.contains s then _ else kO s x.level)=_;rw[e1,AA s e2];rfl
  refine common (by rw[ea,es,ev];exact h.c) (fun l h0 hl=>?_) (by rw[ea,es,kk,if_neg e4];exact h.keys);rw[ev] at hl;rw[lk,ea,es,AA s e2,mT (.inl ⟨k s m,hl⟩),if_pos rfl];exact h.lk l h0 hl
 ·have k:∀s∈aY,zI.contains s=false/\uH.contains s=true/\bU.contains s=false/\s≠[58]:=by decide
  obtain⟨k1,k2,k3,k4⟩:=k s m;have es:(aV x.signs).step s (x.line+dl (bE x.last s x.gap))=(aV x.signs).add s (x.line+dl (bE x.last s x.gap)) (lE (aV x.signs).K ((aV x.signs).c+1) ((aV x.signs).R.length+2)) ((aV x.signs).c+1):=if_pos (s9.mpr m);have ev:(x.step (s,b)).level=x.level+1:=by
   show(if aY.contains s then kO s x.level+1 else _)=_;rw[if_pos (s9.mpr m),AA s k3]
  refine common (by rw[ea,es,ev];exact congrArg (· +1) h.c) (fun l h0 hl=>?_) (by rw[ea,es,kk,if_neg k4];exact h.keys);rw[ev] at hl;rw[lk,ea,es,AA s k3];show _=lE _ _ _ l
  by_cases o:l=x.level+1
  ·rw[pY (.inr (by rw[o];exact Int.lt_succ _)),if_neg (by decide),k2,if_pos rfl,o,←h.c,fD,XA]
  ·have Lo:l<=x.level:=Int.le_of_lt_add_one (Int.lt_iff_le_and_ne.mpr ⟨hl,o⟩);rw[mT (.inl ⟨k1,Lo⟩),if_pos rfl,cQ (by rw[h.c];exact o)];exact h.lk l h0 Lo
 ·have k:∀s∈bU,zI.contains s=false/\s≠[58]:=by decide
  obtain⟨k1,k2⟩:=k s m;have es:(aV x.signs).step s (x.line+dl (bE x.last s x.gap))=(aV x.signs).add s (x.line+dl (bE x.last s x.gap)) (lE (aV x.signs).K (aV x.signs).c 0) ((aV x.signs).c-1):=by
   unfold Ab.step;rw[e1,if_neg (by decide),if_pos (s9.mpr m)]
  have lv:kO s x.level=x.level-1:=if_pos (s9.mpr m);have ev:(x.step (s,b)).level=x.level-1:=by
   show(if aY.contains s then _ else kO s x.level)=_;rw[e1,lv];rfl
  refine common (by rw[ea,es,ev];exact congrArg (· -1) h.c) (fun l h0 hl=>?_) (by rw[ea,es,kk,if_neg k2];exact h.keys);rw[ev] at hl;rw[lk,ea,es,lv,mT (.inl ⟨k1,hl⟩),if_pos rfl];show _=lE _ _ _ l;have Lo:l<x.level:=Int.lt_of_le_sub_one hl;rw[cQ (by rw[h.c];exact Int.ne_of_lt Lo)];exact h.lk l h0 (Int.le_of_lt Lo)
 ·have k:∀s∈Gq,zI.contains s=true/\s≠[58]/\uH.contains s=(s !=[63]):=by decide
  obtain⟨k1,k2,k3⟩:=k s m;have es:(aV x.signs).step s (x.line+dl (bE x.last s x.gap))=(aV x.signs).add s (x.line+dl (bE x.last s x.gap)) (lE (aV x.signs).K (aV x.signs).c (if s=[63] then 0 else(aV x.signs).R.length+2)) (aV x.signs).c:=by
   unfold Ab.step;rw[e1,e2,if_neg (by decide),if_neg (by decide),if_pos (s9.mpr m)]
  have ev:(x.step (s,b)).level=x.level:=by
   show(if aY.contains s then _ else kO s x.level)=_;rw[e1,AA s e2];rfl
  refine common (by rw[ea,es,ev];exact h.c) (fun l h0 hl=>?_) (by rw[ea,es,kk,if_neg k2];exact h.keys);rw[ev] at hl;rw[lk,ea,es,AA s e2];show _=lE _ _ _ l
  by_cases o:l=x.level
  ·rw[pY (.inl ⟨k1,Int.le_of_eq o.symm⟩),if_neg (by decide),o,←h.c,fD,k3,XA]
   by_cases q:s=[63]
   ·rw[if_pos q,q];rfl
   ·rw[if_neg q,bne_iff_ne.mpr q];rfl
  ·rw[mT (.inr (Int.lt_iff_le_and_ne.mpr ⟨hl,o⟩)),if_pos rfl,cQ (by rw[h.c];exact o)];exact h.lk l h0 hl
 ·subst m;have lv:kO [58] x.level=x.level:=AA _ rfl;have kq:=h.key ok (l:=x.level) (L:=x.line+dl (bE x.last [58] x.gap)) hc (Int.le_refl _);rw[←h.c] at kq;have es:∃B:Ab,(aV x.signs).step [58] (x.line+dl (bE x.last [58] x.gap))=B.add [58] (x.line+dl (bE x.last [58] x.gap)) (lE (aV x.signs).K (aV x.signs).c 0) (aV x.signs).c/\B.keys=(aV x.signs).keys++(fR x.signs x.signs.length (x.line+dl (bE x.last [58] x.gap)) (aV x.signs).c).toList:=by
   unfold Ab.step;rw[if_neg (by decide),if_neg (by decide),if_neg (by decide),if_pos rfl];refine⟨_,rfl,?_⟩;rw[kq]
   split
   ·rfl
   ·exact(w8 _).symm
  obtain⟨B,es,eB⟩:=es;refine common (by rw[ea,es];exact h.c) (fun l h0 hl=>?_) ?_
  ·have hl:l<=x.level:=hl;rw[lk,ea,es,lv];show _=lE _ _ _ l
   by_cases o:l=x.level
   ·rw[pY (.inl ⟨rfl,Int.le_of_eq o.symm⟩),if_neg (by decide),o,←h.c,fD];rfl
   ·rw[mT (.inr (Int.lt_iff_le_and_ne.mpr ⟨hl,o⟩)),if_pos rfl,cQ (by rw[h.c];exact o)];exact h.lk l h0 hl
  ·rw[ea,es,kk,if_pos rfl,lv,←h.c,h.keys];exact eB.symm
end
section
open PySem
noncomputable abbrev Nx:=List Nat×Nat×List Nat
noncomputable abbrev Nx.txt(n:Nx):List Nat:=n.1++n.2.1::n.2.2
noncomputable def nR(fin:List Nat->List Nat->Nx):List Nat->List Nat->List Pr->Nx
 |last,gap,[]=>fin last gap
 |last,gap,p::row=>(bE last p.1 gap,p.1.headD 0,p.1.tail++(nR fin p.1 p.2 row).txt)
noncomputable def CH:List (List Nat):=[64]::gO
theorem Ja:∀s∈gO,∀s'∈CH,∀b∈hY,(bE s s' b,dl (bE s s' b))∈gX/\Qj s (bE s s' b) (s'.headD 0)=true:=by decide+kernel
def EO(s:List Nat)(n:Nx):Prop:=(n.1,dl n.1)∈gX/\Qj s n.1 n.2.1=true/\(n.2.1=58->qL n.2.2=true)/\pS n.2.1=true
theorem KQ{n:Nx}(h:Qj [58] n.1 n.2.1=true):qL n.txt=true:=by
 refine Mr (xH (r:=n.2.2) (show isIn fV ((n.1++[n.2.1]).headD 0)=true from h)) fun d0 r0 e0 h0=>?_;show qL (n.1++n.2.1::n.2.2)=true;rw[e0];exact zV h0
def wJ(fin:List Nat->List Nat->Nx):Prop:=∀s∈gO,∀b∈hY,EO s (fin s b)
def jE(row:List Pr):Prop:=∀p∈row,p.1∈gO/\p.2∈hY
theorem uG{fin:List Nat->List Nat->Nx}(Ck:wJ fin):∀{row:List Pr} {s b:List Nat},jE row->s∈gO->b∈hY->EO s (nR fin s b row)
 |[],s,b,_,hs,hb=>Ck s hs b hb
 |p::row,s,b,h,hs,hb=>by
  have hp:=h p (.head _);have k:=Ja s hs p.1 (.tail _ hp.1) b hb;refine⟨k.1,k.2,fun e=>?_,(rJ p.1 hp.1).1⟩;have b5:∀s∈gO,s.headD 0=58->s=[58]:=by decide
  have VE:=b5 p.1 hp.1 e;have ih:=uG Ck (row:=row) (s:=p.1) (b:=p.2) (fun q hq=>h q (.tail _ hq)) hp.1 hp.2;rw[VE] at ih;show qL (p.1.tail++(nR fin p.1 p.2 row).txt)=true;rw[VE];exact KQ ih.2.1
noncomputable def mP(s:List Nat)(c:Int):Int:=if aY.contains s then kO s c+1 else kO s c
noncomputable def rT:Int->List Pr->Prop
 |_,[]=>True
 |c,p::r=>0<c/\rT (mP p.1 c) r
theorem Gy{A:Ab}{s:List Nat}{l:Int}(hc:l<A.c):(A.step s L).K l=A.K l:=by
 have u:∀v,lE A.K A.c v l=A.K l:=fun v=>cQ (Int.ne_of_lt hc);unfold Ab.step
 split
 ·exact cQ (Int.ne_of_lt (Int.lt_trans hc (Int.lt_succ _)))
 ·split
  ·exact u _
  ·split
   ·exact u _
   ·split
    ·exact u _
    ·rfl
structure At(N:Int)(z:Z)(got:List V)(x:LS)(n:Nx):Prop where
 si:SI x
 n0:(aV x.signs).R.length≠0
 Fv:mY N z got (aV x.signs)
 k0:(aV x.signs).K 0=1
 ng:∀l,l<0->(aV x.signs).K l=0
 rd:Rd z (aV x.signs) n.2.1 n.2.2 x.line (x.line+dl n.1)
theorem At.step{N:Int}{z:Z}{got:List V}{x:LS}{fin:List Nat->List Nat->Nx}(Ck:wJ fin)(hN:N<=1000){p:Pr}{row:List Pr}(hr:jE (p::row))(h:At N z got x (nR fin x.last x.gap (p::row)))(hc:0<x.level)(hn:x.signs.length<=80):
  ∃z2 Oj q,At N z2 Oj (x.step p) (nR fin p.1 p.2 row)/\got.length+q=Oj.length+1/\got.length<=Oj.length/\∀j r,eU j z2 Oj r->eU (j+q) z got r:=by
 have hp:=hr p (.head _);have hl:=h.si.len;have h0:(aV x.signs).c≠0:=by rw[h.si.c];exact Int.ne_of_gt hc
 obtain⟨hh,ht⟩:=rJ p.1 hp.1;refine Qz (h.Fv.ahead (q5 (Nat.le_of_succ_le (r9 hl)) (q5 hn (by decide))) hN h0 h.n0 h.rd hh) fun z0 z1 fP q zs a1 a2 a3 a4 a5 a6 a7 a8 a9 FH Yn FI=>?_;have nx:=uG Ck (row:=row) (fun q hq=>hr q (.tail _ hq)) hp.1 hp.2;have er:zs.rem=p.1++((nR fin p.1 p.2 row).1++(nR fin p.1 p.2 row).2.1::(nR fin p.1 p.2 row).2.2):=by
  rw[a8];show p.1.headD 0::(p.1.tail++_)=_;rw[←List.cons_append,←ht]
 refine Mt h.rd fun g d r1 r2 r3 r4 r5 r6=>?_;refine jM (BN a7 (Nat.le_of_succ_le (q5 (r9 hl) hn)) hN h0 hp.1 nx.1 nx.2.1 nx.2.2.1 er (fun e=>FH.trans (r5 (.inl e))) FI) fun z2 b1 b2 b3=>?_;have ea:aV (x.step p).signs=(aV x.signs).step p.1 zs.line:=by
  rw[a9];exact zT h.si.ne _
 refine(pF z2 fP (q+1) ⟨h.si.step h.Fv.ok hp.1 (Int.le_of_lt hc) h.si.keys,by rw[ea,Ab.We.1,q6];exact Nat.succ_ne_zero _,by rw[ea];exact b2,?_,fun l hl=>?_,?_⟩ ?_ (a4▸x7 _ _) (fun j r hr=>?_))
 ·rw[ea,Gy (by rw[h.si.c];exact hc)];exact h.k0
 ·rw[ea,Gy (by rw[h.si.c];exact Int.lt_trans hl hc)];exact h.ng l hl
 ·rw[ea];rw[a9] at b3⊢;exact b3
 ·rw[←a4];exact(Nat.add_assoc ..).symm
 ·rw[←Nat.add_assoc,Nat.add_right_comm];exact a5 _ _ (eU.more a1 (a6.trans b1) hr)
theorem BL{N:Int}{fin:List Nat->List Nat->Nx}(Ck:wJ fin)(hN:N<=1000):∀(row:List Pr) (x:LS) (z:Z) (got:List V),jE row->rT x.level row->At N z got x (nR fin x.last x.gap row)->x.signs.length+row.length<=80->
  ∃zE jS q,At N zE jS (row.foldl LS.step x) (fin (row.foldl LS.step x).last (row.foldl LS.step x).gap)/\got.length+q=jS.length+row.length/\got.length<=jS.length/\∀j r,eU j zE jS r->eU (j+q) z got r:=by
 intro eN;induction eN with
 |nil=>
  intro x z got _ _ h _;exact(pF z got 0 h rfl (w7 _) (fun _ _ hr=>hr))
 |cons p row ih=>
  intro x z got hr hl h hn;have SQ:x.signs.length+(row.length+1)<=80:=hn;refine Hq (h.step Ck hN hr hl.1 (q5 (x7 ..) SQ)) fun z2 Oj q b1 b2 b4 b3=>?_;obtain⟨zE,jS,q2,c1,c2,c4,c3⟩:=ih (x.step p) z2 Oj (fun q hq=>hr q (.tail _ hq)) hl.2 b1 (by
   show(x.signs++[_]).length+_<=_;rw[q6];show x.signs.length+1+_<=_;exact q5 (r9 (Nat.add_right_comm ..)) SQ)
  refine(pF zE jS (q2+q) c1 ?_ (q5 b4 c4) (fun j r hr=>?_))
  ·show _=_+(row.length+1);exact(congrArg (got.length+ ·) (v7 ..)).trans ((Nat.add_assoc ..).symm.trans ((congrArg (· +q2) b2).trans ((Nat.add_right_comm ..).trans (congrArg (· +1) c2))))
  ·rw[←Nat.add_assoc];exact b3 _ _ (c3 _ _ hr)
end
section
open PySem
theorem OL{l:Int}(h:l≠0):A0.K l=0:=cQ (K:=fun U=>0) h
theorem Kg:wB A0:=by
 have e:∀l,A0.K l≠0->l=0:=fun l h=>by
  by_cases q:l=0
  ·exact q
  ·exact absurd (OL q) h
 refine⟨fun l l' hl h1 h2=>?_,fun l=>?_,fun l hl=>?_,fun l hl=>?_,fun _ _=>rfl,fun k hk=>(nomatch hk),rfl⟩
 ·rw[e l h1,e l' h2] at hl;exact absurd hl (Int.lt_irrefl _)
 ·show lE (fun U=>0) 0 1 l<=1;unfold lE;split
  ·exact w7 _
  ·exact Nat.zero_le _
 ·rw[OL hl];exact Nat.zero_le _
 ·exact OL (Int.ne_of_gt hl)
noncomputable def Z.one(text:List Nat):Z:={Z.init text with taken:=1,tokens:=[]}
noncomputable def Kc(text:List Nat):V:=nM (kZ ⟨(text++[0]).toArray⟩ 0 0 0) (kZ ⟨(text++[0]).toArray⟩ 0 0 0) .none
theorem Zs:FZ (Z.init text):=⟨List.nodup_nil,fun _ h=>(nomatch h),Nat.zero_le _,by show 1<=200;decide⟩
theorem Tw:FZ (Z.one text):=⟨List.nodup_nil,fun _ h=>(nomatch h),Nat.zero_le _,Nat.zero_le _⟩
theorem Cq:mY (text.length+1) (Z.one text) [Kc text] A0:=by
 have no:∀l L,¬A0.at_ l L:=fun l L h=>h.1 (Nat.le_zero.mp h.2.1);refine⟨Kg,rfl,rfl,rfl,fun _ h=>(nomatch h),fun l hl=>absurd hl (no l _),fun l hl=>absurd hl (no l _),fun j h0 hj=>absurd (Nat.le_zero.mp hj) h0,List.nodup_nil,w7 _,rfl,rfl,rfl,Int.le_refl _,fun e=>absurd rfl e,Int.le_refl _,?_⟩
 show 0+(((text++[0]).length:Nat):Int)=_;rw[q6,Int.zero_add];rfl
theorem Pw{s b:List Nat}{n:Nx}(hs:s∈aY)(hn:EO s n)(hT:text++[0]=s++n.txt):
  ∃z2,At (text.length+1) z2 [Kc text] (LS.init.step (s,b)) n/\∀j r,eU j z2 [Kc text] r->eU (j+2) (Z.init text) [] r:=by
 have k:∀s∈aY,pS (s.headD 0)=true/\s.headD 0≠65279/\s=s.headD 0::s.tail/\s∈gO/\bE [91] s []=[]:=by decide
 refine yR (k s hs) fun k1 k2 k3 k4 k5=>?_;have GW:(Z.one text).rem=s++(n.1++n.2.1::n.2.2):=hT;have MJ:(Z.one text).rem=s.headD 0::(s.tail++n.txt):=by
  rw[GW,←List.cons_append,←k3]
 have f1:=Fe (z:=Z.one text) Tw rfl rfl (by show(-1:Int)<=0;decide) MJ k1 k2;refine bQ (Gz (z:=Z.one text) Tw hs hn.1 GW) fun t t1 t2=>?_;have ea:aV (LS.init.step (s,b)).signs=A0.add s 0 (lE A0.K 1 2) 1:=by
  show A0.step s (0+dl (bE [91] s []))=_;rw[k5];exact if_pos (s9.mpr hs)
 have LM:(LS.init.step (s,b)).line=0+own s:=by
  show 0+dl (bE [91] s [])+own s=_;rw[k5];rfl
 obtain⟨z2,e1,e2,e3⟩:=Rd.of (got:=[Kc text]) (A':=A0.add s 0 (lE A0.K 1 2) 1) t2 GW (Cq (text:=text)).bd (oX s) (Cq (text:=text)).cl (@fun p l k r' a l1 l2 l0 l3=>
   (Cq (text:=text)).save (k:=k) (a:=a) (t:=t) (s:=s) (K:=lE A0.K 1 2) (c:=1) t1 rfl Kg.WU (fun i hi=>cQ (by have:i<=0:=hi;exact fun e=>absurd (e▸this) (Int.lt_irrefl _))) (fun i hi=>by
    by_cases e:i=1
    ·rw[e,fD];exact .inr (x9 _)
    ·rw[cQ e];exact .inl (Kg.hi i hi)) rfl rfl (fun _=>rfl) l1 l2 l0 l3) (by rfl) (z2:=Z.one text)
 refine(fG z2 ⟨SI.init.step Kg k4 (Int.le_refl _) rfl,by rw[ea];exact Nat.succ_ne_zero _,by rw[ea];exact e2,by rw[ea];rfl,fun l hl=>?_,?_⟩ (fun j r hr=>?_))
 ·rw[ea];show lE A0.K 1 2 l=0;rw[cQ (fun e=>absurd (e▸hl) (aR rfl))];exact OL (Int.ne_of_lt hl)
 ·rw[ea,LM];exact e3
 ·have n1:dT (Z.init text)=.ok false (Z.init text):=by
   rw[pU Zs rfl (fun e=>nomatch e)];rfl
  refine eU.pop n1 (t:=Kc text) (ts:=[]) rfl (by show 1<=1000;decide) ?_;show eU (j+1) (Z.one text) [Kc text] r;exact eU.more (jV rfl rfl) (f1.trans e1) hr
theorem Mm{fin:List Nat->List Nat->Nx}:∀(row:List Pr) (x:LS),jE row->x.text++(nR fin x.last x.gap row).txt=(row.foldl LS.step x).text++(fin (row.foldl LS.step x).last (row.foldl LS.step x).gap).txt
 |[],_,_=>rfl
 |p::row,x,h=>by
  have ht:=(rJ p.1 (h p (.head _)).1).2;have ih:=Mm (fin:=fin) row (x.step p) fun q hq=>h q (.tail _ hq);rw[List.foldl_cons,←ih];show x.text++(bE x.last p.1 x.gap++p.1.headD 0::(p.1.tail++_))=x.text++bE x.last p.1 x.gap++p.1++_;rw[←List.cons_append,←ht,r7,r7]
  rfl
theorem mY.gone{N:Int}{got:List V}{A:Ab}(h:mY N z got A):got.map dG=(cH::fl A.keys 1 A.R).take got.length:=by
 rw[←h.toks,u6,List.take_left' (t7 _)]
theorem Ml{R:List V}{k:Nat}(h0:k≠0)(hk:k<=R.length+1)(t:V):(t::fl keys 1 R).take (fM keys R k)=t::fl keys 1 (R.take (k-1)):=by
 unfold fM;rw[v7 1,List.take_succ_cons];have e:fl keys 1 R=fl keys 1 (R.take (k-1))++fl keys (1+(R.take (k-1)).length) (R.drop (k-1)):=by
  rw[←kL,List.take_append_drop]
 rw[e,List.take_left]
theorem Ei.end_{N:Int}{got:List V}{A:Ab}(h:mY N z got A)(hf:Ei A z.line z.tokens got){e:Nat}(he:(e=A.R.length+1/\∀l,¬A.at_ l z.line)\/∃l,A.at_ l z.line/\A.K l=e/\∀l',l'<l->¬A.at_ l' z.line):got.map dG=cH::fl A.keys 1 (A.R.take (e-1)):=by
 have ln:=h.len;have all:z.tokens=[]->got.length=fM A.keys A.R (A.R.length+1):=fun q=>by
  rw[q] at ln;rw[sV];exact ln
 rw[h.gone]
 rcases he with⟨e1,e2⟩|⟨l,e1,e2,e3⟩
 ·rcases hf with q|⟨l,q,_⟩
  ·rw[all q,e1];exact Ml (Nat.succ_ne_zero _) (w7 _) _
  ·exact absurd q (e2 l)
 ·have mi:=h.min l e1;have lt:fM A.keys A.R (A.K l)<fM A.keys A.R (A.R.length+1):=Cw e1.1 (Nat.lt_succ_of_le e1.2.1) e1.2.1;have eq:got.length=fM A.keys A.R (A.K l):=by
   refine Nat.le_antisymm mi ?_
   rcases hf with q|⟨l',q,q2⟩
   ·rw[all q];exact Nat.le_of_lt lt
   ·rw[q2]
    rcases Int.lt_trichotomy l l' with o|o|o
    ·exact Nat.le_of_lt (Cw e1.1 (h.ok.mono l l' o e1.1 q.1) e1.2.1)
    ·rw[o];exact w7 _
    ·exact absurd q (e3 l' o)
  rw[eq,e2];exact Ml (e2▸e1.1) (e2▸w9 e1.2.1) _
theorem Tg{x:LS}(si:SI x)(ok:wB (aV x.signs))(L:Int):∀(w:Nat) (e:Nat),(w:Int)<=x.level->(oC x.signs L w e=e/\∀l,0<=l->l<=(w:Int)->¬(aV x.signs).at_ l L)\/∃l,0<=l/\(aV x.signs).at_ l L/\(aV x.signs).K l=oC x.signs L w e/\∀l',0<=l'->l'<l->¬(aV x.signs).at_ l' L:=by
 intro eN;induction eN with
 |zero=>
  intro e hw;have k:=si.key ok (L:=L) (Int.le_refl 0) hw;show((fR x.signs x.signs.length L 0).getD e=e/\_)\/∃l,0<=l/\_/\_=(fR x.signs x.signs.length L 0).getD e/\_;rw[k]
  by_cases q:(aV x.signs).at_ 0 L
  ·exact .inr (DZ 0 (Int.le_refl _) q (by rw[if_pos q];rfl) (fun l' h1 h2=>absurd h1 (Int.not_le.mpr h2)))
  ·exact .inl ⟨by rw[if_neg q];rfl,fun l h1 h2=>by cases Int.le_antisymm h2 h1;exact q⟩
 |succ w ih=>
  intro e hw;have k:=si.key ok (L:=L) (u4 (w+1)) hw;have ih:=ih ((fR x.signs x.signs.length L ((w+1:Nat):Int)).getD e) (Int.le_of_lt hw)
  rcases ih with⟨i1,i2⟩|i
  ·by_cases q:(aV x.signs).at_ ((w+1:Nat):Int) L
   ·refine .inr (DZ _ (u4 _) q ?_ (fun l' h1 h2=>i2 l' h1 (Int.le_of_lt_add_one h2)));show _=oC x.signs L w _;rw[i1,k,if_pos q];rfl
   ·refine .inl ⟨?_,fun l h1 h2=>?_⟩
    ·show oC x.signs L w _=e;rw[i1,k,if_neg q];rfl
    ·by_cases o:l=((w+1:Nat):Int)
     ·rw[o];exact q
     ·exact i2 l h1 (Int.le_of_lt_add_one (Int.lt_iff_le_and_ne.mpr ⟨h2,o⟩))
  ·exact .inr i
def Br(got:List V)(n:Nat)(z:Z)(fX:List V)(p:Int):Prop:=∃jS k b l c,eU k z got (jS,some (.none,kZ b p l c))/\jS.map dG=fX/\k+got.length<=jS.length+n
theorem At.bad{N:Int}{got:List V}{x:LS}{g:List Nat}(h:At N z got x (g,64,[0]))(hN:N<=1000)(hn:x.signs.length<=80)(hd:(d:Int)=x.level)(h0:d≠0):
  Br got 1 z (cH::fl (bD x.signs) 1 ((cX x.signs).take (oC x.signs x.line d x.signs.length-1))) (N-2):=by
 have hl:=h.si.len;have hc:(aV x.signs).c≠0:=by rw[h.si.c,←hd];exact Int.natCast_ne_zero.mpr h0
 refine Qz (h.Fv.ahead (q5 (Nat.le_of_succ_le (r9 hl)) (q5 hn (aR rfl))) hN hc h.n0 h.rd rfl) fun z0 z1 fP q zs a1 a2 a3 a4 a5 a6 a7 a8 a9 FH Yn FI=>?_;refine Mt h.rd fun g2 d2 r1 r2 r3 r4 r5 r6=>?_;have ez:z.line=x.line:=r6 rfl;have e:dE 1000 z1=.err .none (kZ zs.buf zs.ptr zs.line zs.col):=a6.trans (FK (fun e=>hc (a7.rQ.symm.trans e)) a8 rfl);have ep:zs.ptr=N-2:=by
  have:=a7.bd;rw[a8] at this;change zs.ptr+2=N at this;exact(Int.add_sub_cancel ..).symm.trans (congrArg (· -2) this)
 rw[ep] at e;refine⟨fP,1+q,_,_,_,a5 _ _ (eU.err (k:=0) a1 e),?_,r9 ((Nat.add_assoc ..).trans ((v7 ..).trans (congrArg (· +1) ((v7 ..).trans a4))))⟩;rw[h.si.keys,h.si.rows];rw[←Yn] at a3;refine Ei.end_ a2 a3 ?_;rw[Yn,ez]
 rcases Tg h.si h.Fv.ok x.line d x.signs.length (Int.le_of_eq hd) with⟨i1,i2⟩|⟨l,i0,i1,i2,i3⟩
 ·refine .inl ⟨i1.trans hl.symm,fun l hl=>?_⟩
  rcases Int.lt_or_le l 0 with o|o
  ·exact hl.1 (h.ng l o)
  ·rcases Int.lt_or_le (aV x.signs).c l with o2|o2
   ·exact hl.1 (h.Fv.ok.hi l o2)
   ·exact i2 l o (by rw[hd,←h.si.c];exact o2) hl
 ·refine .inr (tS l i1 i2 (fun l' Lo=>?_))
  rcases Int.lt_or_le l' 0 with o|o
  ·exact fun q=>q.1 (h.ng l' o)
  ·exact i3 l' o Lo
def Kk(got:List V)(n:Nat)(z:Z)(fX:List V):Prop:=∃jS k,eU k z got (jS,none)/\jS.map dG=fX/\k+got.length<=jS.length+n
theorem Tc:∀(ts:List V) {z:Z} {got:List V},z.tokens=ts->ts.length<=1000->z.done=true->eU (ts.length+1) z got (got++ts,none):=by
 intro eN;induction eN with
 |nil=>
  intro z got e _ hd;exact by rw[w8];exact eU.stop (qW hd) e
 |cons t ts ih=>
  intro z got e hl hd;have r:=ih (z:={z with taken:=z.taken+1,tokens:=ts}) (got:=got++[t]) rfl (Nat.le_of_succ_le hl) hd
  rw[r7] at r;exact eU.pop (qW hd) e (by rw[e];exact hl) r
theorem At.Vk{N:Int}{got:List V}{x:LS}{g:List Nat}(h:At N z got x (g,0,[]))(hN:N<=1000)(hn:x.signs.length<=80)(Af:x.level≠0):
  Kk got 2 z (cH::fl (bD x.signs) 1 (cX x.signs)++[lB "<stream end>"]):=by
 have hl:=h.si.len;have hc:(aV x.signs).c≠0:=by rw[h.si.c];exact Af
 refine Qz (h.Fv.ahead (q5 (Nat.le_of_succ_le (r9 hl)) (q5 hn (aR rfl))) hN hc h.n0 h.rd rfl) fun z0 z1 fP q zs a1 a2 a3 a4 a5 a6 a7 a8 a9 FH Yn FI=>?_;have fz:=a7.fz (q5 (Nat.le_of_succ_le (r9 hl)) (q5 hn (aR rfl)));have e:=a6.trans (LO fz (fun e=>hc (a7.rQ.symm.trans e)));have tl:=fz.tl;have r:=Tc (zs.tokens++[tk 290 zs.mark zs.mark]) (z:={zs with keys:=[],allow:=false,tokens:=zs.tokens++[tk 290 zs.mark zs.mark],done:=true}) (got:=fP) rfl (by rw[q6];show _+1<=_;exact q5 (Nat.succ_le_succ tl) (aR rfl)) rfl
 refine⟨_,_,a5 _ _ (eU.more a1 e r),?_,?_⟩
 ·rw[←r7,u6,a7.toks,h.si.keys,h.si.rows];rfl
 ·simp only[q6,List.length_singleton];exact r9 ((Nat.add_assoc ..).trans ((congrArg (zs.tokens.length+1+1+1+ ·) ((v7 ..).trans a4)).trans (v7 ..)))
end
section
open PySem
theorem Ub{g:List Nat}(hg:xG g=true){p l k:Int}{c:Nat}(h:pS c=true):∃k',bP 1000 (z.at_ p (g++c::r) l k)=.ok () (z.at_ (p+g.length) (c::r) l k')/\k<=k':=by
 unfold xG at hg
 rcases(Bool.or_eq_true _ _).mp hg with hg|hg
 ·rcases(Bool.or_eq_true _ _).mp hg with hg|hg
  ·cases beq_iff_eq.mp hg;refine(fG k ?_ (Int.le_refl _));show _=R.ok () (z.at_ (p+0) _ l k);rw[u9];exact gM (n:=999) h
  ·cases beq_iff_eq.mp hg;exact(fG (k+1) (nP.trans (gM (n:=999) h)) (Int.le_add_of_nonneg_right (aR rfl)))
 ·cases beq_iff_eq.mp hg;refine(fG (k+1+1) ((nP.trans (nP.trans (gM (n:=999) h))).trans ?_) (Int.le_trans (Int.le_add_of_nonneg_right (aR rfl)) (Int.le_add_of_nonneg_right (aR rfl))));rw[t8 p 1 1];rfl
theorem rM(h:FZ z)(hp:z.ptr≠0)(hf:z.aH=0)(hi:z.indent<=z.col){g:List Nat}(hg:xG g=true){c:Nat}(hr:z.rem=g++c::r)(hc:pS c=true):
  ∃k',dE 1000 z=bR 1000 c {z with ptr:=z.ptr+g.length,rem:=c::r,col:=k',keys:=z.keys.filter fun kv=>live z.line (z.ptr+g.length) kv.2}/\z.col<=k':=by
 refine bQ (Ub (z:=z) hg (p:=z.ptr) (l:=z.line) (k:=z.col) (r:=r) hc) fun k' e hk=>?_;refine(fG k' ?_ hk);have e':pC 1000 z=.ok () (z.at_ (z.ptr+g.length) (c::r) z.line k'):=by
  unfold pC;rw[if_neg hp];rw[←hr] at e;exact e
 unfold dE;rw[e',bL,tG (z:=z.at_ (z.ptr+g.length) (c::r) z.line k') ⟨h.nd,h.rq,h.kl,h.tl⟩,bL];have e3:=yM (z:={z with ptr:=z.ptr+g.length,rem:=c::r,col:=k',keys:=z.keys.filter fun kv=>live z.line (z.ptr+g.length) kv.2}) hf (Int.le_trans hi hk)
 show(fB _ _).bind _=_;exact(congrArg (fun q=>R.bind q fun _ z=>(peek 0 z).bind fun c z=>bR 1000 c z) e3).trans rfl
section
variable{N:Int}{got:List V}{x:LS}
theorem At.Il{c:Nat}{g:List Nat}(h:At N z got x (g,c,r))(hN:N<=1000)(hn:x.signs.length<=80)(Af:x.level=0)(hg:dl g=0)(hc:pS c=true):
  ∃z0 z1 fP q zs,dT z0=.ok true z1/\mY N z1 fP (aV x.signs)/\Ei (aV x.signs) x.line z1.tokens fP/\got.length+q=fP.length/\(∀j r,eU j z0 fP r->eU (j+q) z got r)/\
   dE 1000 z1=bR 1000 c zs/\mY N zs fP (aV x.signs)/\zs.rem=c::r/\zs.line=x.line/\zs.allow=false/\z1.line=x.line/\(∀kv∈zs.keys,kv.2.line=zs.line)/\zs.tokens=z1.tokens/\0<=zs.col:=by
 have hl:=h.si.len;refine Mt h.rd fun g2 d2 r1 r2 r3 r4 r5 r6=>?_;have hd2:d2=0/\z.line=x.line:=by
  have:=Fo _ r1;change z.line+d2=x.line+dl g at r3;rw[hg] at r3;exact(fun zl=>⟨Int.add_left_cancel (r3.trans (congrArg (· +0) zl.symm)),zl⟩) (Int.le_antisymm (Int.le_trans (Int.le_add_of_nonneg_right this) (Int.le_of_eq (r3.trans (u9 _)))) r4)
 have f0:∀q∈gX,q.2=0->xG q.1=true:=by decide
 have CR:=f0 _ r1 hd2.1;refine mY.NT (q5 (Nat.le_of_succ_le (q5 (r9 hl) hn)) (aR rfl)) hN _ z got (w7 _) h.Fv _ fun z0 fP ks ts tk q a1 a2 a3 a4 a5=>?_;obtain⟨k',e1,e2⟩:=rM (z:={z with keys:=ks,tokens:=ts,taken:=tk}) (a2.fz (q5 (Nat.le_of_succ_le (q5 (r9 hl) hn)) (aR rfl))) (Int.ne_of_gt (a2.ps h.n0)) (a2.rQ.trans (h.si.c.trans Af)) (by rw[a2.ind];exact Int.le_trans (aR rfl) h.Fv.cl) CR r2 hc
 have al:z.allow=false:=by
  rw[r5 (.inr (show x.line=x.line+dl g by rw[hg,u9]))];have:(aV x.signs).c=0:=h.si.c.trans Af;rw[this,h.k0];refine u0 fun e=>h.n0 ?_;exact(Nat.succ.inj e).symm
 refine⟨z0,_,fP,q,_,a1,a2,hd2.2▸a3,a4,a5,e1,a2.move (Int.le_refl _) (Int.le_add_of_nonneg_right (u4 _)) (Int.le_trans h.Fv.cl e2) ?_ hN,rfl,hd2.2,al,hd2.2,fun kv hk=>?_,rfl,Int.le_trans h.Fv.cl e2⟩
 ·have:=h.Fv.bd;rw[r2,q6] at this;rw[←this];show z.ptr+_+_=z.ptr+((_+_:Nat):Int);rw[Int.natCast_add,t8]
 ·have:=(List.mem_filter.mp hk).2;unfold live at this;exact r8 ((q9 _ _).mp this).1
theorem FY(h:FZ z)(hf:z.aH=0)(hi:z.indent=-1):bR 1000 0 z=.ok () {z with keys:=[],allow:=false,tokens:=z.tokens++[tk 290 z.mark z.mark],done:=true}:=by
 have e0:fB (-1) z=.ok () z:=by
  unfold fB;rw[if_pos hf];show(if-1<z.indent then _ else R.ok () z)=_;rw[if_neg (by rw[hi];decide)]
 show iJ z=_;unfold iJ;rw[e0,bL,eX h,bL];unfold push;rw[if_pos (q5 h.tl (aR rfl))];rfl
theorem At.Ip(h:At N z got x ([],0,[]))(hN:N<=1000)(hn:x.signs.length<=80)(Af:x.level=0):
  Kk got 2 z (cH::fl (bD x.signs) 1 (cX x.signs)++[lB "<stream end>"]):=by
 have hl:=h.si.len;refine Ra (h.Il hN hn Af rfl rfl) fun z0 z1 fP q zs a1 a2 a3 a4 a5 a6 a7 a8 a9 FH Yn FI VB RP=>?_;have fz:=a7.fz (q5 (Nat.le_of_succ_le (q5 (r9 hl) hn)) (aR rfl));have e:=a6.trans (FY fz (a7.rQ.trans (h.si.c.trans Af)) a7.ind);have tl:=fz.tl;have r:=Tc (zs.tokens++[tk 290 zs.mark zs.mark]) (z:={zs with keys:=[],allow:=false,tokens:=zs.tokens++[tk 290 zs.mark zs.mark],done:=true}) (got:=fP) rfl (by rw[q6];show _+1<=_;exact v9 tl (aR rfl)) rfl
 refine⟨_,_,a5 _ _ (eU.more a1 e r),?_,?_⟩
 ·rw[←r7,u6,a7.toks,h.si.keys,h.si.rows];rfl
 ·simp only[q6,List.length_singleton];exact r9 ((Nat.add_assoc ..).trans ((congrArg (zs.tokens.length+1+1+1+ ·) ((v7 ..).trans a4)).trans (v7 ..)))
theorem Iz(hk:z.keys=[])(ht:z.tokens.length<=200):FZ z:=by
 refine⟨by rw[hk];exact List.nodup_nil,fun kv m=>?_,by rw[hk];exact Nat.zero_le _,ht⟩;rw[hk] at m;exact nomatch m
theorem Td:∀(ts:List V) {z:Z} {got:List V},z.tokens=ts->ts.length<=200->z.done=false->z.keys=[]->∀j r,eU j {z with tokens:=[],taken:=z.taken+ts.length} (got++ts) r->eU (j+ts.length) z got r:=by
 intro eN;induction eN with
 |nil=>
  intro z got e _ hd hk j r hr;rw[w8] at hr;change eU j {z with tokens:=[],taken:=z.taken+((0:Nat):Int)} got r at hr
  rw[show z.taken+((0:Nat):Int)=z.taken from u9 _,←e] at hr;exact hr
 |cons t ts ih=>
  intro z got e hl hd hk j r hr;have fz:FZ z:=Iz hk (by rw[e];exact hl);have nm:=pU fz hd (by rw[e];exact fun q=>(nomatch q))
  rw[hk] at nm;have nm:dT z=.ok false {z with keys:=[]}:=nm
  refine eU.pop nm e (by rw[e];exact q5 hl (aR rfl)) ?_;refine ih (z:={z with keys:=[],taken:=z.taken+1,tokens:=ts}) rfl (Nat.le_of_succ_le hl) hd rfl j r ?_
  rw[r7];have e2:z.taken+1+(ts.length:Int)=z.taken+((t::ts).length:Nat):=by
   show _=z.taken+((ts.length+1:Nat):Int);exact(t8 ..).trans (congrArg (z.taken+ ·) (Int.add_comm ..))
  show eU j {z with keys:=[],tokens:=[],taken:=z.taken+1+(ts.length:Int)} (got++(t::ts)) r
  rw[e2,←hk];exact hr
theorem Zj(hk:z.keys=[])(ht:z.tokens=[])(hp:z.ptr≠0)(hf:z.aH=0)(hi:z.indent=0)(hc:0<=z.col)(ha:z.allow=false)(hr:z.rem=[32,122,0]):
  ∃p k e m,dE 1000 z=.ok () {z with keys:=[],ptr:=p,rem:=[0],col:=k,tokens:=[yP (sv [122]) true m e .none]}/\0<=k/\0<p-z.ptr:=by
 have fz:FZ z:=Iz hk (by rw[ht];exact Nat.zero_le _);obtain⟨k',e1,e2⟩:=rM fz hp hf (by rw[hi];exact hc) (g:=[32]) rfl hr rfl;refine(JX (z.ptr+1+1) (k'+1) (kZ z.buf (z.ptr+1+1) z.line (k'+1)) (kZ z.buf (z.ptr+1) z.line k') (e1.trans ?_) (Int.le_add_one (Int.le_trans hc e2)) (Int.sub_pos.mpr (Int.lt_trans (Int.lt_succ _) (Int.lt_succ _))));obtain⟨buf,ptr,rem,line,col,done,aH,tokens,taken,indent,aO,allow,keys⟩:=z;change keys=[] at hk;change tokens=[] at ht;change aH=0 at hf;change indent=0 at hi;change allow=false at ha;subst hk ht hf hi ha
 rfl
theorem Zi(hk:z.keys=[])(ht:z.tokens=[])(hp:z.ptr≠0)(hf:z.aH=0)(hi:z.indent=0)(CT:z.aO=[-1])(hc:0<=z.col)(hr:z.rem=[0]):
  ∃k p,dE 1000 z=.ok () {z with keys:=[],ptr:=p,rem:=[0],col:=k,indent:=-1,aO:=[],allow:=false,tokens:=[tk 326 (kZ z.buf p z.line k) (kZ z.buf p z.line k),tk 290 (kZ z.buf p z.line k) (kZ z.buf p z.line k)],done:=true}:=by
 have fz:FZ z:=Iz hk (by rw[ht];exact Nat.zero_le _);obtain⟨k',e1,e2⟩:=rM fz hp hf (by rw[hi];exact hc) (g:=[]) rfl hr rfl;refine(QO k' (z.ptr+(0:Nat)) (e1.trans ?_));refine(Zg (z:={z with ptr:=z.ptr+(0:Nat),rem:=[0],col:=k',keys:=z.keys.filter fun kv=>live z.line (z.ptr+(0:Nat)) kv.2}) ⟨(fz.filter _).nd,(fz.filter _).rq,(fz.filter _).kl,fz.tl⟩ hf hi CT (by rw[ht];decide)).trans ?_
 rw[ht]
 rfl
theorem Aw(h:SI x){p:Pr}:cX (x.step p).signs=cX x.signs++[lJ p.1]:=by
 show(x.signs++[_]).tail.map _=_;rw[List.tail_append_of_ne_nil h.ne,u6];rfl
theorem xS(h:At N z got x ([32],58,[32,122,0]))(Af:x.level=0)(hg:bE x.last [58] x.gap=[32]):bD (x.step ([58],[32])).signs=(aV x.signs).keys++(if(aV x.signs).at_ 0 x.line then[1] else[]):=by
 have kq:=h.si.key h.Fv.ok (l:=0) (L:=x.line) (Int.le_refl _) (Int.le_of_eq Af.symm);have e:bD (x.step ([58],[32])).signs=_:=xR h.si.ne;rw[e,if_pos rfl];show _++(fR x.signs x.signs.length (x.line+dl (bE x.last [58] x.gap)) (kO [58] x.level)).toList=_;rw[hg,show kO [58] x.level=0 from Af,show x.line+dl [32]=x.line from u9 _,kq,h.si.keys]
 by_cases q:(aV x.signs).at_ 0 x.line
 ·rw[if_pos q,if_pos q,h.k0];rfl
 ·rw[if_neg q,if_neg q];rfl
theorem At.FU(h:At N z got x ([32],58,[32,122,0]))(hN:N<=1000)(hn:x.signs.length<=80)(Af:x.level=0)(hg:bE x.last [58] x.gap=[32])(hq:¬(aV x.signs).at_ 0 x.line):
  (bD (x.step ([58],[32])).signs).contains 1=false/\Br got 1 z (cH::fl (bD (x.step ([58],[32])).signs) 1 ((cX (x.step ([58],[32])).signs).take ((x.step ([58],[32])).signs.length-2))) (N-4):=by
 have hl:=h.si.len;have Wv:(aV x.signs).c=0:=h.si.c.trans Af;refine Ra (h.Il hN hn Af rfl rfl) fun z0 z1 fP q zs a1 a2 a3 a4 a5 a6 a7 a8 a9 FH Yn FI VB RP=>?_;have hf:zs.aH=0:=a7.rQ.trans Wv;have only:∀l,(aV x.signs).K l≠0->l=0:=fun l h0=>by
  rcases Int.lt_trichotomy l 0 with o|o|o
  ·exact absurd (h.ng l o) h0
  ·exact o
  ·exact absurd (h.Fv.ok.hi l (by rw[Wv];exact o)) h0
 have ek:=xS h Af hg;rw[if_neg hq,w8] at ek;have nk:eE zs.keys zs.aH=none:=Vh fun m=>by
  refine bQ (List.mem_map.mp m) fun kv m1 m2=>?_;refine rB (a7.snd kv m1) fun k1 k2 k3 k4=>?_;rw[m2,hf] at k1 k2 k3;exact hq (fH k1 k2 (k3.symm.trans ((FI kv m1).trans a9)))
 have e:dE 1000 z1=.err .none (kZ zs.buf zs.ptr zs.line zs.col):=a6.trans ((uX hf a8 rfl).trans (Jq hf FH nk));have ep:zs.ptr=N-4:=by
  have:=a7.bd;rw[a8] at this;change zs.ptr+4=N at this;exact(Int.add_sub_cancel ..).symm.trans (congrArg (· -4) this)
 rw[ep] at e;refine⟨?_,fP,1+q,_,_,_,a5 _ _ (eU.err (k:=0) a1 e),?_,r9 ((Nat.add_assoc ..).trans ((v7 ..).trans (congrArg (· +1) ((v7 ..).trans a4))))⟩
 ·rw[ek];have:=h.Fv.ok.nk 0 (by rw[h.k0];decide);rw[h.k0] at this;exact this
 ·rw[ek,Aw h.si,h.si.rows];show _=cH::fl _ 1 ((_++[lJ [58]]).take ((x.signs++[_]).length-2));rw[q6,←hl];show _=cH::fl _ 1 ((_++[lJ [58]]).take (aV x.signs).R.length);rw[List.take_left];have:=Ei.end_ a2 (Yn.symm▸a3) (e:=(aV x.signs).R.length+1) (.inl ⟨rfl,fun l hl=>?_⟩)
  ·rw[this,Nat.add_sub_cancel,List.take_length]
  ·have e0:=only l hl.1;rw[e0,Yn] at hl;exact hq hl
theorem At.FV(h:At N z got x ([32],58,[32,122,0]))(hN:N<=1000)(hn:x.signs.length<=80)(Af:x.level=0)(hg:bE x.last [58] x.gap=[32])(SM:1<=got.length)(hq:(aV x.signs).at_ 0 x.line):
  (bD (x.step ([58],[32])).signs).contains 1=true/\Kk got 6 z ([cH,lB "<block mapping start>"]++fl (bD (x.step ([58],[32])).signs) 1 (cX (x.step ([58],[32])).signs)++[kC (.str "<scalar>") (.str "z") .none,lB "<block end>"]++[lB "<stream end>"]):=by
 have hl:=h.si.len;have Wv:(aV x.signs).c=0:=h.si.c.trans Af;refine Ra (h.Il hN hn Af rfl rfl) fun z0 z1 fP q zs a1 a2 a3 a4 a5 a6 a7 a8 a9 FH Yn FI VB RP=>?_;have fz:=a7.fz (q5 (Nat.le_of_succ_le (q5 (r9 hl) hn)) (aR rfl));have hf:zs.aH=0:=a7.rQ.trans Wv;have ek:=xS h Af hg;rw[if_pos hq] at ek;have ql:=h.k0▸hq.2.1;have only:∀l,(aV x.signs).K l≠0->l=0:=fun l h0=>by
  rcases Int.lt_trichotomy l 0 with o|o|o
  ·exact absurd (h.ng l o) h0
  ·exact o
  ·exact absurd (h.Fv.ok.hi l (by rw[Wv];exact o)) h0
 have mem:=a7.cmp 0 (a9.symm▸hq);have TQ:zs.aH∈zs.keys.map (·.1):=by rw[hf];exact mem
 refine jM (pQ a7.nd TQ) fun k g1 g2 g3=>?_;refine QD (a7.snd _ g2) fun k1 k2 k3 k4 k5 k6 k7=>?_;have kc:k.col=0:=k7 hf;have WR:(aV x.signs).fM ((aV x.signs).K 0)=1:=by rw[h.k0];rfl
 have mi:=a7.min 0 (a9.symm▸hq);rw[WR] at mi;have VG:fP.length=1:=Nat.le_antisymm mi (q5 SM (a4▸x7 _ _));have b9:k.no-zs.taken=0:=by
  change k.no=((aV x.signs).fM ((aV x.signs).K zs.aH):Int) at k4;rw[k4,hf,WR,a7.tk,VG];rfl
 have zl:=a7.len;have YG:=(rP (aV x.signs).keys (aV x.signs).R 1).2;have tl:zs.tokens.length+2<=190:=q5 (Nat.succ_le_succ (Nat.succ_le_succ (q5 (q5 (Nat.le_add_left _ _) (r9 zl)) (t9 (q5 YG (Nat.mul_le_mul_left 2 (Nat.le_of_succ_le_succ (q5 (r9 hl) hn)))) 1)))) (aR rfl);obtain⟨e,he⟩:=xC fz hf a7.ind a7.oW g1 (Int.le_of_eq kc.symm) b9 (q5 tl (aR rfl)) a8;have e6:=a6.trans ((uX hf a8 rfl).trans he);have kd:cA zs.keys zs.aH=[]:=List.filter_eq_nil_iff.mpr fun kv hk=>by
  have:=only kv.1 (a7.snd kv hk).1;rw[this,hf];decide
 rw[kd,kc] at e6;generalize hT:(tk 314 (k.mark zs.buf) (k.mark zs.buf)::tk 386 (k.mark zs.buf) (k.mark zs.buf)::zs.tokens++[tk 398 zs.mark e])=T at e6;have Tl:T.length=zs.tokens.length+3:=by rw[←hT,q6];rfl
 have pos:=a7.ps h.n0;obtain⟨p,c,e',m',f1,f2,f3⟩:=Zj (z:={zs with allow:=false,keys:=[],indent:=0,aO:=[-1],ptr:=zs.ptr+1,rem:=[32,122,0],col:=zs.col+1,tokens:=[],taken:=zs.taken+T.length}) rfl rfl (Int.ne_of_gt (Int.lt_trans pos (Int.lt_succ _))) hf rfl (Int.le_trans RP (Int.le_of_lt (Int.lt_succ _))) rfl rfl
 obtain⟨c2,p2,f4⟩:=Zi (z:={zs with allow:=false,keys:=[],indent:=0,aO:=[-1],ptr:=p,rem:=[0],col:=c,tokens:=[],taken:=zs.taken+T.length+((1:Nat):Int)}) rfl rfl (by change 0<p-(zs.ptr+1) at f3;show p≠0;exact Int.ne_of_gt (Int.lt_trans (Int.lt_trans pos (Int.lt_succ _)) (Int.lt_of_sub_pos f3))) hf rfl rfl f2 rfl
 have r5:=Tc [tk 326 (kZ zs.buf p2 zs.line c2) (kZ zs.buf p2 zs.line c2),tk 290 (kZ zs.buf p2 zs.line c2) (kZ zs.buf p2 zs.line c2)] (z:={zs with keys:=[],ptr:=p2,rem:=[0],col:=c2,indent:=-1,aO:=[],allow:=false,tokens:=[tk 326 (kZ zs.buf p2 zs.line c2) (kZ zs.buf p2 zs.line c2),tk 290 (kZ zs.buf p2 zs.line c2) (kZ zs.buf p2 zs.line c2)],done:=true,taken:=zs.taken+T.length+((1:Nat):Int)}) (got:=fP++T++[yP (sv [122]) true m' e' .none]) rfl (by show 2<=1000;decide) rfl
 have r4:=eU.more (jV (by exact a7.dn) (by rfl)) f4 r5;have r3:=Td [yP (sv [122]) true m' e' .none] (z:={zs with keys:=[],allow:=false,indent:=0,aO:=[-1],ptr:=p,rem:=[0],col:=c,tokens:=[yP (sv [122]) true m' e' .none],taken:=zs.taken+T.length}) (got:=fP++T) rfl (by show 1<=200;decide) a7.dn rfl _ _ r4
 have r2:=eU.more (jV (by exact a7.dn) (by rfl)) f1 r3;have r1:=Td T (z:={zs with allow:=false,keys:=[],indent:=0,aO:=[-1],ptr:=zs.ptr+1,rem:=[32,122,0],col:=zs.col+1,tokens:=T}) (got:=fP) rfl (q5 (r9 Tl) (q5 (Nat.succ_le_succ tl) (aR rfl))) a7.dn rfl _ _ r2
 refine⟨?_,_,_,a5 _ _ (eU.more a1 e6 r1),?_,?_⟩
 ·rw[ek,s9];exact q7 _ (.head _)
 ·have c1:(aV x.signs).keys.contains 1=false:=by
   have:=h.Fv.ok.nk 0 (by rw[h.k0];decide);rw[h.k0] at this;exact this
  have ins:=Tp (keys:=(aV x.signs).keys) (R:=(aV x.signs).R) (k:=1) (aR rfl) ql c1 cH;have TZ:fM (aV x.signs).keys (aV x.signs).R 1=1:=rfl;rw[TZ,List.take_succ_cons,List.drop_succ_cons,List.take_zero,List.drop_zero] at ins;have ins:fl ((aV x.signs).keys++[1]) 1 (aV x.signs).R=lH::fl (aV x.signs).keys 1 (aV x.signs).R:=(List.cons.inj ins).2;have XX:((aV x.signs).keys++[1]).contains (1+(aV x.signs).R.length)=false:=by
   rw[iG _ _ _ (by have:=h.n0;exact fun e=>this (Nat.add_left_cancel (e.trans (Nat.add_zero 1).symm)))];exact h.Fv.ok.fresh (by rw[v7];exact x9 _)
  rw[ek,Aw h.si,h.si.rows,kL,jR,XX,ins];obtain⟨g0,eg⟩:=List.length_eq_one_iff.mp VG;have tk:=a7.toks;rw[eg,List.singleton_append,List.map_cons] at tk;obtain⟨fN,iC⟩:=List.cons.inj tk;have eT:T.map dG=lB "<block mapping start>"::lH::(fl (aV x.signs).keys 1 (aV x.signs).R++[lJ [58]]):=by
   rw[←hT,u6,List.map_cons,List.map_cons,iC];rfl
  rw[u6,u6,u6,eT,eg,List.map_singleton,fN];simp only[List.cons_append,List.nil_append,r7]
  rfl
 ·simp only[q6,List.length_singleton,List.length_cons,List.length_nil]
  lia
end
end
section
open PySem
theorem uE(n:Int):jH n∈hY:=by
 have h:(n % 14).toNat<hY.length:=by show _<14;exact(Int.toNat_lt (Int.emod_nonneg _ (aR rfl))).mpr (Int.emod_lt_of_pos _ (aR rfl))
 unfold jH;rw[x8,List.getElem?_eq_getElem h];exact List.getElem_mem h
noncomputable def uJ(i depth:Nat):List Nat:=
 if aY.contains (uK.getD i [])&&depth==4||bU.contains (uK.getD i [])&&depth==1 then[44] else uK.getD i []
theorem Pj:∀d,d<4->∀i,i<18->uJ i (d+1)∈gO/\1<=wZ (uJ i (d+1)) (d+1)/\wZ (uJ i (d+1)) (d+1)<=4/\mP (uJ i (d+1)) ((d+1:Nat):Int)=(wZ (uJ i (d+1)) (d+1):Nat):=by decide+kernel
noncomputable def lN(row:List Pr)(c:Int):Int:=row.foldl (fun c p=>mP p.1 c) c
theorem sY:∀(ns:List Int) (d:Nat),1<=d->d<=4->jE (gB ns d)/\rT d (gB ns d)/\1<=cP ns d/\cP ns d<=4/\lN (gB ns d) d=cP ns d/\(gB ns d).length=ns.length:=by
 intro eN;induction eN with
 |nil=>
  intro d h1 h2;exact(JV (fun _ h=>(nomatch h)) trivial h1 h2 rfl rfl)
 |cons n ns ih=>
  intro d h1 h2;obtain⟨e,rfl⟩:∃e,d=e+1:=⟨d-1,(Nat.sub_add_cancel h1).symm⟩;refine rB (Pj e (h2) (n % 18).toNat ((Int.toNat_lt (Int.emod_nonneg _ (aR rfl))).mpr (Int.emod_lt_of_pos _ (aR rfl)))) fun k1 k2 k3 k4=>?_;refine Qy (ih (wZ (oY n (e+1)) (e+1)) k2 k3) fun i1 i2 i3 i4 i5 i6=>?_;refine(JV (fun p hp=>?_) ⟨Int.natCast_pos.mpr (Nat.zero_lt_succ _),?_⟩ i3 i4 ?_ (congrArg (· +1) i6))
  ·rcases s8.mp hp with q|hp
   ·rw[q];exact⟨k1,uE _⟩
   ·exact i1 p hp
  ·rw[show mP (oY n (e+1),jH (n/18)).1 ((e+1:Nat):Int)=_ from k4];exact i2
  ·show lN (gB ns _) (mP (uJ (n % 18).toNat (e+1)) _)=_;rw[k4];exact i5
theorem Ge:∀{r1 r2:List Pr} {c:Int},rT c r1->rT (lN r1 c) r2->rT c (r1++r2)
 |[],_,_,_,h=>h
 |p::r1,_,_,h1,h2=>⟨h1.1,Ge h1.2 h2⟩
theorem Su:∀d:Nat,rT d (List.replicate d (([93],[32]):Pr))/\lN (List.replicate d (([93],[32]):Pr)) d=0:=by
 intro eN;induction eN with
 |zero=>
  exact⟨trivial,rfl⟩
 |succ d ih=>
  have e:mP [93] ((d+1:Nat):Int)=(d:Nat):=by show((d+1:Nat):Int)-1=_;exact Int.add_sub_cancel (d:Int) 1
  obtain⟨i1,i2⟩:=ih;refine⟨⟨Int.natCast_pos.mpr (Nat.zero_lt_succ _),?_⟩,?_⟩
  ·show rT (mP [93] _) _;rw[e];exact i1
  ·show lN (List.replicate d _) (mP [93] _)=0;rw[e];exact i2
theorem Am:∀(row:List Pr) (x:LS),(row.foldl LS.step x).level=lN row x.level
 |[],_=>rfl
 |p::row,x=>Am row (x.step p)
theorem Je:∀(d:Nat) (x:LS),(List.replicate (d+1) (([93],[32]):Pr)).foldl LS.step x=((List.replicate d (([93],[32]):Pr)).foldl LS.step x).step ([93],[32]):=fun d x=>by
 rw[List.replicate_succ',List.foldl_append];rfl
theorem uL:∀(row:List Pr) (x:LS),(row.foldl LS.step x).signs.length=x.signs.length+row.length
 |[],_=>rfl
 |p::row,x=>by
  rw[List.foldl_cons,uL row (x.step p)];show(x.signs++[_]).length+_=_+(row.length+1);rw[q6];show x.signs.length+1+_=_;exact Nat.add_right_comm ..
noncomputable def Ss(l:List Nat):Bool:=l.all zG&&decide (l.length<=5)
theorem qD:∀s∈gO,∀s'∈CH,∀b∈hY,Ss (bE s s' b)=true:=by decide+kernel
theorem rW:∀s∈gO,Ss s=true:=by decide+kernel
theorem kK{l:List Nat}(h:Ss l=true):(∀c∈l,zG c=true)/\l.length<=5:=
 have k:=(q9 _ _).mp h
 ⟨u5.mp k.1,r8 k.2⟩
def Qw(x:LS)(n:Nat):Prop:=(∀c∈x.text,zG c=true)/\x.text.length<=n/\x.last∈gO/\x.gap∈hY
theorem zX:∀(row:List Pr) (x:LS) (n:Nat),jE row->Qw x n->Qw (row.foldl LS.step x) (n+10 * row.length):=by
 intro eN;induction eN with
 |nil=>
  intro _ _ _ h;exact h
 |cons p row ih=>
  intro x n hr h;refine rB h fun h1 h2 h3 h4=>?_;have hp:=hr p (.head _);obtain⟨g1,g2⟩:=kK (qD x.last h3 p.1 (.tail _ hp.1) x.gap h4);obtain⟨s1,s2⟩:=kK (rW p.1 hp.1);have:=ih (x.step p) (n+10) (fun q hq=>hr q (.tail _ hq)) ⟨fun c hc=>?_,?_,hp.1,hp.2⟩
  ·rw[show n+10 * (p::row).length=n+10+10 * row.length by rw[List.length_cons];exact(congrArg (n+ ·) ((Nat.mul_succ 10 _).trans (v7 ..))).trans (Nat.add_assoc ..).symm];exact this
  ·rcases List.mem_append.mp hc with hc|hc
   ·rcases List.mem_append.mp hc with hc|hc
    ·exact h1 c hc
    ·exact g1 c hc
   ·exact s1 c hc
  ·show(x.text++bE x.last p.1 x.gap++p.1).length<=_;rw[q6,q6];exact q5 (Nat.add_le_add (Nat.add_le_add h2 g2) s2) (r9 (Nat.add_assoc n 5 5))
noncomputable def GD(s b:List Nat):Nx:=(bE s [58] b,58,[32,122,0])
noncomputable def RW(s b:List Nat):Nx:=(bE s [64] b,64,[0])
noncomputable def fin2(s b:List Nat):Nx:=([],0,[])
theorem Zk:wJ GD:=fun s hs b hb=>by
 have k:=Ja s hs [58] (aR rfl) b hb;exact⟨k.1,k.2,fun _=>rfl,rfl⟩
theorem Zl:wJ RW:=fun s hs b hb=>by
 have k:=Ja s hs [64] (aR rfl) b hb;exact⟨k.1,k.2,fun e=>(nomatch e),rfl⟩
theorem Ll:wJ fin2:=fun s hs b hb=>by
 have k:∀s∈gO,Qj s [] 0=true:=by decide
 exact⟨(by decide:(([],0):List Nat×Int)∈gX),k s hs,fun e=>(nomatch e),rfl⟩
theorem zZ{got:List V}:mK 1000 1000 z got=Ze 1000 999 z got:=rfl
theorem fS{fin:List Nat->List Nat->Nx}(Ck:wJ fin){s b:List Nat}(hs:s∈aY)(hb:b∈hY)(hr:jE row)(hl:rT 1 row)(hn:row.length<=30)
  (hT:text++[0]=(row.foldl LS.step (LS.init.step (s,b))).text++(fin (row.foldl LS.step (LS.init.step (s,b))).last (row.foldl LS.step (LS.init.step (s,b))).gap).txt) (hN:text.length+1<=1000):
  ∃zE jS k,At (text.length+1) zE jS (row.foldl LS.step (LS.init.step (s,b))) (fin (row.foldl LS.step (LS.init.step (s,b))).last (row.foldl LS.step (LS.init.step (s,b))).gap)/\k<=jS.length+40/\1<=jS.length/\∀j r,eU j zE jS r->eU (j+k) (Z.init text) [] r:=by
 have k:∀s∈aY,s∈gO/\bE [91] s []=[]/\aY.contains s=true/\bU.contains s=false:=by decide
 refine rB (k s hs) fun k1 k2 k3 k4=>?_;have et:(LS.init.step (s,b)).text=s:=by
  show[]++bE [91] s []++s=s;rw[k2];rfl
 have el:(LS.init.step (s,b)).level=1:=by
  show(if aY.contains s then kO s 0+1 else _)=1;unfold kO;rw[k3,k4];rfl
 have tr:=Mm (fin:=fin) row (LS.init.step (s,b)) hr;rw[et,←hT] at tr;refine bQ (Pw (b:=b) hs (uG Ck hr k1 hb) tr.symm) fun z1 a1 a2=>?_;obtain⟨zE,jS,q,b1,b2,gl,b3⟩:=BL Ck (N:=text.length+1) (Int.lt_of_lt_of_le (Int.ofNat_lt.mpr hN) (aR rfl)) row (LS.init.step (s,b)) z1 [Kc text] hr (by rw[el];exact hl) a1 (by show 2+_<=80;exact q5 (t9 hn _) (aR rfl));refine(pF zE jS (q+2) b1 ?_ gl (fun j r hr=>?_))
 ·change 1+q=jS.length+row.length at b2;exact q5 (Nat.succ_le_succ (q5 (r9 ((v7 ..).trans b2)) (t9 hn _))) (t9 (by decide:31<=40) _)
 ·rw[←Nat.add_assoc];exact a2 _ _ (b3 _ _ hr)
theorem Qc(row:List Pr)(s b:List Nat):(row.foldl LS.step (LS.init.step (s,b))).signs.length=row.length+2:=by
 rw[uL,v7];rfl
structure mG(y:Lw)(r:List V×Option (V×V)):Prop where
 zG:∀c∈y.text,zG c=true
 len:y.text.length<=900
 run:mK 1000 1000 (Z.init y.text) []=some r
 tell:r.1.map dG=y.fX
 fin:(y.place=none/\r.2=none)\/∃p b l c,y.place=some p/\r.2=some (.none,kZ b (p:Int) l c)
theorem Au{k g n q G:Nat}(hk:k<=g+40)(hn:n<=10)(hd:d<=300)(h3:q+g<=G+n)(l:G=d):q+k<=999:=q5 (t9 hk q) (q5 (r9 (Nat.add_assoc ..).symm) (q5 (Nat.add_le_add_right (q5 h3 (Nat.add_le_add (q5 (r9 l) hd) hn)) 40) (aR rfl)))
theorem yA{got fX:List V}{n k:Nat}(h:Kk got n z fX)(hk:k<=got.length+40)(hn:n<=10)(hd:fX.length<=300)(hr:∀j r,eU j z got r->eU (j+k) (Z.init text) [] r):∃r,mK 1000 1000 (Z.init text) []=some r/\r.1.map dG=fX/\r.2=none:=by
 refine Ms h fun jS q h1 h2 h3=>?_;have l:=congrArg List.length h2;rw[t7] at l;exact(tS _ (zZ.trans ((hr _ _ h1).Ze (w9 (Au hk hn hd h3 l)) 1000 999 (w9 (Au hk hn hd h3 l)) (Au hk hn hd h3 l))) h2 rfl)
theorem yB{got fX:List V}{n k:Nat}{p:Int}(h:Br got n z fX p)(hk:k<=got.length+40)(hn:n<=10)(hd:fX.length<=300)(hr:∀j r,eU j z got r->eU (j+k) (Z.init text) [] r):∃r b l c,mK 1000 1000 (Z.init text) []=some r/\r.1.map dG=fX/\r.2=some (.none,kZ b p l c):=by
 refine QI h fun jS q b l c h1 h2 h3=>?_;have l:=congrArg List.length h2;rw[t7] at l;exact(JX _ _ _ _ (zZ.trans ((hr _ _ h1).Ze (w9 (Au hk hn hd h3 l)) 1000 999 (w9 (Au hk hn hd h3 l)) (Au hk hn hd h3 l))) h2 rfl)
end
structure W2 where
 n:LV
 sign:LV
 behind:LV
 bN:LV
 first:LV
 wide:LV
noncomputable def W2.ok(w:W2):Bool:=w.n.free&&(w.sign.free&&(w.behind.free&&(w.bN.free&&(w.first.free&&w.wide.free))))
noncomputable def lw(w:W2)(script head dD row depth text signs line level last gap place keys end_ fX BM got refused token fault:LV):aM:=
 [("script",script),("head",head),("ending",dD),("row",row),("depth",depth),("n",w.n),("sign",w.sign),("text",text),("signs",signs),("line",line),("level",level),("last",last),("gap",gap),("place",place),("behind",w.behind),("keys",keys),("spot",w.bN),("first",w.first),("end",end_),("wide",w.wide),("due",fX),("scanner",BM),("got",got),("refused",refused),("token",token),("fault",fault)]
noncomputable def vC(p:Pr):V:=.tup [sv p.1,sv p.2]
theorem Cd{n d k:Int}(hk:0<k):0<=n/d % k/\n/d % k<k:=⟨Int.emod_nonneg _ (Int.ne_of_gt hk),Int.emod_lt_of_pos _ hk⟩
theorem Iv{i:Int}(h0:0<=i)(h1:i<100):fitsSsize i=true:=by
 exact CO h0 (Int.lt_trans h1 (aR rfl))
theorem Zx{l:List (List Nat)}{i:Nat}(h:i<l.length):(l.map sv)[i]?=some (sv (l.getD i [])):=by
 rw[List.getElem?_map,x8,List.getElem?_eq_getElem h];rfl
section
variable{C:Cx}{X:eZ}{l:aM}
def FC(tab:List (List Nat))(Q:tU)(v:V)(l:aM)(s:bX):Prop:=∀Ω:Prop,(∀(n:Int) (ev:v=.int n) (h0:0<=n) (h1:n<tab.length) (h2:tab.length<=1000) (h:Q (sv (tab.getD n.toNat [])) l s),Ω)->Ω
theorem FC.mk{tab:List (List Nat)}{v:V}{l:aM}{s:bX}(n:Int)(ev:v=.int n)(h0:0<=n)(h1:n<tab.length)(h2:tab.length<=1000)(h:Q (sv (tab.getD n.toNat [])) l s):FC tab Q v l s:=fun U φ=>φ n ev h0 h1 h2 h
theorem Hv{tab:List (List Nat)}{ix:Expr}{p1 p2:Pos}(hh:C.A.handled=Option.none)(fw:∀{σ:bX} {X:nA} {Q:mF},Q (.lst (tab.map sv)) σ->FW g 0 ρ X f [] σ Q)(df:Ki g f)(e:nsIn g.K mainGlobals x=some (some (.ref f)))(hx:C.cs.names.lookup x=some .globalImplicit)(hd:(x==("__debug__":Str))=false)
  (hs:∀a i u,subscripted ix false (.ref a) (.int i u)=operate [.ref a,.int i u] (getItem (.ref a) (.int i u)))
  (h:EW g 10 C ρ X ix l σ (FC tab Q)):EW g 10 C ρ X (.Subscript (.Call (.Name x p) [] [] p1) ix p2) l σ Q:=by
 refine Bl hs (gY (D':=0) hh df (aR rfl) rfl (cR e hx hd ⟨rfl,fw (h.mono fun v l s h=>?_)⟩));refine h _ ?_;clear h
 rintro n rfl h0 h1 h2 hq
 have hn:n.toNat<tab.length:=(Int.toNat_lt h0).mpr h1;exact(.mk _ n.toNat _ (.inl rfl) (by rw[Int.toNat_of_nonneg h0]) (Zx hn) (Nat.lt_of_lt_of_le hn (q5 h2 (aR rfl))) hq)
end
section
variable{g:Gl}{ρ:dN}{C:Cx}{σ:bX}
def NJ(script head dD:LV)(R:List Pr)(Dp:Nat)(vs:List V)(l:aM)(s:bX):Prop:=∀Ω:Prop,(∀(rs:List Int) (row:List Pr) (d:Nat) (w:W2) (e:vs=rs.map V.int) (el:l=lw w script head dD (.ml (row.map vC)) (.val (.int d)) .un .un .un .un .un .un .un .un .un .un .un .un .un .un .un) (es:s=none) (hw:w.ok=true) (hR:row++gB rs d=R) (hD:cP rs d=Dp) (d1:1<=d) (d4:d<=4) (hl:row.length+rs.length<=12),Ω)->Ω
theorem NJ.mk{script head dD:LV}{R:List Pr}{Dp:Nat}{l:aM}{s:bX}(rs:List Int)(row:List Pr)(d:Nat)(w:W2)(e:vs=rs.map V.int)(el:l=lw w script head dD (.ml (row.map vC)) (.val (.int d)) .un .un .un .un .un .un .un .un .un .un .un .un .un .un .un)(es:s=none)(hw:w.ok=true)(hR:row++gB rs d=R)(hD:cP rs d=Dp)(d1:1<=d)(d4:d<=4)(hl:row.length+rs.length<=12):NJ script head dD R Dp vs l s:=fun U φ=>φ rs row d w e el es hw hR hD d1 d4 hl
noncomputable def nB:List Stmt:=tM (top 42).body 4 0
theorem sO{k:Nat}:((d:Int)==(k:Int))=(d==k):=by
 rw[Bool.eq_iff_iff,beq_iff_eq,beq_iff_eq];exact Int.ofNat_inj
theorem Jk{s:List Nat}(h:aY.contains s=true):bU.contains s=false:=
 (by decide:∀s∈aY,bU.contains s=false) s (s9.mp h)
section
variable{script head dD:LV}{n:Int}{row:List Pr}{d:Nat}{s:List Nat}{w:W2}{P:aM->bX->Prop}{Q:eM}
theorem n4(LF:iM g)(B:Bd C (top 42))(hr:row.length<=12)(hn:w.n=.val (.int n))(hs:w.sign=.val (sv s))(h:P (lw w script head dD (.ml ((row++[(s,jH (n/18))]).map vC)) (.val (.int d)) .un .un .un .un .un .un .un .un .un .un .un .un .un .un .un) none):
  SW g 10 C ρ (fun U U U=>False) (nB.drop 4) (lw w script head dD (.ml (row.map vC)) (.val (.int d)) .un .un .un .un .un .un .un .un .un .un .un .un .un .un .un) none (pH P Q):=by
 obtain⟨n_,nH,eQ,jJ,fY,jK⟩:=w;cases hn;cases hs;obtain⟨m0,m1⟩:=Cd (n:=n) (d:=18) (k:=14) (aR rfl);refine aA rfl (cJ (B.int rfl) rfl (cF (B.loc (x:="row") rfl rfl) (aN 3 rfl) ⟨_,rfl⟩ rfl (eW rfl (aE B 6 rfl rfl rfl (Hv B.hh (Ln LF) (LF.k 2 rfl) (LF.gl 2 rfl) (B.glob rfl) rfl (fun U U U=>rfl) (sD (Bj (aE B 5 rfl rfl rfl (aQ (.mk _ _ rfl rfl (aR rfl) (aR rfl) (aQ (.mk _ _ rfl rfl (aR rfl) (aR rfl) (.mk _ rfl m0 m1 (aR rfl) ⟨(by decide:(2:Nat)<=sizeLine),_,_,aN 3 rfl,by rw[t7];exact q5 hr (aR rfl),.cM 3 rfl rfl,rfl,aC ?_⟩)))))))))))));rw[u6] at h;exact h
theorem n2(LF:iM g)(B:Bd C (top 42))(hr:row.length<=12)(hn:w.n=.val (.int n))(hs:w.sign=.val (sv s))(h1:1<=d)(h:P (lw w script head dD (.ml ((row++[(s,jH (n/18))]).map vC)) (.val (.int (wZ s d:Nat))) .un .un .un .un .un .un .un .un .un .un .un .un .un .un .un) none):
  SW g 10 C ρ (fun U U U=>False) (nB.drop 2) (lw w script head dD (.ml (row.map vC)) (.val (.int d)) .un .un .un .un .un .un .un .un .un .un .un .un .un .un .un) none (pH P Q):=by
 have SQ:=hn;have WE:=hs;have fin:=fun(d:Nat)=> @n4 g ρ C script head dD n row d s w P Q LF B hr hn hs;obtain⟨n_,nH,eQ,jJ,fY,jK⟩:=w;cases hn;cases hs;unfold wZ at h;refine aA rfl (aW rfl (gR false rfl rfl (aE B 6 rfl rfl rfl (eW rfl (aB (aB ⟨by decide,tJ.s aY rfl ?_⟩))))));rw[Bool.false_bne];have three:∀d':Nat,1<=d'->P (lw ⟨.val (.int n),.val (sv s),eQ,jJ,fY,jK⟩ script head dD (.ml ((row++[(s,jH (n/18))]).map vC)) (.val (.int ((if bU.contains s=true then d'-1 else d'):Nat))) .un .un .un .un .un .un .un .un .un .un .un .un .un .un .un) none->
   SW g 10 C ρ (fun U U U=>False) (nB.drop 3) (lw ⟨.val (.int n),.val (sv s),eQ,jJ,fY,jK⟩ script head dD (.ml (row.map vC)) (.val (.int d')) .un .un .un .un .un .un .un .un .un .un .un .un .un .un .un) none (pH P Q):=fun d' CQ h=>by
  refine aA rfl (aW rfl (gR false rfl rfl (aE B 6 rfl rfl rfl (eW rfl (aB (aB ⟨by decide,tJ.s bU rfl ?_⟩))))));rw[Bool.false_bne];cases hc:bU.contains s with
  |false=>rw[hc] at h;exact .p2 (aC (fin d' h))
  |true=>
   rw[hc,if_pos rfl] at h;have e:((d':Int)-1)=((d'-1:Nat):Int):=(Int.ofNat_sub CQ).symm;exact .p1 (aA rfl (nZ (B.loc (x:="depth") rfl rfl).1 (aN 4 rfl) (aQ ⟨_,rfl,_,.cM 4 rfl rfl,by rw[e];exact aC (fin (d'-1) h)⟩)))
 cases ho:aY.contains s with
 |false=>rw[ho] at h;exact .p2 (aC (three d h1 h))
 |true=>
  rw[ho,if_pos rfl] at h;exact .p1 (aA rfl (iD (B.loc (x:="depth") rfl rfl).1 (aN 4 rfl) (aQ ⟨_,rfl,_,.cM 4 rfl rfl,aC (three (d+1) (Nat.le_add_left 1 d) (by rw[Jk ho];exact h))⟩)))
theorem n0(LF:iM g)(B:Bd C (top 42))(hr:row.length<=12)(hn:w.n=.val (.int n))(h1:1<=d)(h:P (lw {w with sign:=.val (sv (oY n d))} script head dD (.ml ((row++[(oY n d,jH (n/18))]).map vC)) (.val (.int (wZ (oY n d) d:Nat))) .un .un .un .un .un .un .un .un .un .un .un .un .un .un .un) none):
  SW g 10 C ρ (fun U U U=>False) nB (lw w script head dD (.ml (row.map vC)) (.val (.int d)) .un .un .un .un .un .un .un .un .un .un .un .un .un .un .un) none (pH P Q):=by
 obtain⟨n_,nH,eQ,jJ,fY,jK⟩:=w;cases hn;have m0:0<=n % 18:=Int.emod_nonneg _ (aR rfl);have m1:n % 18<18:=Int.emod_lt_of_pos _ (aR rfl);refine aA rfl (aD rfl (B.loc (x:="sign") rfl rfl).1 (Hv B.hh (Ts LF) (LF.k 0 rfl) (LF.gl 0 rfl) (B.glob rfl) rfl (fun U U U=>rfl) (sD (aE B 5 rfl rfl rfl (aQ (.mk _ _ rfl rfl (aR rfl) (aR rfl) (.mk _ rfl m0 m1 (aR rfl) ⟨_,.cM 6 rfl rfl,?_⟩)))))));have go:=fun s=> @n2 g ρ C script head dD n row d s ⟨.val (.int n),.val (sv s),eQ,jJ,fY,jK⟩ P Q LF B hr rfl rfl h1;revert h;unfold oY;generalize uK.getD (n % 18).toNat []=s;intro h;refine aA rfl (aW rfl (gS (cV (gR false rfl rfl (aE B 6 rfl rfl rfl (eW rfl (aB (aB ⟨by decide,tJ.s aY rfl ?_⟩))))))));rw[Bool.false_bne];have yes:(aY.contains s&&d==4||bU.contains s&&d==1)=true->SW g 10 C ρ (fun U U U=>False) (k0 (vN (nB.drop 1))) (lw ⟨.val (.int n),.val (sv s),eQ,jJ,fY,jK⟩ script head dD (.ml (row.map vC)) (.val (.int d)) .un .un .un .un .un .un .un .un .un .un .un .un .un .un .un) none (lQ g 10 C ρ (fun U U U=>False) (nB.drop 2) (pH P Q)):=fun e=>by
  have h:P (lw ⟨_,.val (sv (if(aY.contains s&&d==4||bU.contains s&&d==1)=true then[44] else s)),_,_,_,_⟩ _ _ _ (.ml ((row++[((if(aY.contains s&&d==4||bU.contains s&&d==1)=true then[44] else s),jH (n/18))]).map vC)) (.val (.int (wZ (if(aY.contains s&&d==4||bU.contains s&&d==1)=true then[44] else s) d:Nat))) _ _ _ _ _ _ _ _ _ _ _ _ _ _ _) none:=h;rw[if_pos e] at h;exact aA rfl (aD rfl (B.loc (x:="sign") rfl rfl).1 (aB ⟨_,.cM 6 rfl rfl,aC (go _ h)⟩))
 have no:(aY.contains s&&d==4||bU.contains s&&d==1)=false->SW g 10 C ρ (fun U U U=>False) (Internal.k1 (vN (nB.drop 1))) (lw ⟨.val (.int n),.val (sv s),eQ,jJ,fY,jK⟩ script head dD (.ml (row.map vC)) (.val (.int d)) .un .un .un .un .un .un .un .un .un .un .un .un .un .un .un) none (lQ g 10 C ρ (fun U U U=>False) (nB.drop 2) (pH P Q)):=fun e=>by
  have h:P (lw ⟨_,.val (sv (if(aY.contains s&&d==4||bU.contains s&&d==1)=true then[44] else s)),_,_,_,_⟩ _ _ _ (.ml ((row++[((if(aY.contains s&&d==4||bU.contains s&&d==1)=true then[44] else s),jH (n/18))]).map vC)) (.val (.int (wZ (if(aY.contains s&&d==4||bU.contains s&&d==1)=true then[44] else s) d:Nat))) _ _ _ _ _ _ _ _ _ _ _ _ _ _ _) none:=h;rw[if_neg (Bool.eq_false_iff.mp e)] at h;exact aC (go _ h)
 have second:(aY.contains s&&d==4)=false->BW g 10 C ρ (fun U U U=>False) (.BoolOp .Or ((LP (vI (vN (nB.drop 1)))).tail) ((vI (vN (nB.drop 1))).pos)) (lw ⟨.val (.int n),.val (sv s),eQ,jJ,fY,jK⟩ script head dD (.ml (row.map vC)) (.val (.int d)) .un .un .un .un .un .un .un .un .un .un .un .un .un .un .un) none (yT g 10 C ρ (fun U U U=>False) (k0 (vN (nB.drop 1))) (Internal.k1 (vN (nB.drop 1))) (lQ g 10 C ρ (fun U U U=>False) (nB.drop 2) (pH P Q))):=fun e=>by
  rw[e,Bool.false_or] at yes no;refine iS (cV (gR false rfl rfl (aE B 6 rfl rfl rfl (eW rfl (aB (aB ⟨by decide,tJ.s bU rfl ?_⟩))))));rw[Bool.false_bne];cases hc:bU.contains s with
  |false=>rw[hc] at no;exact .p1 (.p2 (no rfl))
  |true=>
   rw[hc,Bool.true_and] at yes no;refine .p2 (eP (aL rfl (aE B 4 rfl rfl rfl (aQ ?_))));show yT g 10 C ρ _ _ _ _ ((d:Int)==((1:Nat):Int)) _ _;rw[sO];exact⟨yes,no⟩
 cases ho:aY.contains s with
 |false=>
  rw[ho,Bool.false_and] at second;exact .p1 (.p2 (second rfl))
 |true=>
  rw[ho,Bool.true_and] at second yes;refine .p2 (eP (aL rfl (aE B 4 rfl rfl rfl (aQ ?_))));show Bq g 10 C ρ _ _ _ ((d:Int)==((4:Nat):Int)) _ _;rw[sO];cases hd:d==4 with
  |true=>rw[hd,Bool.true_or] at yes;exact .p1 (.p1 (yes rfl))
  |false=>exact .p2 (second hd)
end
end
theorem Fh{α:Type}(x:α):∀n:Nat,(List.replicate n [x]).flatten=List.replicate n x:=by
 intro eN;induction eN with
 |zero=>
  exact rfl
 |succ n ih=>
  exact by rw[List.replicate_succ,List.replicate_succ,List.flatten_cons,ih];rfl
section
variable{C:Cx}
theorem cS{D:Nat}{loc:aM}{b:List Stmt}(e:b=vN b::b.tail)(h:kA g D C ρ (fun U U U=>False) (vN b) loc σ (Rp g D C ρ b.tail)):mE g D C ρ (execs b C.env) loc σ:=by
 rw[e];exact Rq h
noncomputable def dC:List Stmt:=(top 42).body
noncomputable abbrev Lz(w:W2)(script:LV)(head e:Int)(row:List Pr)(d:Int):aM:=lw w script (.val (.int head)) (.val (.int e)) (.ml (row.map vC)) (.val (.int d)) .un .un .un .un .un .un .un .un .un .un .un .un .un .un .un
def KG(g:Gl)(C:Cx)(ρ:dN)(script:LV)(ns:List Int):Prop:=∀(w:W2) (d:Int),w.ok=true->(ns.headD 0 % 4=1->d=cP (jX ns) 1)->
 mE g 10 C ρ (execs (dC.drop 7) C.env) (Lz w script (ns.headD 0) (ns.headD 0 % 4) (jY (ns.headD 0 % 4) (cP (jX ns) 1) ((lA (ns.headD 0),jH (ns.headD 0/8))::gB (jX ns) 1)) d) none
section
variable{script:LV}{head e:Int}
theorem a6(B:Bd C (top 42)){d:Int}(hl:row.length<=20)(h:mE g 10 C ρ (execs (dC.drop 7) C.env) (Lz w script head e (row++(if e=0 then[([58],[32])] else[])) d) none):mE g 10 C ρ (execs (dC.drop 6) C.env) (Lz w script head e row d) none:=by
 refine cS rfl (aW rfl (aL rfl (aE B 2 rfl rfl rfl (aQ ?_))));show yT g 10 C ρ _ _ _ _ (decide (e=0)) _ _
 by_cases h0:e=0
 ·rw[u7 h0];rw[if_pos h0] at h;refine .p1 (aA rfl (cJ (B.int rfl) rfl (cF (B.loc (x:="row") rfl rfl) (aN 3 rfl) ⟨_,rfl⟩ rfl (eW rfl (aB (aB ⟨(by decide:(2:Nat)<=sizeLine),_,_,aN 3 rfl,by rw[t7];exact q5 hl (aR rfl),.cM 3 rfl rfl,rfl,aC ⟨rfl,?_⟩⟩))))));rw[Lz,u6] at h;exact h
 ·rw[u0 h0];rw[if_neg h0,w8] at h;exact .p2 (aC ⟨rfl,h⟩)
theorem a5(B:Bd C (top 42))(hl:row.length<=12)(d4:d<=4)(h:∀d':Int,(e=1->d'=d)->mE g 10 C ρ (execs (dC.drop 7) C.env) (Lz w script head e (jY e d row) d') none):mE g 10 C ρ (execs (dC.drop 5) C.env) (Lz w script head e row d) none:=by
 unfold jY at h;have yes:e=0\/e=3->SW g 10 C ρ (fun U U U=>False) (k0 (vN (dC.drop 5))) (Lz w script head e row d) none (Rp g 10 C ρ (dC.drop 6)):=fun he=>by
  have h:=h 0 (fun e1=>he.elim (fun h=>absurd (h.symm.trans e1) (aR rfl)) fun h=>absurd (h.symm.trans e1) (aR rfl));rw[if_pos he] at h;refine aA rfl (zP (B.loc (x:="row") rfl rfl) (aN 3 rfl) (Xp (sF rfl (eW rfl (aB (aB ⟨(by decide:(2:Nat)<=sizeLine),(by decide:(1:Nat)<=sizeLine),aE B 4 rfl rfl rfl (.mk _ d rfl rfl (q5 (Nat.mul_le_mul_left 1 d4) (aR rfl)) (v9 d4 (aR rfl)) (.mk _ rfl (aN 3 rfl) ?_ _ (.cM 3 rfl rfl) ?_))⟩))))))
  ·rw[Fh,t7,List.length_replicate];exact q5 (Nat.add_le_add hl d4) (aR rfl)
  refine aA rfl (aD rfl (B.loc (x:="depth") rfl rfl).1 (aQ ⟨_,.cM 4 rfl rfl,aC ⟨rfl,?_⟩⟩));have k:=a6 (w:=w) (script:=script) (head:=head) (d:=0) (row:=row++List.replicate d ([93],[32])) B (by rw[q6,List.length_replicate];exact q5 (Nat.add_le_add hl d4) (aR rfl)) h;rw[Lz,u6,List.map_replicate] at k;rw[Fh];exact k
 have no:¬(e=0\/e=3)->mE g 10 C ρ (execs (dC.drop 6) C.env) (Lz w script head e row d) none:=fun he=>by
  have h:=h d (fun U=>rfl);rw[if_neg he] at h;exact a6 B (q5 hl (aR rfl)) h
 refine cS rfl (aW rfl (gS (aL rfl (aE B 2 rfl rfl rfl (aQ ?_)))));show Bq g 10 C ρ _ _ _ (decide (e=0)) _ _
 by_cases h0:e=0
 ·rw[u7 h0];exact .p1 (.p1 (yes (.inl h0)))
 ·rw[u0 h0];refine .p2 (iS (aL rfl (aE B 2 rfl rfl rfl (aQ ?_))));show yT g 10 C ρ _ _ _ _ (decide (e=3)) _ _
  by_cases h3:e=3
  ·rw[u7 h3];exact .p1 (yes (.inr h3))
  ·rw[u0 h3];exact .p2 (aC ⟨rfl,no fun h=>h.elim h0 h3⟩)
end
theorem Om(head:Int):Txt.item ("[{":Str) (head/4 % 2)=st (lA head):=by
 unfold lA;have h:head/4 % 2=0\/head/4 % 2=1:=Int.emod_two_eq _
 rcases h with h|h
 ·rw[if_pos h,h];rfl
 ·rw[if_neg (by rw[h];decide),h];rfl
theorem W2.UD(h:w.ok=true)(i:Int):({w with n:=.val (.int i)}:W2).ok=true:=by
 unfold W2.ok at h⊢;exact(q9 _ _).mpr ⟨rfl,((q9 _ _).mp h).2⟩
theorem W2.UE(h:w.ok=true)(s:Str):({w with sign:=.val (.str s)}:W2).ok=true:=by
 unfold W2.ok at h⊢;obtain⟨h1,h2⟩:=(q9 _ _).mp h;exact(q9 _ _).mpr ⟨h1,(q9 _ _).mpr ⟨rfl,((q9 _ _).mp h2).2⟩⟩
theorem a4(LF:iM g)(B:Bd C (top 42)){a:Addr}{ns:List Int}(S:Nm C a ns){head e:Int}{p:Pr}(h:∀(w:W2) (d:Int),w.ok=true->(e=1->d=cP (jX ns) 1)->mE g 10 C ρ (execs (dC.drop 7) C.env) (Lz w (.val (.glob (.ref a))) head e (jY e (cP (jX ns) 1) (p::gB (jX ns) 1)) d) none):
  mE g 10 C ρ (execs (dC.drop 4) C.env) (Lz ⟨.un,.un,.un,.un,.un,.un⟩ (.val (.glob (.ref a))) head e [p] 1) none:=by
 refine cS rfl (wQ B.hh (B.loc (x:="n") rfl rfl) (NJ (.val (.glob (.ref a))) (.val (.int head)) (.val (.int e)) (p::gB (jX ns) 1) (cP (jX ns) 1)) (Rc S (B.loc (x:="script") rfl rfl) (aN 0 rfl) ⟨_,rfl,.mk (jX ns) ([p]) 1 ⟨.un,.un,.un,.un,.un,.un⟩ rfl rfl rfl rfl rfl rfl (aR rfl) (aR rfl) ?_⟩) ?_ ?_ fun U=>rfl)
 ·show 1+(jX ns).length<=12;unfold jX;rw[List.length_take];exact q5 (t9 (Nat.min_le_left _ _) 1) (aR rfl)
 ·rintro v r l s q_
  refine q_ _ ?_;clear q_
  rintro rs row d w ev rfl rfl hw hR hD d1 d4 hl
  cases rs with
  |nil=>cases ev
  |cons n rs=>
   cases ev;have hr:row.length<=12:=q5 (x7 _ _) hl;have k:=sY [n] d d1 d4;refine(.mk _ (.cM 5 rfl rfl) ?_);refine n0 (w:={w with n:=.val (.int n)}) LF B hr rfl d1 (.mk rs _ _ _ rfl rfl rfl (W2.UE (W2.UD hw n) _) ?_ hD k.2.2.1 k.2.2.2.1 ?_)
   ·rw[r7];exact hR
   ·rw[q6];show row.length+1+rs.length<=12;rw[Nat.add_assoc,v7 1];exact hl
 ·rintro l s q_
  refine q_ _ ?_;clear q_
  rintro rs row d w ev rfl rfl hw hR hD d1 d4 hl
  cases rs with
  |cons _ _=>cases ev
  |nil=>
   have hR:row=p::gB (jX ns) 1:=(w8 row).symm.trans hR;have hD:d=cP (jX ns) 1:=hD;subst hR;subst hD;exact⟨rfl,a5 B hl d4 fun d' hd=>h w d' hw hd⟩
theorem a1(LF:iM g)(B:Bd C (top 42)){a:Addr}{ns:List Int}(S:Nm C a ns){head:Int}(h:∀(w:W2) (d:Int),w.ok=true->(head % 4=1->d=cP (jX ns) 1)->mE g 10 C ρ (execs (dC.drop 7) C.env) (Lz w (.val (.glob (.ref a))) head (head % 4) (jY (head % 4) (cP (jX ns) 1) ((lA head,jH (head/8))::gB (jX ns) 1)) d) none):
  mE g 10 C ρ (execs (dC.drop 1) C.env) (lw ⟨.un,.un,.un,.un,.un,.un⟩ (.val (.glob (.ref a))) (.val (.int head)) .un .un .un .un .un .un .un .un .un .un .un .un .un .un .un .un .un .un) none:=by
 obtain⟨m0,m1⟩:=Cd (n:=head) (d:=8) (k:=14) (aR rfl);obtain⟨o0,o1⟩:=Cd (n:=head) (d:=4) (k:=2) (aR rfl);refine cS rfl (aD rfl (B.loc (x:="ending") rfl rfl).1 (sD (aE B 1 rfl rfl rfl (aQ (.mk _ _ rfl rfl (aR rfl) (aR rfl) ⟨_,.cM 2 rfl rfl,rfl,?_⟩)))));refine cS rfl (cO (B.loc (x:="row") rfl rfl) rfl (eW rfl (mC (fun U U U U=>rfl) (fun U U U=>rfl) (aB (sD (Bj (aE B 1 rfl rfl rfl (aQ (.mk _ _ rfl rfl (aR rfl) (aR rfl) (aQ (.mk _ _ rfl rfl (aR rfl) (aR rfl) ⟨_,_,rfl,rfl,Iv o0 (Int.lt_trans o1 (aR rfl)),Int.le_trans (aR rfl) o0,o1,?_⟩)))))))))));refine Hv B.hh (Ln LF) (LF.k 2 rfl) (LF.gl 2 rfl) (B.glob rfl) rfl (fun U U U=>rfl) (sD (Bj (aE B 1 rfl rfl rfl (aQ (.mk _ _ rfl rfl (aR rfl) (aR rfl) (aQ (.mk _ _ rfl rfl (aR rfl) (aR rfl) (.mk _ rfl m0 m1 (aR rfl) ⟨(by decide:(2:Nat)<=sizeLine),(by decide:(1:Nat)<=sizeLine),_,.cM 3 rfl rfl,rfl,?_⟩))))))));refine cS rfl (aD rfl (B.loc (x:="depth") rfl rfl).1 (aQ ⟨_,.cM 4 rfl rfl,rfl,?_⟩));have k:=a4 (e:=head % 4) (p:=(lA head,jH (head/8))) LF B S h;rw[Lz,show([(lA head,jH (head/8))].map vC)=[.tup [.str (st (lA head)),sv (jH (head/8))]] from rfl,←Om head] at k;exact k
theorem a0(LF:iM g)(B:Bd C (top 42)){a:Addr}{ns:List Int}(S:Nm C a ns)(h:KG g C ρ (.val (.glob (.ref a))) ns):
  mE g 10 C ρ (execs dC C.env) (lw ⟨.un,.un,.un,.un,.un,.un⟩ (.val (.glob (.ref a))) .un .un .un .un .un .un .un .un .un .un .un .un .un .un .un .un .un .un .un) none:=by
 have go:=a1 LF B S (head:=ns.headD 0) h;refine cS rfl (aD rfl (B.loc (x:="head") rfl rfl).1 (mB (DL S (B.loc (x:="script") rfl rfl) (aN 0 rfl) ?_)))
 by_cases PK:ns=[]
 ·subst PK;exact .p2 (aQ ⟨_,.cM 1 rfl rfl,rfl,go⟩)
 ·refine Ho (List.exists_cons_of_ne_nil PK) fun n r hc=>?_;subst hc;exact .p1 (Xr S (B.loc (x:="script") rfl rfl) (aN 0 rfl) (fun U U U=>rfl) rfl ⟨_,.cM 1 rfl rfl,rfl,go⟩)
end
theorem uM(a b:List Nat):st a++st b=st (a++b):=by
 show(⟨a.toArray++b.toArray⟩:Str)=_;rw[List.append_toArray]
theorem kS(l:List Nat):(st l).length=l.length:=yK l
section
variable{g:Gl}{D:Nat}{ρ:dN}{C:Cx}{σ:bX}{X:eZ}
theorem Rb{l:aM}{test:Expr}{i j:Int}{k1 k2:Nat}{p1 p2:Pos}(h:BW g D C ρ X test l σ (fun b l s=>Q (.int (if b=true then i else j)) l s)):EW g D C ρ X (.IfExp test (.Constant (.int i) k1 p1) (.Constant (.int j) k2 p2) pos) l σ Q:=
 mB (h.mono fun b l s h=>by
  cases b with
  |true=>exact .p1 (aQ h)
  |false=>exact .p2 (aQ h))
noncomputable def tB:List Stmt:=tM (top 42).body 14 0
structure O5 where
 script:LV
 head:LV
 dD:LV
 row:LV
 depth:LV
noncomputable abbrev CZ(w:W2)(o:O5)(text:List Nat)(signs:List Sn)(line level:Int)(last gap:List Nat):aM:=lw w o.script o.head o.dD o.row o.depth (.val (sv text)) (.ml (signs.map Jw)) (.val (.int line)) (.val (.int level)) (.val (sv last)) (.val (sv gap)) (.val .none) .un .un .un .un .un .un .un .un
noncomputable abbrev HJ(w:W2)(o:O5)(x:LS):aM:=CZ w o x.text x.signs x.line x.level x.last x.gap
section
variable{w:W2}{o:O5}{x:LS}{p:Pr}{text last gp s b:List Nat}{signs:List Sn}{line level:Int}{P:aM->bX->Prop}{Q:eM}
theorem t6(B:Bd C (top 42))(hs:w.sign=.val (sv s))(hb:w.behind=.val (sv b))(hl:text.length<=1000)(Hj:s.length<=10)(h:P (CZ w o (text++s) signs (line+own s) level s b) σ):
  SW g 10 C ρ (fun U U U=>False) (tB.drop 6) (CZ w o text signs line level last gp) σ (pH P Q):=by
 obtain⟨n_,nH,eQ,jJ,fY,jK⟩:=w;cases hs;cases hb;refine aA rfl (vU (B.loc (x:="text") rfl rfl) (aN 7 rfl) (aE B 6 rfl rfl rfl ⟨_,rfl,by rw[kS,kS];exact q5 (Nat.add_le_add hl Hj) (aR rfl),_,.cM 7 rfl rfl,?_⟩));refine aA rfl (iD (B.loc (x:="line") rfl rfl).1 (aN 9 rfl) (Rb (aL rfl (aB (aE B 6 rfl rfl rfl (Le (c:=10) rfl ⟨_,rfl,_,.cM 9 rfl rfl,?_⟩))))));refine aA rfl (aD rfl (B.loc (x:="last") rfl rfl).1 (aE B 6 rfl rfl rfl ⟨_,.cM 11 rfl rfl,?_⟩));refine aA rfl (aD rfl (B.loc (x:="gap") rfl rfl).1 (aE B 14 rfl rfl rfl ⟨_,.cM 12 rfl rfl,aC ?_⟩));rw[uM];exact h
theorem t4(B:Bd C (top 42))(hs:w.sign=.val (sv s))(hb:w.behind=.val (sv b))(hl:text.length<=1000)(Hj:s.length<=10)(hz:signs.length<=1000)(h:P (CZ w o (text++s) (signs++[(s,line,level)]) (line+own s) (if aY.contains s=true then level+1 else level) s b) σ):
  SW g 10 C ρ (fun U U U=>False) (tB.drop 4) (CZ w o text signs line level last gp) σ (pH P Q):=by
 have fin:=fun(signs:List Sn) (level:Int)=> @t6 g ρ C σ w o text last gp s b signs line level P Q B hs hb hl Hj;obtain⟨n_,nH,eQ,jJ,fY,jK⟩:=w;cases hs;cases hb;refine aA rfl (cJ (B.int rfl) rfl (cF (B.loc (x:="signs") rfl rfl) (aN 8 rfl) ⟨_,rfl⟩ rfl (eG rfl (aE B 6 rfl rfl rfl (aE B 9 rfl rfl rfl (aE B 10 rfl rfl rfl ⟨_,_,aN 8 rfl,by rw[t7];exact q5 hz (aR rfl),.cM 8 rfl rfl,rfl,?_⟩))))));have fin:=fin (signs++[(s,line,level)]);rw[CZ,u6] at h;simp only[CZ,u6] at fin;refine aA rfl (aW rfl (gR false rfl rfl (aE B 6 rfl rfl rfl (eW rfl (aB (aB ⟨by decide,tJ.s aY rfl ?_⟩))))));rw[Bool.false_bne];cases ho:aY.contains s with
 |false=>rw[ho] at h;exact .p2 (aC (fin level h))
 |true=>
  rw[ho,if_pos rfl] at h;exact .p1 (aA rfl (iD (B.loc (x:="level") rfl rfl).1 (aN 10 rfl) (aQ ⟨_,rfl,_,.cM 10 rfl rfl,aC (fin (level+1) h)⟩)))
theorem t0(LF:iM g)(B:Bd C (top 42))(hs:w.sign=.val (sv p.1))(hb:w.behind=.val (sv p.2))(hl:x.text.length<=900)(Hj:p.1.length<=10)(WA:(bE x.last p.1 x.gap).length<=10)(hz:x.signs.length<=1000)(h:P (HJ w o (x.step p)) σ):
  SW g 10 C ρ (fun U U U=>False) tB (HJ w o x) σ (pH P Q):=by
 have fin:=fun(level:Int)=> @t4 g ρ C σ w o (x.text++bE x.last p.1 x.gap) x.last (bE x.last p.1 x.gap) p.1 p.2 x.signs (x.line+dl (bE x.last p.1 x.gap)) level P Q B hs hb (by rw[q6];exact q5 (Nat.add_le_add hl WA) (aR rfl)) Hj hz;obtain⟨n_,nH,eQ,jJ,fY,jK⟩:=w;obtain⟨s,b⟩:=p;cases hs;cases hb;refine aA rfl (aD rfl (B.loc (x:="gap") rfl rfl).1 (gY (D':=0) B.hh (LF.k 3 rfl) (aR rfl) rfl (cR (LF.gl 3 rfl) (B.glob rfl) rfl ⟨rfl,aE B 11 rfl rfl rfl (aE B 6 rfl rfl rfl (aE B 12 rfl rfl rfl (Tt LF ⟨_,.cM 12 rfl rfl,?_⟩)))⟩)));refine aA rfl (vU (B.loc (x:="text") rfl rfl) (aN 7 rfl) (aE B 12 rfl rfl rfl ⟨_,rfl,by rw[kS,kS];exact q5 (Nat.add_le_add hl WA) (aR rfl),_,.cM 7 rfl rfl,?_⟩));refine aA rfl (iD (B.loc (x:="line") rfl rfl).1 (aN 9 rfl) (Rb (gR false rfl rfl (aE B 12 rfl rfl rfl (eW rfl (aB (aB (aB ⟨by decide,tJ.s Ff rfl ?_⟩))))))));rw[Bool.false_bne];refine⟨_,rfl,_,.cM 9 rfl rfl,?_⟩;refine aA rfl (aW rfl (gR false rfl rfl (aE B 6 rfl rfl rfl (eW rfl (aB (aB ⟨by decide,tJ.s bU rfl ?_⟩))))));rw[Bool.false_bne,uM];have h:P (CZ _ o (x.text++bE x.last s x.gap++s) (x.signs++[(s,x.line+dl (bE x.last s x.gap),if bU.contains s=true then x.level-1 else x.level)]) (x.line+dl (bE x.last s x.gap)+own s) (if aY.contains s=true then(if bU.contains s=true then x.level-1 else x.level)+1 else(if bU.contains s=true then x.level-1 else x.level)) s b) σ:=h;cases hc:bU.contains s with
 |false=>rw[hc] at h;exact .p2 (aC (fin x.level h))
 |true=>
  rw[hc,if_pos rfl] at h;exact .p1 (aA rfl (nZ (B.loc (x:="level") rfl rfl).1 (aN 10 rfl) (aQ ⟨_,rfl,_,.cM 10 rfl rfl,aC (fin (x.level-1) h)⟩)))
end
end
section
variable{D:Nat}{C:Cx}{X:eZ}
def BJ(o:O5)(xf:LS)(vs:List V)(l:aM)(s:bX):Prop:=∀Ω:Prop,(∀(rs:List Pr) (x:LS) (w:W2) (e:vs=rs.map vC) (el:l=HJ w o x) (es:s=none) (hw:w.ok=true) (hx:rs.foldl LS.step x=xf) (hr:jE rs) (h1:x.last∈gO) (h2:x.gap∈hY) (ht:x.text.length+10 * rs.length<=600) (hs:x.signs.length+rs.length<=60),Ω)->Ω
theorem BJ.mk{o:O5}{xf:LS}{l:aM}{s:bX}(rs:List Pr)(x:LS)(w:W2)(e:vs=rs.map vC)(el:l=HJ w o x)(es:s=none)(hw:w.ok=true)(hx:rs.foldl LS.step x=xf)(hr:jE rs)(h1:x.last∈gO)(h2:x.gap∈hY)(ht:x.text.length+10 * rs.length<=600)(hs:x.signs.length+rs.length<=60):BJ o xf vs l s:=fun U φ=>φ rs x w e el es hw hx hr h1 h2 ht hs
theorem W2.NP(h:w.ok=true)(s b:Str):({w with sign:=.val (.str s),behind:=.val (.str b)}:W2).ok=true:=by
 unfold W2.ok at h⊢;obtain⟨h1,h2⟩:=(q9 _ _).mp h;exact(q9 _ _).mpr ⟨h1,(q9 _ _).mpr ⟨rfl,(q9 _ _).mpr ⟨rfl,((q9 _ _).mp ((q9 _ _).mp h2).2).2⟩⟩⟩
theorem XS(LF:iM g)(B:Bd C (top 42)){script head e depth:LV}(hw:w.ok=true)(Uh:jE row)(hl:row.length<=50)(h:∀w:W2,w.ok=true->mE g 10 C ρ (execs (dC.drop 15) C.env) (HJ w ⟨script,head,e,.val (.lst (row.map vC)),depth⟩ (row.foldl LS.step LS.init)) none):
  mE g 10 C ρ (execs (dC.drop 14) C.env) (lw w script head e (.ml (row.map vC)) depth (.val (sv [])) (.ml ([gD].map Jw)) (.val (.int 0)) (.val (.int 0)) (.val (sv [91])) (.val (sv [])) (.val .none) .un .un .un .un .un .un .un .un) none:=by
 refine cS rfl (Nj B.hh (B.loc (x:="sign") rfl rfl) (B.loc (x:="behind") rfl rfl) (BJ ⟨script,head,e,.val (.lst (row.map vC)),depth⟩ (row.foldl LS.step LS.init)) (jC (B.loc (x:="row") rfl rfl) (aN 3 rfl) (.cM 3 rfl rfl) ⟨_,rfl,.mk row LS.init w rfl rfl rfl hw rfl Uh (aR rfl) (aR rfl) ?_ ?_⟩) ?_ ?_ fun U=>rfl)
 ·show 0+10 * row.length<=600;rw[Nat.zero_add];exact q5 (Nat.mul_le_mul_left 10 hl) (aR rfl)
 ·exact q5 (t9 hl 1) (by decide:1+50<=60)
 ·rintro v r l s q_
  refine q_ _ ?_;clear q_
  rintro rs x w ev rfl rfl hw hx hr h1 h2 ht hs
  cases rs with
  |nil=>cases ev
  |cons p rs=>
   cases ev;have hp:=hr p (.head _);have c1:=(kK (rW p.1 hp.1)).2;have c2:=(kK (qD x.last h1 p.1 (.tail _ hp.1) x.gap h2)).2;rw[List.length_cons] at ht hs;refine(.mk _ (.mk _ _ _ rfl (.cM 6 rfl rfl) (.cM 14 rfl rfl)) ?_);refine t0 (w:={w with sign:=.val (sv p.1),behind:=.val (sv p.2)}) LF B rfl rfl (q5 (x7 _ _) (q5 ht (aR rfl))) (q5 c1 (aR rfl)) (q5 c2 (aR rfl)) (q5 (x7 _ _) (q5 hs (aR rfl))) (.mk rs _ _ rfl rfl rfl (W2.NP hw _ _) hx (fun q hq=>hr q (.tail _ hq)) hp.1 hp.2 ?_ ?_)
   ·show(x.text++bE x.last p.1 x.gap++p.1).length+10 * rs.length<=600;rw[q6,q6];exact q5 (Nat.add_le_add_right (Nat.add_le_add (t9 c2 _) c1) _) (q5 (r9 ((Nat.add_assoc _ 10 _).trans (congrArg (x.text.length+ ·) ((v7 ..).trans (Nat.mul_succ 10 _).symm)))) ht)
   ·show(x.signs++[_]).length+rs.length<=60;rw[q6,List.length_singleton];exact q5 (r9 (Nat.add_right_comm ..)) hs
 ·rintro l s q_
  refine q_ _ ?_;clear q_
  rintro rs x w ev rfl rfl hw hx hr h1 h2 ht hs
  cases rs with
  |cons _ _=>cases ev
  |nil=>
   cases hx;exact⟨rfl,h w hw⟩
theorem b7(LF:iM g)(B:Bd C (top 42)){script:LV}{head e d:Int}(hw:w.ok=true)(Uh:jE row)(hl:row.length<=50)(h:∀w:W2,w.ok=true->mE g 10 C ρ (execs (dC.drop 15) C.env) (HJ w ⟨script,.val (.int head),.val (.int e),.val (.lst (row.map vC)),.val (.int d)⟩ (row.foldl LS.step LS.init)) none):
  mE g 10 C ρ (execs (dC.drop 7) C.env) (Lz w script head e row d) none:=by
 refine cS rfl (aD rfl (B.loc (x:="text") rfl rfl).1 (aB ⟨_,.cM 7 rfl rfl,rfl,?_⟩));refine cS rfl (cO (B.loc (x:="signs") rfl rfl) rfl (eG rfl (aB (aQ (wH (aQ ⟨_,rfl,(by decide:(1:Nat)<=sizeLine),_,.cM 8 rfl rfl,rfl,?_⟩))))));refine cS rfl (aD rfl (B.loc (x:="line") rfl rfl).1 (aQ ⟨_,.cM 9 rfl rfl,rfl,?_⟩));refine cS rfl (aD rfl (B.loc (x:="level") rfl rfl).1 (aQ ⟨_,.cM 10 rfl rfl,rfl,?_⟩));refine cS rfl (aD rfl (B.loc (x:="last") rfl rfl).1 (aB ⟨_,.cM 11 rfl rfl,rfl,?_⟩));refine cS rfl (aD rfl (B.loc (x:="gap") rfl rfl).1 (aB ⟨_,.cM 12 rfl rfl,rfl,?_⟩));refine cS rfl (aD rfl (B.loc (x:="place") rfl rfl).1 (bT ⟨_,.cM 13 rfl rfl,rfl,?_⟩));exact XS LF B hw Uh hl h
end
noncomputable abbrev kV(k:Nat):V:=.int k
theorem HK(ks:List Nat):ks.map kV=(ks.map fun(k:Nat)=>(k:Int)).map V.int:=by rw[List.map_map];rfl
theorem Yo(n:Nat):∀ks:List Nat,((ks.map fun(k:Nat)=>(k:Int)).any (· ==(n:Int)))=ks.contains n:=by
 intro eN;induction eN with
 |nil=>
  exact rfl
 |cons k ks ih=>
  exact by rw[List.map_cons,List.any_cons,ih,List.contains_cons,sO,BEq.comm]
theorem tJ.k{neg:Bool}{Q:nX}{lo:aM}{o:bX}{n:Nat}{i:Int}{vs:List V}(ks:List Nat)(e:vs=ks.map kV)(ei:i=n)(h:Q (neg !=ks.contains n) lo o):tJ neg Q (.int i) (.lst vs) lo o:=by
 subst e;subst ei;rw[HK];refine(.mk _ (.i n (ks.map fun(k:Nat)=>(k:Int))) ?_);rw[Yo];exact h
structure Wt(signs:List Sn):Prop where
 h0:signs.getD 0 gD=gD
 l:∀i,1<=i->i<signs.length->0<=(signs.getD i gD).2.2
 z:signs.length<=200
 p:1<=signs.length
 p2:2<=signs.length
theorem Iu(signs:List Sn)(bN:Nat)(level:Int):∀b,eR signs bN level b<bN\/eR signs bN level b=0:=by
 intro eN;induction eN with
 |zero=>
  exact .inr rfl
 |succ b ih=>
  show(if lC (signs.getD b gD) level=true then _ else if(uH.contains (signs.getD b gD).1&&decide (b+1<bN))=true then b+1 else 0)<bN\/_=0
  by_cases h:lC (signs.getD b gD) level=true
  ·rw[if_pos h]
   rcases ih with k|k
   ·exact .inl k
   ·refine .inr ?_;show(if _ then _ else _)=_;rw[if_pos h];exact k
  ·rw[if_neg h]
   by_cases h2:(uH.contains (signs.getD b gD).1&&decide (b+1<bN))=true
   ·rw[if_pos h2];exact .inl (r8 ((q9 _ _).mp h2).2)
   ·refine .inr ?_;show(if _ then _ else if _ then _ else _)=_;rw[if_neg h,if_neg h2]
theorem rO{signs:List Sn}{bN:Nat}{level:Int}(h:fL signs bN level≠0):fL signs bN level<bN:=(Iu signs bN level bN).resolve_right h
theorem W2.DC(h:w.ok=true)(i:Int):({w with bN:=.val (.int i)}:W2).ok=true:=by
 unfold W2.ok at h⊢;simp only[q9] at h⊢;exact⟨h.1,h.2.1,h.2.2.1,rfl,h.2.2.2.2⟩
theorem W2.NO(h:w.ok=true)(i:Int):({w with first:=.val (.int i)}:W2).ok=true:=by
 unfold W2.ok at h⊢;simp only[q9] at h⊢;exact⟨h.1,h.2.1,h.2.2.1,h.2.2.2.1,rfl,h.2.2.2.2.2⟩
theorem W2.UG(h:w.ok=true)(i:Int):({w with wide:=.val (.int i)}:W2).ok=true:=by
 unfold W2.ok at h⊢;simp only[q9] at h⊢;exact⟨h.1,h.2.1,h.2.2.1,h.2.2.2.1,h.2.2.2.2.1,rfl⟩
section
variable{D:Nat}{C:Cx}{X:eZ}
noncomputable abbrev Wz(w:W2)(o:O5)(x:LS)(place keys end_:LV):aM:=lw w o.script o.head o.dD o.row o.depth (.val (sv x.text)) (.val (.lst (x.signs.map Jw))) (.val (.int x.line)) (.val (.int x.level)) (.val (sv x.last)) (.val (sv x.gap)) place keys end_ .un .un .un .un .un .un
section
variable{o:O5}{x:LS}{ks:List Nat}{i:Nat}{P:aM->bX->Prop}{Q:eM}{place:LV}
noncomputable def cB:List Stmt:=tM (top 42).body 16 0
theorem c0(LF:iM g)(B:Bd C (top 42))(hS:Wt x.signs)(Qk:w.bN=.val (.int i))(i1:1<=i)(hi:i<x.signs.length)(hk:ks.length<=500)
  (h:∀w',w'.ok=true->P (Wz w' o x place (.ml ((if(x.signs.getD i gD).1=[58] then ks++(fR x.signs i (x.signs.getD i gD).2.1 (x.signs.getD i gD).2.2).toList else ks).map kV)) .un) σ) (hw:w.ok=true):
  SW g 10 C ρ (fun U U U=>False) cB (Wz w o x place (.ml (ks.map kV)) .un) σ (pH P Q):=by
 have UH:=fun j:Int=>W2.NO hw j;obtain⟨n_,nH,eQ,jJ,fY,jK⟩:=w;cases Qk;have hz:=hS.z;have iz:i<=1000:=q5 (Nat.le_of_lt hi) (q5 hz (aR rfl));refine aA rfl (aW rfl (aL rfl (mD (fun U U U=>rfl) (fun U U U=>rfl) (aE B 8 rfl rfl rfl (aE B 16 rfl rfl rfl (.mk x.signs i rfl rfl hi iz _ rfl (aB (Ld (b:=[58]) rfl ?_))))))))
 by_cases hc:(x.signs.getD i gD).1=[58]
 ·rw[if_pos hc] at h;rw[beq_iff_eq.mpr hc];refine .p1 (aA rfl (aD rfl (B.loc (x:="first") rfl rfl).1 (gY (D':=0) B.hh (LF.k 4 rfl) (aR rfl) rfl (cR (LF.gl 4 rfl) (B.glob rfl) rfl ⟨rfl,aE B 8 rfl rfl rfl (aE B 16 rfl rfl rfl (mD (fun U U U=>rfl) (fun U U U=>rfl) (aE B 8 rfl rfl rfl (aE B 16 rfl rfl rfl (.mk x.signs i rfl rfl hi iz _ rfl (Fi LF hS.h0 (hS.l i i1 hi) i1 (Nat.le_of_lt hi) (q5 hz (aR rfl)) ⟨_,.cM 17 rfl rfl,?_⟩))))))⟩))));have h:=h _ (UH (fL x.signs i (x.signs.getD i gD).2.2:Nat));unfold fR at h;revert h;have oH:= @rO x.signs i (x.signs.getD i gD).2.2;generalize fL x.signs i (x.signs.getD i gD).2.2=f at oH;intro h;refine aA rfl (aW rfl (cV (bZ (fun U=>rfl) (aE B 17 rfl rfl rfl ?_))));show yQ g 10 C ρ _ _ _ (((f:Nat):Int) !=((0:Nat):Int)) _ _;rw[show(((f:Nat):Int) !=((0:Nat):Int))=!(f==0) from congrArg (!·) sO]
  by_cases hf:f=0
  ·rw[if_neg fun e=>e.1 hf,show(Option.none:Option Nat).toList=[] from rfl,w8] at h;rw[beq_iff_eq.mpr hf];exact .p1 (.p2 (aC (aC (aC h))))
  ·rw[beq_eq_false_iff_ne.mpr hf];have fl:=Nat.lt_trans (oH hf) hi;refine .p2 (eP (aL rfl (mD (fun U U U=>rfl) (fun U U U=>rfl) (aE B 8 rfl rfl rfl (aE B 17 rfl rfl rfl (.mk x.signs f rfl rfl fl (q5 (Nat.le_of_lt fl) (q5 hz (aR rfl))) _ rfl (mD (fun U U U=>rfl) (fun U U U=>rfl) (aE B 8 rfl rfl rfl (aE B 16 rfl rfl rfl (.mk x.signs i rfl rfl hi iz _ rfl ?_))))))))));show yT g 10 C ρ _ _ _ _ (decide ((x.signs.getD f gD).2.1=(x.signs.getD i gD).2.1)) _ _
   by_cases hL:(x.signs.getD f gD).2.1=(x.signs.getD i gD).2.1
   ·rw[u7 hL];rw[if_pos ⟨hf,hL⟩] at h;refine .p1 (aA rfl (cJ (B.int rfl) rfl (cF (B.loc (x:="keys") rfl rfl) (aN 15 rfl) ⟨_,rfl⟩ rfl (aE B 17 rfl rfl rfl ⟨_,_,aN 15 rfl,by rw[t7];exact q5 hk (aR rfl),.cM 15 rfl rfl,rfl,aC (aC (aC ?_))⟩))));rw[show(some f).toList=[f] from rfl,u6] at h;exact h
   ·rw[u0 hL];rw[if_neg fun e=>hL e.2,show(Option.none:Option Nat).toList=[] from rfl,w8] at h;exact .p2 (aC (aC (aC h)))
 ·rw[if_neg hc] at h;rw[beq_eq_false_iff_ne.mpr hc];exact .p2 (aC (aC (h _ hw)))
end
end
noncomputable def Tf(e:Int)(ks:List Nat)(n:Nat):Nat:=if e=0/\ks.contains 1=false then n-1 else n
noncomputable def yE(e:Int)(ks:List Nat)(n:Nat):LV:=if e=0/\ks.contains 1=false then .val (.int (n-1:Nat)) else .val .none
section
variable{D:Nat}{C:Cx}{X:eZ}
def CJ(o:O5)(x:LS)(i:Nat)(l:aM)(s:bX):Prop:=∀Ω:Prop,(∀(w:W2) (ks:List Nat) (hw:w.ok=true) (el:l=Wz w o x (.val .none) (.ml (ks.map kV)) .un) (es:s=none) (hk:iY x.signs (1+i) ks (x.signs.length-1-i)=bD x.signs) (hz:ks.length<=i),Ω)->Ω
theorem CJ.mk{o:O5}{x:LS}{i:Nat}{l:aM}{s:bX}(w:W2)(ks:List Nat)(hw:w.ok=true)(el:l=Wz w o x (.val .none) (.ml (ks.map kV)) .un)(es:s=none)(hk:iY x.signs (1+i) ks (x.signs.length-1-i)=bD x.signs)(hz:ks.length<=i):CJ o x i l s:=fun U φ=>φ w ks hw el es hk hz
section
variable{o:O5}{x:LS}{e:Int}
theorem Kj(F:aP g)(B:Bd C (top 42)){p1 p2 p3:Pos}{place keys end_:LV}{X:eZ}(hz:x.signs.length<=200)(h:Q (.int x.signs.length) (Wz w o x place keys end_) σ):EW g 10 C ρ X (.Call (.Name "len" p1) [.Name "signs" p2] [] p3) (Wz w o x place keys end_) σ Q:=
 rC rfl (dY (F.n 0 rfl) rfl (aR rfl) (B.glob rfl) rfl ⟨rfl,aE B 8 rfl rfl rfl ⟨by rw[t7];exact q5 hz (aR rfl),by rw[t7];exact h⟩⟩)
theorem XU(B:Bd C (top 42))(he:o.dD=.val (.int e))(hS:Wt x.signs)(ht:1<=x.text.length)(HC:x.text.length<=1000)(F:aP g)
  (h:mE g 10 C ρ (execs (dC.drop 19) C.env) (Wz w o x (yE e (bD x.signs) x.text.length) (.val (.lst ((bD x.signs).map kV))) (.val (.int (Tf e (bD x.signs) x.signs.length:Nat)))) none):
  mE g 10 C ρ (execs (dC.drop 18) C.env) (Wz w o x (.val .none) (.val (.lst ((bD x.signs).map kV))) (.val (.int x.signs.length))) none:=by
 obtain⟨tC,Fq,vW,Vw,Cb⟩:=o;cases he;unfold Tf yE at h;refine cS rfl (aW rfl (cV (aL rfl (aE B 2 rfl rfl rfl (aQ ?_)))));show yQ g 10 C ρ _ _ _ (decide (e=0)) _ _
 by_cases h0:e=0
 ·rw[u7 h0];refine .p2 (eP (gR true rfl rfl (aQ (aE B 15 rfl rfl rfl (tJ.k (n:=1) (bD x.signs) rfl rfl ?_)))));rw[Bool.true_bne];cases hc:(bD x.signs).contains 1 with
  |true=>
   rw[hc,if_neg (fun z=>nomatch z.2),if_neg (fun z=>nomatch z.2)] at h
   exact .p2 (aC ⟨rfl,h⟩)
  |false=>
   rw[hc,if_pos ⟨h0,rfl⟩,if_pos ⟨h0,rfl⟩] at h;have e1:((x.signs.length:Int)-1)=((x.signs.length-1:Nat):Int):=(Int.ofNat_sub hS.p).symm;have e2:((x.text.length:Int)-1)=((x.text.length-1:Nat):Int):=(Int.ofNat_sub ht).symm;refine .p1 (aA rfl (nZ (B.loc (x:="end") rfl rfl).1 (aN 18 rfl) (aQ ⟨_,rfl,_,.cM 18 rfl rfl,?_⟩)));refine aA rfl (aD rfl (B.loc (x:="place") rfl rfl).1 (tR (rC rfl (dY (F.n 0 rfl) rfl (aR rfl) (B.glob rfl) rfl ⟨rfl,aE B 7 rfl rfl rfl ⟨by rw[kS];exact q5 HC (aR rfl),aQ ⟨_,_,rfl,rfl,_,.cM 13 rfl rfl,aC ⟨rfl,?_⟩⟩⟩⟩))));rw[kS,e1,e2];exact h
 ·rw[u0 h0];rw[if_neg (fun z=>h0 z.1),if_neg (fun z=>h0 z.1)] at h;exact .p1 (.p2 (aC ⟨rfl,h⟩))
theorem XT(F:aP g)(LF:iM g)(B:Bd C (top 42))(hw:w.ok=true)(he:o.dD=.val (.int e))(hS:Wt x.signs)(ht:1<=x.text.length)(HC:x.text.length<=1000)
  (h:∀w:W2,w.ok=true->mE g 10 C ρ (execs (dC.drop 19) C.env) (Wz w o x (yE e (bD x.signs) x.text.length) (.val (.lst ((bD x.signs).map kV))) (.val (.int (Tf e (bD x.signs) x.signs.length:Nat)))) none):
  mE g 10 C ρ (execs (dC.drop 15) C.env) (HJ w o x) none:=by
 have hz:=hS.z;refine rF (x:="signs") (ws:=x.signs.map Jw) (aN 8 rfl) (.cM 8 rfl rfl) ?_;refine cS rfl (cO (B.loc (x:="keys") rfl rfl) rfl ⟨Nat.zero_le _,_,.cM 15 rfl rfl,rfl,?_⟩);have FX:(x.signs.length:Int)=((1:Nat):Int)+(x.signs.length-1:Nat):=NA hS.p;refine cS rfl (pK B.hh (B.loc (x:="spot") rfl rfl) rfl 1 1 (x.signs.length-1) (CJ o x) (dY (F.n 5 rfl) rfl (aR rfl) (B.glob rfl) rfl ⟨rfl,aQ (Kj (w:=w) (o:=o) (x:=x) F B hz (.mk _ (.up 1 _ _ FX (q5 (Nat.sub_le _ _) (q5 hz (aR rfl))) (aR rfl)) (.mk w [] hw rfl rfl rfl (w7 _))))⟩) ?_ ?_ fun U=>rfl)
 ·rintro i l s oH q_
  refine q_ _ ?_;clear q_
  rintro w ks hw rfl rfl hk PJ
  have hi:1+i<x.signs.length:=WM oH;rw[NG i];refine(.mk _ (.cM 16 rfl rfl) ?_);refine c0 (w:={w with bN:=.val (.int (1+i:Nat))}) (i:=1+i) LF B hS rfl (x7 1 i) hi (q5 PJ (q5 (Nat.le_of_lt (Nat.lt_of_lt_of_le oH (Nat.sub_le _ _))) (q5 hz (aR rfl)))) (fun w' TJ=>(.mk w' _ TJ rfl rfl ?_ ?_)) (W2.DC hw _)
  ·rw[←hk,Ha oH];rfl
  ·by_cases hc:(x.signs.getD (1+i) gD).1=[58]
   ·rw[if_pos hc,q6];have:(fR x.signs (1+i) (x.signs.getD (1+i) gD).2.1 (x.signs.getD (1+i) gD).2.2).toList.length<=1:=by
     cases fR x.signs (1+i) (x.signs.getD (1+i) gD).2.1 (x.signs.getD (1+i) gD).2.2<;>simp
    exact Nat.add_le_add PJ this
   ·rw[if_neg hc];exact w9 PJ
 ·rintro l s q_
  refine q_ _ ?_;clear q_
  rintro w ks hw rfl rfl hk PJ
  rw[Nat.sub_self] at hk;have hk:ks=bD x.signs:=hk;subst hk;refine⟨rfl,?_⟩;refine rF (x:="keys") (ws:=(bD x.signs).map kV) (aN 15 rfl) (.cM 15 rfl rfl) ?_;refine cS rfl (aD rfl (B.loc (x:="end") rfl rfl).1 (Kj (w:=w) (o:=o) (x:=x) (end_:=.un) F B hz ⟨_,.cM 18 rfl rfl,rfl,?_⟩));exact XU B he hS ht HC F (h w hw)
end
end
noncomputable def Tj(signs:List Sn)(line:Int):Nat->Nat->Nat
 |0,e=>e
 |w+1,e=>Tj signs line w ((fR signs signs.length line (w:Int)).getD e)
theorem Zf(signs:List Sn)(line:Int):∀w e,Tj signs line (w+1) e=oC signs line w e:=by
 intro eN;induction eN with
 |zero=>
  intro _;exact rfl
 |succ w ih=>
  intro e;exact ih _
section
variable{g:Gl}{D:Nat}{ρ:dN}{C:Cx}{σ:bX}{X:eZ}
noncomputable abbrev Xa(w:W2)(o:O5)(x:LS)(text:List Nat)(place end_:LV):aM:=lw w o.script o.head o.dD o.row o.depth (.val (sv text)) (.val (.lst (x.signs.map Jw))) (.val (.int x.line)) (.val (.int x.level)) (.val (sv x.last)) (.val (sv x.gap)) place (.val (.lst ((bD x.signs).map kV))) end_ .un .un .un .un .un .un
def DJ(o:O5)(x:LS)(text:List Nat)(place:LV)(d fin:Nat)(i:Nat)(l:aM)(s:bX):Prop:=∀Ω:Prop,(∀(w:W2) (en:Nat) (hw:w.ok=true) (el:l=Xa w o x text place (.val (.int en))) (es:s=none) (hk:Tj x.signs x.line (d+1-i) en=fin),Ω)->Ω
theorem DJ.mk{o:O5}{x:LS}{place:LV}{fin:Nat}{i:Nat}{l:aM}{s:bX}(w:W2)(en:Nat)(hw:w.ok=true)(el:l=Xa w o x text place (.val (.int en)))(es:s=none)(hk:Tj x.signs x.line (d+1-i) en=fin):DJ o x text place d fin i l s:=fun U φ=>φ w en hw el es hk
noncomputable def dB:List Stmt:=tM (tM dC 20 0) 2 0
section
variable{w:W2}{o:O5}{x:LS}{e:Int}{text:List Nat}{place:LV}{en i d:Nat}{P:aM->bX->Prop}{Q:eM}
theorem Xn(F:aP g)(B:Bd C (top 42)){p1 p2 p3:Pos}{place end_:LV}{σ:bX}{X:eZ}{Q:tU}(hz:x.signs.length<=200)(h:Q (.int x.signs.length) (Xa w o x text place end_) σ):EW g 10 C ρ X (.Call (.Name "len" p1) [.Name "signs" p2] [] p3) (Xa w o x text place end_) σ Q:=
 rC rfl (dY (F.n 0 rfl) rfl (aR rfl) (B.glob rfl) rfl ⟨rfl,aE B 8 rfl rfl rfl ⟨by rw[t7];exact q5 hz (aR rfl),by rw[t7];exact h⟩⟩)
theorem d0(F:aP g)(LF:iM g)(B:Bd C (top 42))(hS:Wt x.signs)(ZU:w.wide=.val (.int (i:Nat)))(hw:w.ok=true)
  (h:∀w',w'.ok=true->P (Xa w' o x text place (.val (.int ((fR x.signs x.signs.length x.line i).getD en:Nat)))) σ):
  SW g 10 C ρ (fun U U U=>False) dB (Xa w o x text place (.val (.int en))) σ (pH P Q):=by
 have UH:=fun j:Int=>W2.NO hw j;obtain⟨n_,nH,eQ,jJ,fY,jK⟩:=w;cases ZU;have hz:=hS.z;refine aA rfl (aD rfl (B.loc (x:="first") rfl rfl).1 (gY (D':=0) B.hh (LF.k 4 rfl) (aR rfl) rfl (cR (LF.gl 4 rfl) (B.glob rfl) rfl ⟨rfl,aE B 8 rfl rfl rfl (Xn F B hz (aE B 19 rfl rfl rfl (Fi LF hS.h0 (u4 i) hS.p (w7 _) (q5 hz (aR rfl)) ⟨_,.cM 17 rfl rfl,?_⟩)))⟩)));have h:=h _ (UH (fL x.signs x.signs.length i:Nat));unfold fR at h;revert h;have oH:= @rO x.signs x.signs.length i;generalize fL x.signs x.signs.length i=f at oH;intro h;refine aA rfl (aW rfl (cV (bZ (fun U=>rfl) (aE B 17 rfl rfl rfl ?_))));show yQ g 10 C ρ _ _ _ (((f:Nat):Int) !=((0:Nat):Int)) _ _;rw[show(((f:Nat):Int) !=((0:Nat):Int))=!(f==0) from congrArg (!·) sO]
 by_cases hf:f=0
 ·rw[if_neg fun e=>e.1 hf] at h;rw[beq_iff_eq.mpr hf];exact .p1 (.p2 (aC (aC h)))
 ·rw[beq_eq_false_iff_ne.mpr hf];have fl:=oH hf;refine .p2 (eP (aL rfl (mD (fun U U U=>rfl) (fun U U U=>rfl) (aE B 8 rfl rfl rfl (aE B 17 rfl rfl rfl (.mk x.signs f rfl rfl fl (q5 (Nat.le_of_lt fl) (q5 hz (aR rfl))) _ rfl (aE B 9 rfl rfl rfl ?_)))))));show yT g 10 C ρ _ _ _ _ (decide ((x.signs.getD f gD).2.1=x.line)) _ _
  by_cases hL:(x.signs.getD f gD).2.1=x.line
  ·rw[u7 hL];rw[if_pos ⟨hf,hL⟩] at h;exact .p1 (aA rfl (aD rfl (B.loc (x:="end") rfl rfl).1 (aE B 17 rfl rfl rfl ⟨_,.cM 18 rfl rfl,aC (aC h)⟩)))
  ·rw[u0 hL];rw[if_neg fun e=>hL e.2] at h;exact .p2 (aC (aC h))
theorem YA(F:aP g)(LF:iM g)(B:Bd C (top 42))(hS:Wt x.signs)(hw:w.ok=true)(ht:text.length<=900)(hg:(bE x.last [64] x.gap).length<=10)(he:o.dD=.val (.int 1))(hd:o.depth=.val (.int d))(SG:d<=100)
  (h:∀w:W2,w.ok=true->mE g 10 C ρ (execs (dC.drop 21) C.env) (Xa w o x (text++(bE x.last [64] x.gap++[64])) (.val (.int ((text++(bE x.last [64] x.gap++[64])).length-1:Nat))) (.val (.int (oC x.signs x.line d x.signs.length:Nat)))) none):
  mE g 10 C ρ (execs (dC.drop 20) C.env) (Xa w o x text (.val .none) (.val (.int x.signs.length))) none:=by
 have hz:=hS.z;obtain⟨tC,Fq,vW,Vw,Cb⟩:=o;cases he;cases hd;refine cS rfl (aW rfl (aL rfl (aE B 2 rfl rfl rfl (aQ ?_))));refine .p1 (aA rfl (vU (B.loc (x:="text") rfl rfl) (aN 7 rfl) (Bi (gY (D':=0) B.hh (LF.k 3 rfl) (aR rfl) rfl (cR (LF.gl 3 rfl) (B.glob rfl) rfl ⟨rfl,aE B 11 rfl rfl rfl (aB (aE B 12 rfl rfl rfl (Tt LF (sign:=[64]) (aB (.mk _ _ rfl rfl ?_ ⟨_,rfl,?_,_,.cM 7 rfl rfl,?_⟩)))))⟩)))))
 ·rw[kS];exact q5 (Nat.add_le_add_right hg 1) (aR rfl)
 ·show(st text).length+(st (bE x.last [64] x.gap)++st [64]).length<=_;rw[uM,kS,kS,q6];exact q5 (Nat.add_le_add ht (Nat.add_le_add_right hg 1)) (aR rfl)
 have et:st text++(st (bE x.last [64] x.gap)++st [64])=st (text++(bE x.last [64] x.gap++[64])):=by rw[uM,uM]
 revert h;show _->SW g 10 C ρ _ _ (Mg (_,.val (.str (st text++(st (bE x.last [64] x.gap)++st [64])))) 7 _) _ _;rw[et];have tl:(text++(bE x.last [64] x.gap++[64])).length<=1000:=by
  rw[q6,q6];exact q5 (Nat.add_le_add ht (Nat.add_le_add_right hg 1)) (aR rfl)
 have tp:1<=(text++(bE x.last [64] x.gap++[64])).length:=by
  rw[q6,q6];exact q5 (Nat.le_add_left 1 _) (Nat.le_add_left _ _)
 generalize text++(bE x.last [64] x.gap++[64])=t2 at tl tp;intro h;have e2:((t2.length:Int)-1)=((t2.length-1:Nat):Int):=(Int.ofNat_sub tp).symm;refine aA rfl (aD rfl (B.loc (x:="place") rfl rfl).1 (tR (rC rfl (dY (F.n 0 rfl) rfl (aR rfl) (B.glob rfl) rfl ⟨rfl,aE B 7 rfl rfl rfl ⟨by rw[kS];exact q5 tl (aR rfl),aQ ⟨_,_,rfl,rfl,_,.cM 13 rfl rfl,?_⟩⟩⟩))));rw[kS,e2];refine aA rfl (pK B.hh (B.loc (x:="wide") rfl rfl) rfl d (-1) (d+1) (DJ ⟨tC,Fq,.val (.int 1),Vw,.val (.int d)⟩ x t2 (.val (.int (t2.length-1:Nat))) d (oC x.signs x.line d x.signs.length)) (dY (F.n 5 rfl) rfl (aR rfl) (B.glob rfl) rfl ⟨rfl,aE B 4 rfl rfl rfl (wH (aQ ⟨_,rfl,wH (aQ ⟨_,rfl,.mk _ (.down d (q5 SG (aR rfl))) (.mk w x.signs.length hw rfl rfl (Zf _ _ d _))⟩)⟩))⟩) ?_ ?_ fun U=>rfl)
 ·rintro i l s oH q_
  refine q_ _ ?_;clear q_
  rintro w en hw rfl rfl hk
  rw[show((d:Int)+(i:Int) * (-1))=((d-i:Nat):Int) from by rw[Int.mul_neg,Int.mul_one,Int.ofNat_sub (Nat.le_of_lt_succ oH)];rfl];refine(.mk _ (.cM 19 rfl rfl) ?_);refine d0 (w:={w with wide:=.val (.int (d-i:Nat))}) (i:=d-i) F LF B hS rfl (W2.UG hw _) fun w' TJ=>(.mk w' _ TJ rfl rfl ?_)
  rw[←hk,Ha oH];show _=Tj x.signs x.line (d+1-(i+1)) ((fR x.signs x.signs.length x.line ((d+1-(i+1):Nat):Int)).getD en);rw[show d-i=d+1-(i+1) from(Nat.add_sub_add_right d 1 i).symm]
 ·rintro l s q_
  refine q_ _ ?_;clear q_
  rintro w en hw rfl rfl hk
  rw[Nat.sub_self] at hk;have hk:en=_:=hk;subst hk;exact aC ⟨rfl,h w hw⟩
end
end
noncomputable def Hk(p:Option Nat):LV:=Option.casesOn p (.val .none) fun n=>.val (.int (n:Nat))
noncomputable def Fb(e:Int)(p:Option Nat):List V:=Option.casesOn p ((if e=0 then[kC (.str "<scalar>") (.str "z") .none,lB "<block end>"] else[])++[lB "<stream end>"]) fun U=>[]
noncomputable def uC(e:Int)(x:LS)(en:Nat)(p:Option Nat):List V:=
 (([cH]++(if e=0/\(bD x.signs).contains 1=true then[lB "<block mapping start>"] else[]))++fl (bD x.signs) 1 ((cX x.signs).take (en-1)))++Fb e p
theorem Gn(signs:List Sn):(cX signs).take (signs.length-1)=cX signs:=by
 refine List.take_of_length_le (r9 ?_);unfold cX;rw[t7,List.length_tail]
section
variable{D:Nat}{C:Cx}{X:eZ}
section
variable{o:O5}{x:LS}{e:Int}
def CD(g:Gl)(C:Cx)(ρ:dN)(o:O5)(x:LS)(e:Int)(y:Lw):Prop:=∀(w:W2) (en:Nat),w.ok=true->1<=en->en<=x.signs.length->uC e x en y.place=y.fX->mE g 10 C ρ (execs (dC.drop 21) C.env) (Xa w o x y.text (Hk y.place) (.val (.int en))) none
theorem Ti(x:LS)(line:Int):∀(w en:Nat),en<=x.signs.length->oC x.signs line w en<=x.signs.length:=by
 have key:∀(l:Int) (en:Nat),en<=x.signs.length->(fR x.signs x.signs.length line l).getD en<=x.signs.length:=fun l en h=>by
  unfold fR
  by_cases hc:fL x.signs x.signs.length l≠0/\(x.signs.getD (fL x.signs x.signs.length l) gD).2.1=line
  ·rw[if_pos hc];exact Nat.le_of_lt (rO hc.1)
  ·rw[if_neg hc];exact h
 intro w;induction w with
 |zero=>exact fun en h=>key 0 en h
 |succ w ih=>exact fun en h=>ih _ (key _ en h)
theorem Th(x:LS)(line:Int):∀(w en:Nat),1<=en->1<=oC x.signs line w en:=by
 have key:∀(l:Int) (en:Nat),1<=en->1<=(fR x.signs x.signs.length line l).getD en:=fun l en h=>by
  unfold fR
  by_cases hc:fL x.signs x.signs.length l≠0/\(x.signs.getD (fL x.signs x.signs.length l) gD).2.1=line
  ·rw[if_pos hc];exact Nat.pos_of_ne_zero hc.1
  ·rw[if_neg hc];exact h
 intro w;induction w with
 |zero=>exact fun en h=>key 0 en h
 |succ w ih=>exact fun en h=>ih _ (key _ en h)
theorem XZ(F:aP g)(LF:iM g)(B:Bd C (top 42))(hS:Wt x.signs)(hw:w.ok=true)(ht:x.text.length<=900)(hg:(bE x.last [64] x.gap).length<=10)(he:o.dD=.val (.int e))(hd:e=1->o.depth=.val (.int d))(SG:d<=100)(h:CD g C ρ o x e (xT e d x)):
  mE g 10 C ρ (execs (dC.drop 19) C.env) (Wz w o x (yE e (bD x.signs) x.text.length) (.val (.lst ((bD x.signs).map kV))) (.val (.int (Tf e (bD x.signs) x.signs.length:Nat)))) none:=by
 have n5:=he;have CQ:=hd;have YI:=fun(w:W2) (hw:w.ok=true) (hd:o.dD=.val (.int 1)) (vN:o.depth=.val (.int d))=> @YA g ρ C w o x x.text d F LF B hS hw ht hg hd vN SG;obtain⟨tC,Fq,vW,Vw,Cb⟩:=o;cases he;unfold CD xT at h;unfold yE Tf;refine cS rfl (aW rfl (aL rfl (aE B 2 rfl rfl rfl (aQ ?_))));show yT g 10 C ρ _ _ _ _ (decide (e=0)) _ _
 by_cases h0:e=0
 ·rw[u7 h0];refine .p1 (aA rfl (vU (B.loc (x:="text") rfl rfl) (aN 7 rfl) (aB ⟨_,rfl,by rw[kS];exact q5 (Nat.add_le_add_right ht 2) (by decide),_,.cM 7 rfl rfl,aC ⟨rfl,?_⟩⟩)));refine cS rfl (aW rfl (aL rfl (aE B 2 rfl rfl rfl (aQ ?_))));show yT g 10 C ρ _ _ _ _ (decide (e=1)) _ _;rw[u0 (by rw[h0];decide)];refine .p2 (aC ⟨rfl,?_⟩);have et:st x.text++(" z":Str)=st (x.text++[32,122]):=uM x.text [32,122];rw[et];rw[if_pos h0] at h;cases hc:(bD x.signs).contains 1 with
  |true=>
   rw[hc,if_pos rfl] at h;rw[if_neg (fun z=>nomatch z.2),if_neg (fun z=>nomatch z.2)]
   refine h w x.signs.length hw hS.p (w7 _) ?_;unfold uC Fb;rw[Gn,if_pos ⟨h0,hc⟩];show _++((if e=0 then _ else _)++_)=_;rw[if_pos h0];simp only[r7,List.cons_append,List.nil_append]
  |false=>
   rw[hc,if_neg Bool.false_ne_true] at h;rw[if_pos ⟨h0,rfl⟩,if_pos ⟨h0,rfl⟩];refine h w (x.signs.length-1) hw (Nat.le_sub_of_add_le hS.p2) (Nat.sub_le _ _) ?_;unfold uC Fb;rw[if_neg fun z=>Bool.false_ne_true (hc.symm.trans z.2),Nat.sub_sub];simp only[w8,List.cons_append,List.nil_append]
 ·rw[u0 h0,if_neg (fun z=>h0 z.1),if_neg (fun z=>h0 z.1)];rw[if_neg h0] at h;refine .p2 (aC ⟨rfl,?_⟩)
  by_cases h1:e=1
  ·subst h1;rw[if_pos rfl] at h;refine YI w hw rfl (hd rfl) fun w hw=>h w _ hw (Th x x.line d _ hS.p) (Ti x x.line d _ (w7 _)) ?_;unfold uC Fb;rw[if_neg fun z=>h0 z.1];simp only[w8,List.cons_append,List.nil_append]
  ·rw[if_neg h1] at h;refine cS rfl (aW rfl (aL rfl (aE B 2 rfl rfl rfl (aQ ?_))));show yT g 10 C ρ _ _ _ _ (decide (e=1)) _ _;rw[u0 h1];refine .p2 (aC ⟨rfl,h w x.signs.length hw hS.p (w7 _) ?_⟩);unfold uC Fb;rw[Gn,if_neg fun z=>h0 z.1];show _++((if e=0 then _ else _)++_)=_;rw[if_neg h0];simp only[w8,List.cons_append,List.nil_append]
end
end
theorem Pe{i:Nat}(h:1+i<signs.length):(cX signs).take (i+1)=(cX signs).take i++[lJ (signs.getD (1+i) gD).1]:=by
 unfold cX;rw[List.take_add_one,List.getElem?_map,List.getElem?_tail,v7 1 i,x8];rw[v7 1 i] at h;rw[List.getElem?_eq_getElem h];rfl
theorem Wm(s:List Nat):Ez Wq (vF.map (·.2)) (st s) (kC (sv s) .none .none)=lJ s:=Oa s _ vF
section
variable{g:Gl}{D:Nat}{ρ:dN}{C:Cx}{σ:bX}{X:eZ}
noncomputable abbrev Jf(w:W2)(o:O5)(x:LS)(text:List Nat)(place end_:LV)(fX:List V):aM:=lw w o.script o.head o.dD o.row o.depth (.val (sv text)) (.val (.lst (x.signs.map Jw))) (.val (.int x.line)) (.val (.int x.level)) (.val (sv x.last)) (.val (sv x.gap)) place (.val (.lst ((bD x.signs).map kV))) end_ (.ml fX) .un .un .un .un .un
noncomputable def eB:List Stmt:=tM dC 23 0
def EJ(o:O5)(x:LS)(text:List Nat)(place end_:LV)(base:List V)(i:Nat)(l:aM)(s:bX):Prop:=∀Ω:Prop,(∀(w:W2) (hw:w.ok=true) (el:l=Jf w o x text place end_ (base++fl (bD x.signs) 1 ((cX x.signs).take i))) (es:s=none),Ω)->Ω
theorem EJ.mk{o:O5}{x:LS}{place end_:LV}{base:List V}{i:Nat}{l:aM}{s:bX}(w:W2)(hw:w.ok=true)(el:l=Jf w o x text place end_ (base++fl (bD x.signs) 1 ((cX x.signs).take i)))(es:s=none):EJ o x text place end_ base i l s:=fun U φ=>φ w hw el es
section
variable{w:W2}{o:O5}{x:LS}{e:Int}{text:List Nat}{place end_:LV}{en i d:Nat}{fX:List V}{P:aM->bX->Prop}{Q:eM}
theorem e1(F:aP g)(LF:iM g)(B:Bd C (top 42))(hS:Wt x.signs)(Qk:w.bN=.val (.int (i:Nat)))(hi:i<x.signs.length)(hl:fX.length<=1000)
  (h:P (Jf w o x text place end_ (fX++[lJ (x.signs.getD i gD).1])) σ):SW g 10 C ρ (fun U U U=>False) (eB.drop 1) (Jf w o x text place end_ fX) σ (pH P Q):=by
 obtain⟨n_,nH,eQ,jJ,fY,jK⟩:=w;cases Qk;have iz:i<=1000:=q5 (Nat.le_of_lt hi) (q5 hS.z (aR rfl));refine aA rfl (cJ (B.int rfl) rfl (cF (B.loc (x:="due") rfl rfl) (aN 20 rfl) ⟨_,rfl⟩ rfl (Mv (AP rfl rfl rfl) rfl (gY (D':=0) B.hh (LF.k 1 rfl) (aR rfl) rfl (cR (LF.gl 1 rfl) (B.glob rfl) rfl ⟨rfl,Zm LF (.mk Wq (vF.map (·.2)) rfl ?_)⟩)))));refine mD (fun U U U=>rfl) (fun U U U=>rfl) (aE B 8 rfl rfl rfl (aE B 16 rfl rfl rfl (.mk x.signs i rfl rfl hi iz _ rfl ?_)));refine eG rfl (mD (fun U U U=>rfl) (fun U U U=>rfl) (aE B 8 rfl rfl rfl (aE B 16 rfl rfl rfl (.mk x.signs i rfl rfl hi iz _ rfl (bT (bT (fun U φ=>φ _ _ rfl ?_)))))));rw[←Wm] at h;exact⟨_,_,aN 20 rfl,q5 hl (aR rfl),.cM 20 rfl rfl,rfl,aC h⟩
theorem e0(F:aP g)(LF:iM g)(B:Bd C (top 42))(hS:Wt x.signs)(Qk:w.bN=.val (.int (i:Nat)))(hi:i<x.signs.length)(hl:fX.length<=900)
  (h:P (Jf w o x text place end_ (fX++((if(bD x.signs).contains i=true then[lH] else[])++[lJ (x.signs.getD i gD).1]))) σ):SW g 10 C ρ (fun U U U=>False) eB (Jf w o x text place end_ fX) σ (pH P Q):=by
 have fin:=fun(fX:List V)=> @e1 g ρ C σ w o x text place end_ i fX P Q F LF B hS Qk hi;obtain⟨n_,nH,eQ,jJ,fY,jK⟩:=w;cases Qk;refine aA rfl (aW rfl (gR false rfl rfl (aE B 16 rfl rfl rfl (aE B 15 rfl rfl rfl (tJ.k (n:=i) (bD x.signs) rfl rfl ?_)))));rw[Bool.false_bne];cases hc:(bD x.signs).contains i with
 |false=>
  rw[hc] at h;exact .p2 (aC (fin fX (q5 hl (aR rfl)) h))
 |true=>
  rw[hc,if_pos rfl,←r7] at h;exact .p1 (aA rfl (cJ (B.int rfl) rfl (cF (B.loc (x:="due") rfl rfl) (aN 20 rfl) ⟨_,rfl⟩ rfl (eG rfl (aB (bT (bT ⟨_,_,aN 20 rfl,q5 hl (aR rfl),.cM 20 rfl rfl,rfl,aC (fin (fX++[lH]) (by rw[q6];exact q5 (Nat.add_le_add_right hl 1) (aR rfl)) h)⟩)))))))
theorem Ew(e:Int)(x:LS):([cH]++(if e=0/\(bD x.signs).contains 1=true then[lB "<block mapping start>"] else[])).length<=2:=by
 by_cases h:e=0/\(bD x.signs).contains 1=true
 ·rw[if_pos h];exact w7 _
 ·rw[if_neg h];exact Nat.le_of_ble_eq_true rfl
theorem xE(keys:List Nat)(signs:List Sn)(k:Nat)(hz:signs.length<=200):(fl keys 1 ((cX signs).take k)).length<=400:=by
 refine q5 (rP _ _ _).2 ?_;refine q5 (Nat.mul_le_mul_left 2 (?_:_<=200)) (w7 400);rw[List.length_take];refine q5 (Nat.min_le_right _ _) ?_;unfold cX;rw[t7,List.length_tail];exact q5 (Nat.sub_le _ _) hz
theorem YC(B:Bd C (top 42)){p:Option Nat}(he:o.dD=.val (.int e))(hl:fX.length<=600)
  (h:mE g 10 C ρ (execs (dC.drop 25) C.env) (Jf w o x text (Hk p) end_ (fX++Fb e p)) none):mE g 10 C ρ (execs (dC.drop 24) C.env) (Jf w o x text (Hk p) end_ fX) none:=by
 obtain⟨tC,Fq,vW,Vw,Cb⟩:=o;cases he;cases p with
 |some p=>
  have h:mE g 10 C ρ (execs (dC.drop 25) C.env) (Jf w _ x text (Hk (some p)) end_ (fX++[])) none:=h;rw[w8] at h;refine cS rfl (aW rfl (aL rfl (aE B 13 rfl rfl rfl (bT ?_))));exact⟨fun h=>(nomatch h),fun U=>aC ⟨rfl,h⟩⟩
 |none=>
  have h:mE g 10 C ρ (execs (dC.drop 25) C.env) (Jf w _ x text (Hk none) end_ (fX++((if e=0 then[kC (.str "<scalar>") (.str "z") .none,lB "<block end>"] else[])++[lB "<stream end>"]))) none:=h;rw[←r7] at h;refine cS rfl (aW rfl (aL rfl (aE B 13 rfl rfl rfl (bT ?_))));refine⟨fun U=>?_,fun h=>(nomatch h)⟩
  refine aA rfl (zP (B.loc (x:="due") rfl rfl) (aN 20 rfl) (mB (aL rfl (aE B 2 rfl rfl rfl (aQ ?_)))));show ED g 10 C ρ _ _ _ _ (decide (e=0)) _ _
  by_cases h0:e=0
  ·rw[u7 h0];rw[if_pos h0] at h;refine .p1 (sF rfl (eG rfl (aB (aB (bT (eG rfl (aB (bT (bT ⟨(by decide:(2:Nat)<=sizeLine),.mk _ rfl (aN 20 rfl) (q5 (Nat.add_le_add_right hl 2) (aR rfl)) _ (.cM 20 rfl rfl) ?_⟩)))))))));exact aA rfl (cJ (B.int rfl) rfl (cF (B.loc (x:="due") rfl rfl) (aN 20 rfl) ⟨_,rfl⟩ rfl (eG rfl (aB (bT (bT ⟨_,_,aN 20 rfl,by rw[q6];exact q5 (Nat.add_le_add_right hl 2) (aR rfl),.cM 20 rfl rfl,rfl,aC ⟨rfl,h⟩⟩))))))
  ·rw[u0 h0];rw[if_neg h0] at h;refine .p2 (sF rfl ⟨(by decide:(0:Nat)<=sizeLine),.mk _ rfl (aN 20 rfl) (q5 hl (aR rfl)) _ (.cM 20 rfl rfl) ?_⟩);exact aA rfl (cJ (B.int rfl) rfl (cF (B.loc (x:="due") rfl rfl) (aN 20 rfl) ⟨_,rfl⟩ rfl (eG rfl (aB (bT (bT ⟨_,_,aN 20 rfl,by rw[w8];exact q5 hl (aR rfl),.cM 20 rfl rfl,rfl,aC ⟨rfl,h⟩⟩))))))
theorem YB(F:aP g)(LF:iM g)(B:Bd C (top 42)){p:Option Nat}(hS:Wt x.signs)(hw:w.ok=true)(he:o.dD=.val (.int e))(h1:1<=en)(AB:en<=x.signs.length)
  (h:∀w:W2,w.ok=true->mE g 10 C ρ (execs (dC.drop 25) C.env) (Jf w o x text (Hk p) (.val (.int en)) (uC e x en p)) none):mE g 10 C ρ (execs (dC.drop 21) C.env) (Xa w o x text (Hk p) (.val (.int en))) none:=by
 have hz:=hS.z;have bl:=Ew e x;unfold uC at h;refine cS rfl (cO (B.loc (x:="due") rfl rfl) rfl (eG rfl (aB (bT (bT ⟨(by decide:(1:Nat)<=sizeLine),_,.cM 20 rfl rfl,rfl,?_⟩)))));have loop:mE g 10 C ρ (execs (dC.drop 23) C.env) (Jf w o x text (Hk p) (.val (.int en)) ([cH]++(if e=0/\(bD x.signs).contains 1=true then[lB "<block mapping start>"] else[]))) none:=by
  revert h bl;generalize [cH]++(if e=0/\(bD x.signs).contains 1=true then[lB "<block mapping start>"] else[])=base;intro h bl;have FX:=NA h1;refine cS rfl (pK B.hh (B.loc (x:="spot") rfl rfl) rfl 1 1 (en-1) (EJ o x text (Hk p) (.val (.int en)) base) (dY (F.n 5 rfl) rfl (aR rfl) (B.glob rfl) rfl ⟨rfl,aQ (aE B 18 rfl rfl rfl (.mk _ (.up 1 _ _ FX (q5 (Nat.sub_le _ _) (q5 AB (q5 hz (aR rfl)))) (aR rfl)) (.mk w hw ?_ rfl)))⟩) ?_ ?_ fun U=>rfl)
  ·rw[List.take_zero];show _=Jf w o x text (Hk p) _ (base++[]);rw[w8]
  ·rintro i l s oH q_
   refine q_ _ ?_;clear q_
   rintro w hw rfl rfl
   have hi:1+i<x.signs.length:=Nat.lt_of_lt_of_le (WM oH) AB;rw[NG i];refine(.mk _ (.cM 16 rfl rfl) ?_);refine e0 (w:={w with bN:=.val (.int (1+i:Nat))}) (i:=1+i) F LF B hS rfl hi ?_ (.mk ({w with bN:=.val (.int (1+i:Nat))}) (W2.DC hw _) ?_ rfl)
   ·rw[q6];exact q5 (Nat.add_le_add bl (xE _ _ _ hz)) (aR rfl)
   ·have hlen:((cX x.signs).take i).length=i:=by
     rw[List.length_take];refine Nat.min_eq_left ?_;unfold cX;rw[t7,List.length_tail];exact Nat.le_sub_of_add_le (by rw[v7];exact Nat.le_of_lt hi)
    rw[Pe hi,kL,hlen,r7];show _=Jf _ o x text (Hk p) _ (base++(_++(fl (bD x.signs) (1+i) [lJ (x.signs.getD (1+i) gD).1])));rw[jR];cases(bD x.signs).contains (1+i)<;>rfl
  ·rintro l s q_
   refine q_ _ ?_;clear q_
   rintro w hw rfl rfl
   refine⟨rfl,YC B he ?_ (h w hw)⟩;rw[q6];exact q5 (Nat.add_le_add bl (xE _ _ _ hz)) (aR rfl)
 clear h;obtain⟨tC,Fq,vW,Vw,Cb⟩:=o;cases he;refine cS rfl (aW rfl (cV (aL rfl (aE B 2 rfl rfl rfl (aQ ?_)))));show yQ g 10 C ρ _ _ _ (decide (e=0)) _ _
 by_cases h0:e=0
 ·rw[u7 h0];refine .p2 (eP (gR false rfl rfl (aQ (aE B 15 rfl rfl rfl (tJ.k (n:=1) (bD x.signs) rfl rfl ?_)))));rw[Bool.false_bne];cases hc:(bD x.signs).contains 1 with
  |false=>
   rw[if_neg fun z=>Bool.false_ne_true (hc.symm.trans z.2),w8] at loop;exact .p2 (aC ⟨rfl,loop⟩)
  |true=>
   rw[if_pos ⟨h0,hc⟩] at loop;exact .p1 (aA rfl (cJ (B.int rfl) rfl (cF (B.loc (x:="due") rfl rfl) (aN 20 rfl) ⟨_,rfl⟩ rfl (eG rfl (aB (bT (bT ⟨_,_,aN 20 rfl,by decide,.cM 20 rfl rfl,rfl,aC ⟨rfl,loop⟩⟩)))))))
 ·rw[u0 h0];rw[if_neg fun z=>h0 z.1,w8] at loop;exact .p1 (.p2 (aC ⟨rfl,loop⟩))
end
end
noncomputable def pX(r:V):Bool:=r.sel false (t:=fun us=>us.all (V.mJ 1))
theorem Gm{r:V}(h:pX r=true):∃us,r=.tup us/\us.all (V.mJ 1)=true:=by
 cases r with
 |tup us=>exact⟨us,rfl,h⟩
 |_=>exact nomatch h
theorem Av{fX:List V}(h:fX.all pX=true):V.mJ 3 (.lst fX)=true:=by
 show fX.all (V.mJ 2)=true;refine u5.mpr fun r hr=>?_;refine bQ (Gm (u5.mp h r hr)) fun us fE hu=>?_;subst fE;exact hu
theorem Aa{f:Nat}:∀{n:Nat} {z:Z} {got:List V} {r:List V×Option (V×V)},mK f n z got=some r->∃ys,r.1=got++ys
 |0,_,_,_,h=>nomatch h
 |n+1,z,got,r,h=>by
  rw[Li] at h;cases hg:fZ f f z with
  |ok o z2=>
   rw[hg] at h;cases o with
   |none=>cases h;exact⟨[],(w8 _).symm⟩
   |some t=>
    obtain⟨ys,e⟩:=Aa h;exact⟨_::ys,by rw[e,r7];rfl⟩
  |err c p=>rw[hg] at h;cases h;exact⟨[],(w8 _).symm⟩
  |wall=>rw[hg] at h;exact nomatch h
structure En(r:List V×Option (V×V))(fX:List V)(pv:V):Prop where
 tell:r.1.map dG=fX
 rows:fX.all pX=true
 len:fX.length<=800
 at_:pv.atom=true
 ok:r.2=none->pv=.none
 bad:∀c p,r.2=some (c,p)->∃b i l cl,p=kZ b i l cl/\pv=.int i
section
variable{C:Cx}
noncomputable def PZ(got refused token fault:LV):aM:=[("got",got),("refused",refused),("token",token),("fault",fault)]
noncomputable def DH(pre:aM)(got refused token fault:LV):aM:=pre++PZ got refused token fault
inductive OM(r:List V×Option (V×V))(fX:List V)(pre:aM)(k:Nat)(l:aM)(s:bX):Prop
 |go(t:V)(z:Z)(ka:Addr)(ko:Obj)(got:List V)(hd:mK 1000 k z (got++[t])=some r)(ok:Ok z)(el:l=DH pre (.ml (got.map dG)) (.val .none) (.val t) .un)(es:s=some (z.sc ka ko))
 |fin(hr:r.2=none)(el:l=DH pre (.ml fX) (.val .none) (.val .none) .un)
theorem pT{pre:aM}{a b c d:LV}{p:Str×LV}(i:Nat)(h:lR (PZ a b c d) i=some p):p∈DH pre a b c d:=q7 pre (aN i h)
theorem dW.RT{lv:LV}(pre:aM){l l':aM}(h:dW x lv l l'):dW x lv (pre++l) (pre++l'):=by
 induction pre with
 |nil=>exact h
 |cons p r ih=>exact .tail ih
theorem dW.rd{pre:aM}{a b c d:LV}{lv:LV}(i:Nat)(hl:Nat.blt i 4=true)(h:Jg (PZ a b c d) i=x):dW x lv (DH pre a b c d) (pre++Mg (x,lv) i (PZ a b c d)):=.RT pre (.cM i hl h)
noncomputable def RB:Fl->aM->bX->Prop:=fun f U U=>f=.ret (.bool true)
noncomputable def OT(g:Gl)(C:Cx)(ρ:dN):yO->aM->bX->Prop:=Ym g 10 C ρ "fault" 511 (tM dC 28 1) (lQ g 10 C ρ (fun U U U=>False) (dC.drop 29) RB)
section
variable{fX:List V}{pv:V}{r:List V×Option (V×V)}{pre:aM}{s:bX}{X:eZ}{LR mV NY GC:LV}
theorem Vq(B:Bd C (top 42))(R:En r fX pv)(qN:(("due":Str),LV.val (.lst fX))∈pre)(Jd:(("place":Str),LV.val pv)∈pre):SW g 10 C ρ (fun U U U=>False) (dC.drop 29) (DH pre (.ml fX) (.val pv) mV GC) s RB:=by
 refine aA rfl (bV (DT rfl (aR rfl) (eW rfl (jC (B.loc (x:="got") rfl rfl) (pT 0 rfl) (.rd 0 rfl rfl) ?_))));refine bY (B.loc (x:="refused") rfl rfl) (pT 1 rfl) ⟨(by decide:(2:Nat)<=sizeLine),eW rfl (bY (B.loc (x:="due") rfl rfl) (List.mem_append_left _ qN) (bY (B.loc (x:="place") rfl rfl) (List.mem_append_left _ Jd) ⟨(by decide:(2:Nat)<=sizeLine),.mk _ rfl rfl ?_ rfl⟩))⟩;rw[List.all_cons,List.all_cons,Av R.rows,Bool.true_and];have:=R.at_;revert this;cases pv<;>first|exact fun U=>rfl|exact fun h=>nomatch h
theorem IE(F:aP g)(LF:iM g)(B:Bd C (top 42))(R:En r fX pv)(qN:(("due":Str),LV.val (.lst fX))∈pre)(Jd:(("place":Str),LV.val pv)∈pre){got:List V}{c p:V}(hr:(got,some (c,p))=r){x:yO}(hx:Ek x c p):OT g C ρ x (DH pre (.ml (got.map dG)) (.val .none) mV .un) s:=by
 obtain⟨l8,o9,p8⟩:=x;obtain⟨rfl,rfl,c',p',rfl⟩:=hx;have R':=R;subst hr;refine QG (R.bad c p rfl) fun b i l cl fE qR=>?_;subst fE qR;refine(.mk rfl _ (.rd 3 rfl rfl) (fun hv=>?_));have nd:sI.Nodup:=by decide
 refine aA rfl (aD rfl (B.loc (x:="refused") rfl rfl).1 (jD rfl (jD rfl (bY (B.loc (x:="fault") rfl rfl) (pT 3 rfl) ⟨511,sI,_,_,rfl,LF.err,nd,.tail _ (.tail _ (.tail _ (.head _))),rfl,53,_,_,.int i,rfl,F.CK,by decide+kernel,.tail _ (.head _),rfl,_,(.rd 1 rfl rfl),aC (.mk rfl _ (.rd 3 rfl rfl) ?_)⟩))));have e:=R'.tell;have e:got.map dG=fX:=e;rw[e];exact Vq B R' qN Jd
noncomputable abbrev Jp(pre:aM)(LR mV:LV):aM:=DH pre LR (.val .none) mV .un
def RC(r:List V×Option (V×V))(fX:List V)(pre:aM)(k:Nat)(got:List V)(mV:LV)(v:V)(l:aM)(s:bX):Prop:=∀Ω:Prop,(∀(hj:OM r fX pre k (Jp pre (.ml (got.map dG)) (.val v)) s) (el:l=Jp pre (.ml (got.map dG)) mV),Ω)->Ω
theorem RC.mk{r:List V×Option (V×V)}{fX:List V}{pre:aM}{k:Nat}{got:List V}{mV:LV}{v:V}{l:aM}{s:bX}(hj:OM r fX pre k (Jp pre (.ml (got.map dG)) (.val v)) s)(el:l=Jp pre (.ml (got.map dG)) mV):RC r fX pre k got mV v l s:=fun U φ=>φ hj el
theorem Md(F:aP g)(LF:iM g)(B:Bd C (top 42))(R:En r fX pv)(qN:(("due":Str),LV.val (.lst fX))∈pre)(Jd:(("place":Str),LV.val pv)∈pre)(Ui:(("scanner":Str),LV.val .self)∈pre){k:Nat}{got:List V}{p1 p2 p3:Pos}(hm:dJ (.Name "scanner" p1) "get_token" p2 p3 [] C.env)(Hi:mK 1000 (k+1) z got=some r)(ok:Ok z):
  EW g 10 C ρ (OT g C ρ) (.Call (.Attribute (.Name "scanner" p1) "get_token" p2) [] [] p3) (Jp pre (.ml (got.map dG)) mV) (some (z.sc ka ko)) (RC r fX pre k got mV):=by
 refine uQ (D':=9) B.hh (F.m 6 rfl) (by decide+kernel) (aR rfl) hm rfl (bY (B.loc (x:="scanner") rfl rfl) (List.mem_append_left _ Ui) (fH rfl rfl ?_));refine Gu F 1000 1000 z ka ko _ _ ok ?_;rw[Li] at Hi;revert Hi;generalize fZ 1000 1000 z=a;intro Hi;cases a with
 |wall=>exact nomatch Hi
 |err c p=>exact fun x s hx=>IE F LF B R qN Jd (Option.some.inj Hi) hx
 |ok o z2=>
  induction o with
  |none=>
   have e:=Option.some.inj Hi;have e2:got.map dG=fX:=by rw[←R.tell,←e]
   exact fun ka ko qP=>(.mk (by rw[e2];exact .fin (by rw[←e]) rfl) rfl)
  |some t=>exact fun ka ko qP=>(.mk (.go t z2 ka ko got Hi qP rfl rfl) rfl)
theorem Vr(R:En r fX pv){got:List V}{t:V}{k:Nat}(Hi:mK 1000 k z (got++[t])=some r):Sg t (dG t)/\got.length<=800:=by
 obtain⟨ys,ZW⟩:=Aa Hi;have e:=R.tell;rw[ZW,u6,u6] at e;have hm:dG t∈fX:=by rw[←e];exact List.mem_append_left _ (q7 _ (.head _))
 refine bQ (Gm (u5.mp R.rows _ hm)) fun us h1 h2=>?_;refine⟨IM rfl h1 h2,?_⟩;have l:=R.len;rw[←e,q6,q6,t7] at l;exact q5 (q5 (x7 ..) (x7 ..)) l
theorem BH(F:aP g)(LF:iM g)(B:Bd C (top 42))(R:En r fX pv)(qN:(("due":Str),LV.val (.lst fX))∈pre)(Jd:(("place":Str),LV.val pv)∈pre)(Ui:(("scanner":Str),LV.val .self)∈pre){t:V}{k:Nat}{got:List V}(Hi:mK 1000 k z (got++[t])=some r)(ok:Ok z){Q:eM}:
  SW g 10 C ρ (OT g C ρ) (tM (tM dC 28 0) 1 0) (Jp pre (.ml (got.map dG)) (.val t)) (some (z.sc ka ko)) (Qe (OM r fX pre) k Q):=by
 obtain⟨tr,gl⟩:=Vr R Hi;refine aA rfl (cJ (B.int rfl) rfl (cF (B.loc (x:="got") rfl rfl) (pT 0 rfl) ⟨_,rfl⟩ rfl (gY (D':=0) B.hh (LF.k 5 rfl) (aR rfl) rfl (cR (LF.gl 5 rfl) (B.glob rfl) rfl ⟨rfl,bY (B.loc (x:="token") rfl rfl) (pT 2 rfl) (Zq LF tr ⟨_,_,(pT 0 rfl),by rw[t7];exact q5 gl (aR rfl),(.rd 0 rfl rfl),rfl,?_⟩)⟩))));induction k with
 |zero=>exact nomatch Hi
 |succ k=>
 have e:got.map dG++[dG t]=(got++[t]).map dG:=by rw[u6];rfl
 rw[e];refine aA rfl (aD rfl (B.loc (x:="token") rfl rfl).1 ((Md F LF B R qN Jd Ui ⟨_,rfl⟩ Hi ok).mono ?_))
 rintro v l s q_
 refine q_ _ ?_;clear q_
 rintro hj rfl
 exact⟨_,(.rd 2 rfl rfl),aC ⟨k,x9 k,hj⟩⟩
theorem BG(F:aP g)(LF:iM g)(B:Bd C (top 42))(R:En r fX pv)(qN:(("due":Str),LV.val (.lst fX))∈pre)(Jd:(("place":Str),LV.val pv)∈pre)(Ui:(("scanner":Str),LV.val .self)∈pre)(NQ:Ok (Z.init text))(hr:mK 1000 1000 (Z.init text) []=some r):
  SW g 10 C ρ (OT g C ρ) (tM dC 28 0) (Jp pre (.ml []) .un) (some ((Z.init text).sc ka ko)) (lQ g 10 C ρ (fun U U U=>False) (dC.drop 29) RB):=by
 refine aA rfl (aD rfl (B.loc (x:="token") rfl rfl).1 ((Md F LF B R qN Jd Ui (k:=999) (got:=[]) ⟨_,rfl⟩ hr NQ).mono ?_))
 rintro v l s q_
 refine q_ _ ?_;clear q_
 rintro hj rfl
 refine⟨_,(.rd 2 rfl rfl),?_⟩;refine aA rfl (iV rfl (OM r fX pre) 999 hj ?_);intro k l s hj;induction hj with
 |fin hn el=>
  subst el;have hp:=R.ok hn;subst hp;exact aL rfl (bY (B.loc (x:="token") rfl rfl) (pT 2 rfl) (bT ⟨fun h=>(nomatch h),fun U=>aC (Vq B R qN Jd)⟩))
 |go t z ka ko got Hi ok el es=>
  subst el;subst es;refine aL rfl (bY (B.loc (x:="token") rfl rfl) (pT 2 rfl) (bT ?_));refine((Vr R Hi).1) _ ?_
  rintro Ct ns vs rfl _ _ _ _ _
  exact⟨fun U=>BH F LF B R qN Jd Ui Hi ok,fun h=>nomatch h⟩
end
theorem Ov(F:aP g)(LF:iM g)(B:Bd C (top 42))(mO:C.base=C.h₀){fX:List V}{pv:V}{r:List V×Option (V×V)}(R:En r fX pv)(NQ:Ok (Z.init text))(hr:mK 1000 1000 (Z.init text) []=some r)
  {pre:aM} (qN:(("due":Str),LV.val (.lst fX))∈pre) (Jd:(("place":Str),LV.val pv)∈pre) (Ui:(("scanner":Str),LV.val .self)∈pre):
  mE g 10 C ρ (execs (dC.drop 26) C.env) (DH pre .un .un .un .un) (some ((Z.init text).sc ka ko)):=by
 refine cS rfl (cO (B.loc (x:="got") rfl rfl) rfl ⟨Nat.zero_le _,_,(.rd 0 rfl rfl),rfl,?_⟩);refine cS rfl (aD rfl (B.loc (x:="refused") rfl rfl).1 (bT ⟨_,.rd 1 rfl rfl,rfl,?_⟩));refine Yb ?_;refine F.Wr _ fun fI qual params CW scope dV fW sf cY co U U U=>?_;exact aA rfl (Yj mO co (F.gl 1 rfl) (B.glob rfl) rfl (B.loc (x:="fault") rfl rfl) (BG F LF B R qN Jd Ui NQ hr))
end
section
open PySem
section
variable{s b:List Nat}{ns:List Int}
noncomputable abbrev X1(s b:List Nat):LS:=LS.init.step (s,b)
noncomputable def vP(ns:List Int):List Pr:=gB ns 1
noncomputable def pG(ns:List Int):List Pr:=gB ns 1++List.replicate (cP ns 1) ([93],[32])
theorem CG(hs:s∈aY)(hb:b∈hY):Qw (X1 s b) 10/\(X1 s b).level=1:=by
 have k:∀s∈aY,s∈gO/\bE [91] s []=[]/\aY.contains s=true/\bU.contains s=false:=by decide
 refine rB (k s hs) fun k1 k2 k3 k4=>?_;obtain⟨s1,s2⟩:=kK (rW s k1);have et:(X1 s b).text=s:=by
  show[]++bE [91] s []++s=s;rw[k2];rfl
 refine⟨⟨fun c hc=>s1 c (et▸hc),by rw[et];exact q5 s2 (aR rfl),k1,hb⟩,?_⟩;show(if aY.contains s then kO s 0+1 else _)=1;unfold kO;rw[k3,k4];rfl
theorem wA(hn:ns.length<=11):jE (vP ns)/\rT 1 (vP ns)/\lN (vP ns) 1=cP ns 1/\(vP ns).length<=25/\1<=cP ns 1:=by
 refine Qy (sY ns 1 (aR rfl) (aR rfl)) fun i1 i2 i3 i4 i5 i6=>?_;exact(Xx i1 i2 i5 (by show(gB ns 1).length<=25;exact q5 (r9 i6) (q5 hn (aR rfl))) i3)
theorem Dd(hn:ns.length<=11):jE (pG ns)/\rT 1 (pG ns)/\lN (pG ns) 1=0/\(pG ns).length<=25:=by
 refine Qy (sY ns 1 (aR rfl) (aR rfl)) fun i1 i2 i3 i4 i5 i6=>?_;obtain⟨c1,c2⟩:=Su (cP ns 1);have i5:lN (gB ns 1) 1=cP ns 1:=i5;refine(JU (fun p hp=>?_) (Ge (c:=1) i2 (by rw[i5];exact c1)) ?_ ?_)
 ·rcases List.mem_append.mp hp with hp|hp
  ·exact i1 p hp
  ·rw[List.eq_of_mem_replicate hp];exact⟨(by decide:([93]:List Nat)∈gO),(by decide:([32]:List Nat)∈hY)⟩
 ·show lN (gB ns 1++_) 1=0;unfold lN;rw[List.foldl_append];show lN _ (lN (gB ns 1) 1)=0;rw[i5];exact c2
 ·show(gB ns 1++_).length<=25;rw[q6,List.length_replicate];exact q5 (Nat.add_le_add (q5 (r9 i6) hn) i4) (aR rfl)
theorem Pd(x:LS)(hn:ns.length<=11):bE ((pG ns).foldl LS.step x).last [58] ((pG ns).foldl LS.step x).gap=[32]:=by
 obtain⟨d,hd⟩:∃d,cP ns 1=d+1:=⟨cP ns 1-1,by have:=(wA (ns:=ns) hn).2.2.2.2;exact(Nat.sub_add_cancel this).symm⟩;unfold pG;rw[List.foldl_append,hd,Je];rfl
theorem Gp{x:LS}{n:Nat}(h:x.signs.length<=n+1):(cX x.signs).length<=n:=by
 show(x.signs.tail.map _).length<=n;rw[t7,List.length_tail];exact Nat.sub_le_of_le_add h
theorem Fc{x:LS}{n m:Nat}(h:x.signs.length<=n+1):(fl keys 1 ((cX x.signs).take m)).length<=2 * n:=
 q5 (rP keys _ 1).2 (Nat.mul_le_mul_left 2 (q5 (by rw[List.length_take];exact Nat.min_le_right _ _) (Gp h)))
theorem Lk{x:LS}{n:Nat}(h:x.signs.length<=n+1):(fl keys 1 (cX x.signs)).length<=2 * n:=q5 (rP keys _ 1).2 (Nat.mul_le_mul_left 2 (Gp h))
def XB(row:List Pr)(x:LS)(l:Int):Prop:=∀Ω:Prop,(∀(a1:jE row) (a2:rT 1 row) (a4:row.length<=30) (c1:∀c∈x.text,zG c=true) (tx:x.text.length<=260) (c3:x.last∈gO) (c4:x.gap∈hY) (sl:x.signs.length<=27) (lv:x.level=l),Ω)->Ω
theorem XB.mk{x:LS}{l:Int}(a1:jE row)(a2:rT 1 row)(a4:row.length<=30)(c1:∀c∈x.text,zG c=true)(tx:x.text.length<=260)(c3:x.last∈gO)(c4:x.gap∈hY)(sl:x.signs.length<=27)(lv:x.level=l):XB row x l:=fun U φ=>φ a1 a2 a4 c1 tx c3 c4 sl lv
theorem xb(hs:s∈aY)(hb:b∈hY){l:Int}(a1:jE row)(a2:rT 1 row)(a3:lN row 1=l)(a4:row.length<=25):XB row (row.foldl LS.step (X1 s b)) l:=by
 refine rB (zX row (X1 s b) 10 a1 (CG hs hb).1) fun c1 c2 c3 c4=>?_;refine(.mk a1 a2 (q5 a4 (aR rfl)) c1 (q5 c2 (t9 (Nat.mul_le_mul_left 10 a4) 10)) c3 c4 ?_ ?_)
 ·rw[show(row.foldl LS.step (X1 s b)).signs.length=row.length+2 from Qc row s b];exact Nat.add_le_add_right a4 2
 ·rw[Am row (X1 s b),(CG hs hb).2,a3]
theorem nI{n:Nat}(h:n<=300):(n:Int)+1<=1000:=Int.le_trans (Int.add_le_add_right (Int.ofNat_le.mpr h) 1) (aR rfl)
theorem nN{n:Nat}(h:n<=300):n+1<=1000:=q5 (Nat.succ_le_succ h) (aR rfl)
theorem Lj{x:LS}(h:x.signs.length<=31):(cH::fl (bD x.signs) 1 (cX x.signs)++[lB "<stream end>"]).length<=300:=by
 rw[q6,List.length_cons];exact q5 (Nat.add_le_add_right (Nat.add_le_add_right (Lk (n:=30) h) 1) 1) (aR rfl)
theorem MX(hs:s∈aY)(hb:b∈hY)(hn:ns.length<=11){x:LS}(hx:x=(vP ns).foldl LS.step (X1 s b)):∃r,mG ⟨x.text,cH::fl (bD x.signs) 1 (cX x.signs)++[lB "<stream end>"],none⟩ r:=by
 subst hx;refine yR (wA hn) fun a1 a2 a3 a4 a5=>?_;refine(xb hs hb a1 a2 a3 a4) _ fun a1 a2 a4 c1 tx c3 c4 sl lv=>?_;have t3:=q5 tx (by decide:260<=300);refine Hq (fS Ll hs hb a1 a2 a4 (text:=((vP ns).foldl LS.step (X1 s b)).text) rfl (nN t3)) fun zE jS k w1 w2 w3 w4=>?_;refine jM (yA (w1.Vk (nI t3) (q5 sl (aR rfl)) (by rw[lv];exact Int.ofNat_ne_zero.mpr (Nat.ne_of_gt a5))) w2 (aR rfl) (Lj (q5 sl (aR rfl))) w4) fun r r1 r2 r3=>?_;exact⟨r,c1,q5 tx (aR rfl),r1,r2,.inl ⟨rfl,r3⟩⟩
theorem MY(hs:s∈aY)(hb:b∈hY)(hn:ns.length<=11){x:LS}(hx:x=(pG ns).foldl LS.step (X1 s b)):∃r,mG ⟨x.text,cH::fl (bD x.signs) 1 (cX x.signs)++[lB "<stream end>"],none⟩ r:=by
 subst hx;refine rB (Dd hn) fun a1 a2 a3 a4=>?_;refine(xb hs hb a1 a2 a3 a4) _ fun a1 a2 a4 c1 tx c3 c4 sl lv=>?_;have t3:=q5 tx (by decide:260<=300);refine Hq (fS Ll hs hb a1 a2 a4 (text:=((pG ns).foldl LS.step (X1 s b)).text) rfl (nN t3)) fun zE jS k w1 w2 w3 w4=>?_;refine jM (yA (w1.Ip (nI t3) (q5 sl (aR rfl)) lv) w2 (aR rfl) (Lj (q5 sl (aR rfl))) w4) fun r r1 r2 r3=>?_;exact⟨r,c1,q5 tx (aR rfl),r1,r2,.inl ⟨rfl,r3⟩⟩
theorem MW(hs:s∈aY)(hb:b∈hY)(hn:ns.length<=11){x:LS}(hx:x=(vP ns).foldl LS.step (X1 s b)){t:List Nat}(ht:t=x.text++(bE x.last [64] x.gap++[64])):
  ∃r,mG ⟨t,cH::fl (bD x.signs) 1 ((cX x.signs).take (oC x.signs x.line (cP ns 1) x.signs.length-1)),some (t.length-1)⟩ r:=by
 subst hx;refine yR (wA hn) fun a1 a2 a3 a4 a5=>?_;refine(xb hs hb a1 a2 a3 a4) _ fun a1 a2 a4 c1 tx c3 c4 sl lv=>?_;obtain⟨g1,g2⟩:=kK (qD _ c3 [64] (.head _) _ c4);have tl:t.length<=300:=by
  rw[ht,q6,q6];exact q5 (Nat.add_le_add tx (Nat.add_le_add_right g2 1)) (aR rfl)
 have t1:1<=t.length:=by
  rw[ht,q6,q6,←Nat.add_assoc];exact Nat.le_add_left 1 _
 refine Hq (fS Zl hs hb a1 a2 a4 (text:=t) (by rw[ht,r7,r7];rfl) (nN tl)) fun zE jS k w1 w2 w3 w4=>?_;obtain⟨r,b',l',c',r1,r2,r3⟩:=yB (w1.bad (nI tl) (q5 sl (aR rfl)) (d:=cP ns 1) lv.symm (Nat.ne_of_gt a5)) w2 (aR rfl) (by
  rw[List.length_cons];exact q5 (Nat.succ_le_succ (Fc (n:=30) (q5 sl (aR rfl)))) (aR rfl)) w4
 refine⟨r,fun c hc=>?_,q5 tl (aR rfl),r1,r2,.inr (EC _ b' l' c' rfl ?_)⟩
 ·have hc:c∈t:=hc;rw[ht] at hc
  rcases List.mem_append.mp hc with hc|hc
  ·exact c1 c hc
  ·rcases List.mem_append.mp hc with hc|hc
   ·exact g1 c hc
   ·rw[List.mem_singleton.mp hc];decide
 ·rw[r3,show((t.length:Int)+1-2)=((t.length-1:Nat):Int) from by rw[Int.ofNat_sub t1];exact Int.add_sub_add_right _ 1 1]
theorem MV(hs:s∈aY)(hb:b∈hY)(hn:ns.length<=11){x y:LS}(hx:x=(pG ns).foldl LS.step (X1 s b))(hy:y=x.step ([58],[32])):
  ∃r,mG (if(bD y.signs).contains 1 then⟨y.text++[32,122],[cH,lB "<block mapping start>"]++fl (bD y.signs) 1 (cX y.signs)++[kC (.str "<scalar>") (.str "z") .none,lB "<block end>"]++[lB "<stream end>"],none⟩
   else⟨y.text++[32,122],cH::fl (bD y.signs) 1 ((cX y.signs).take (y.signs.length-2)),some (y.text.length-1)⟩) r:=by
 refine rB (Dd hn) fun a1 a2 a3 a4=>?_;refine(xb hs hb a1 a2 a3 a4) _ fun a1 a2 a4 c1 tx c3 c4 sl lv=>?_;have hg:=Pd (X1 s b) hn;rw[←hx] at c1 tx c3 c4 sl lv hg;have ty:y.text=x.text++[32]++[58]:=by
  rw[hy];show x.text++bE x.last [58] x.gap++[58]=_;rw[hg]
 have tl:y.text.length=x.text.length+2:=by rw[ty,q6,q6];rfl
 have t2:(y.text++[32,122]).length=x.text.length+4:=by rw[q6,tl];rfl
 have yl:y.signs.length<=31:=by rw[hy];exact q5 (r9 q6) (q5 (Nat.succ_le_succ sl) (aR rfl))
 have t4:(y.text++[32,122]).length<=300:=by rw[t2];exact q5 (Nat.add_le_add_right tx 4) (aR rfl)
 have pr:∀c∈y.text++[32,122],zG c=true:=fun c hc=>by
  rw[ty,r7,r7] at hc
  rcases List.mem_append.mp hc with hc|hc
  ·exact c1 c hc
  ·have k:∀c∈[32]++([58]++[32,122]),zG c=true:=by decide
   exact k c hc
 obtain⟨zE,jS,k,w1,w2,w3,w4⟩:=fS Zk hs hb a1 a2 a4 (text:=y.text++[32,122]) (by
  rw[←show x=(pG ns).foldl LS.step (LS.init.step (s,b)) from hx,ty];show _=x.text++(bE x.last [58] x.gap++58::[32,122,0]);rw[hg];simp only[r7,List.cons_append,List.nil_append]) (nN t4)
 rw[←show x=(pG ns).foldl LS.step (LS.init.step (s,b)) from hx] at w1;have w1:At ((y.text++[32,122]).length+1) zE jS x ([32],58,[32,122,0]):=by
  have:GD x.last x.gap=([32],58,[32,122,0]):=by unfold GD;rw[hg]
  rw[this] at w1;exact w1
 by_cases hq:(aV x.signs).at_ 0 x.line
 ·obtain⟨q1,q2⟩:=w1.FV (nI t4) (q5 sl (aR rfl)) lv hg w3 hq;rw[←hy] at q1 q2;rw[if_pos q1];obtain⟨r,r1,r2,r3⟩:=yA q2 w2 (aR rfl) (by
   rw[q6,q6,q6];exact q5 (Nat.add_le_add_right (Nat.add_le_add_right (t9 (Lk (n:=30) yl) 2) 2) 1) (aR rfl)) w4
  exact⟨r,pr,q5 t4 (aR rfl),r1,r2,.inl ⟨rfl,r3⟩⟩
 ·obtain⟨q1,q2⟩:=w1.FU (nI t4) (q5 sl (aR rfl)) lv hg hq;rw[←hy] at q1 q2;rw[if_neg (by rw[q1];decide)];obtain⟨r,b',l',c',r1,r2,r3⟩:=yB q2 w2 (aR rfl) (by
   rw[List.length_cons];exact q5 (Nat.succ_le_succ (Fc (n:=30) yl)) (aR rfl)) w4
  refine⟨r,pr,q5 t4 (aR rfl),r1,r2,.inr (EC _ b' l' c' rfl ?_)⟩;exact r3.trans (congrArg (fun q=>some (V.none,kZ b' q l' c')) (by rw[t2,tl];exact Int.add_sub_cancel ((x.text.length+1:Nat):Int) 4))
end
theorem Jn(script:List Int):∃r,mG (Ut script) r:=by
 unfold Ut;generalize script.headD 0=head;have hn:(jX script).length<=11:=by unfold jX;rw[List.length_take];exact Nat.min_le_left _ _
 generalize jX script=ns at hn⊢;have hb:=uE (head/8);generalize jH (head/8)=b at hb⊢;have hs:lA head∈aY:=by
  unfold lA;split
  ·exact .head _
  ·exact .tail _ (.head _)
 generalize lA head=s at hs⊢
 by_cases h0:head % 4=0
 ·rw[h0,show jY 0 (cP ns 1) ((s,b)::gB ns 1)=(s,b)::pG ns++[([58],[32])] from rfl,List.foldl_append];exact MV hs hb hn (x:=(pG ns).foldl LS.step (X1 s b)) rfl rfl
 ·by_cases h1:head % 4=1
  ·rw[h1,show jY 1 (cP ns 1) ((s,b)::gB ns 1)=(s,b)::vP ns from w8 _];exact MW hs hb hn (x:=(vP ns).foldl LS.step (X1 s b)) rfl rfl
  ·by_cases h3:head % 4=3
   ·rw[h3,show jY 3 (cP ns 1) ((s,b)::gB ns 1)=(s,b)::pG ns from w8 _];exact MY hs hb hn (x:=(pG ns).foldl LS.step (X1 s b)) rfl
   ·have e:jY (head % 4) (cP ns 1) ((s,b)::gB ns 1)=(s,b)::vP ns:=by
     unfold jY;rw[if_neg (fun h=>h.elim h0 h3),if_neg h0];exact w8 _
    have e2:∀d x,xT (head % 4) d x=⟨x.text,cH::fl (bD x.signs) 1 (cX x.signs)++[lB "<stream end>"],none⟩:=fun d x=>by
     unfold xT;rw[if_neg h0,if_neg h1]
    rw[e,e2];exact MX hs hb hn (x:=(vP ns).foldl LS.step (X1 s b)) rfl
end
noncomputable def zD:Int->List Pr->Prop
 |_,[]=>True
 |c,p::r=>0<=kO p.1 c/\zD (mP p.1 c) r
theorem AO{s:List Nat}{c:Int}(h:0<c):0<=kO s c:=by
 unfold kO
 by_cases hc:bU.contains s=true
 ·rw[if_pos hc];exact Int.sub_nonneg.mpr h
 ·rw[if_neg hc];exact Int.le_of_lt h
theorem vY:∀{r:List Pr} {c:Int},rT c r->zD c r
 |[],_,_=>trivial
 |_::_,_,h=>⟨AO h.1,vY h.2⟩
theorem Gd:∀{r1 r2:List Pr} {c:Int},zD c r1->zD (lN r1 c) r2->zD c (r1++r2)
 |[],_,_,_,h=>h
 |p::r1,_,_,h1,h2=>⟨h1.1,Gd h1.2 h2⟩
structure Sk(x:LS):Prop where
 h0:x.signs.getD 0 gD=gD
 l:∀i,1<=i->i<x.signs.length->0<=(x.signs.getD i gD).2.2
 p:1<=x.signs.length
theorem Sk.step{x:LS}(h:Sk x){p:Pr}(hp:0<=kO p.1 x.level):Sk (x.step p):=by
 obtain⟨h0,hl,h1⟩:=h;have key:∀i,(x.signs++[(p.1,x.line+dl (bE x.last p.1 x.gap),kO p.1 x.level)]).getD i gD=if i<x.signs.length then x.signs.getD i gD else if i=x.signs.length then(p.1,x.line+dl (bE x.last p.1 x.gap),kO p.1 x.level) else gD:=fun i=>by
  rw[x8,x8]
  by_cases hi:i<x.signs.length
  ·rw[if_pos hi,List.getElem?_append_left hi]
  ·rw[if_neg hi,List.getElem?_append_right (Nat.le_of_not_lt hi)]
   by_cases he:i=x.signs.length
   ·rw[if_pos he,he,Nat.sub_self];rfl
   ·rw[if_neg he,List.getElem?_eq_none (by rw[List.length_singleton];exact Nat.sub_pos_of_lt (Nat.lt_of_le_of_ne (Nat.not_lt.mp hi) (Ne.symm he)))];rfl
 refine⟨?_,fun i i1 hi=>?_,?_⟩
 ·show(x.signs++[_]).getD 0 gD=gD;rw[key,if_pos (show 0<x.signs.length from h1)];exact h0
 ·show 0<=((x.signs++[_]).getD i gD).2.2;rw[key]
  by_cases Wx:i<x.signs.length
  ·rw[if_pos Wx];exact hl i i1 Wx
  ·have hi:i<(x.signs++[(p.1,x.line+dl (bE x.last p.1 x.gap),kO p.1 x.level)]).length:=hi;rw[q6,List.length_singleton] at hi;rw[if_neg Wx,if_pos (Nat.eq_of_lt_succ_of_not_lt hi Wx)];exact hp
 ·show 1<=(x.signs++[_]).length;rw[q6];exact q5 h1 (x7 _ _)
theorem Sk.run:∀(row:List Pr) (x:LS),zD x.level row->Sk x->Sk (row.foldl LS.step x):=by
 intro eN;induction eN with
 |nil=>
  intro _ _ h;exact h
 |cons p row ih=>
  intro x hr h;exact ih (x.step p) hr.2 (h.step hr.1)
theorem Pz:∀(row:List Pr) (x:LS),x.text.length<=(row.foldl LS.step x).text.length:=by
 intro eN;induction eN with
 |nil=>
  intro _;exact w7 _
 |cons p row ih=>
  intro x;refine q5 ?_ (ih (x.step p));show _<=(x.text++bE x.last p.1 x.gap++p.1).length;rw[q6,q6,Nat.add_assoc];exact x7 _ _
structure EV(row:List Pr):Prop where
 ok:jE row
 lv:zD 0 row
 len:row.length<=28
 ne:∃p r,row=p::r/\p.1∈aY
theorem UP(ns:List Int)(head e:Int)(hn:ns.length<=11):EV (jY e (cP ns 1) ((lA head,jH (head/8))::gB ns 1)):=by
 have hs:lA head∈aY:=by
  unfold lA
  by_cases h:head/4 % 2=0
  ·rw[if_pos h];exact .head _
  ·rw[if_neg h];exact .tail _ (.head _)
 have k:∀s∈aY,s∈gO/\0<=kO s 0/\mP s 0=1:=by decide
 refine lZ (k _ hs) fun k1 k2 k3=>?_;have hb:=uE (head/8);refine yR (wA hn) fun a1 a2 a3 a4 a5=>?_;refine rB (Dd hn) fun c1 c2 c3 c4=>?_;have mk:∀(r t:List Pr),jE r->zD 1 r->r.length<=25->jE t->zD (lN r 1) t->t.length<=1->EV (((lA head,jH (head/8))::r)++t):=fun r t r1 r2 r3 t1 t2 t3=>by
  refine⟨fun p hp=>?_,⟨k2,?_⟩,?_,(Xy _ _ rfl hs)⟩
  ·rcases List.mem_append.mp hp with hp|hp
   ·rcases s8.mp hp with e|hp
    ·rw[e];exact⟨k1,hb⟩
    ·exact r1 p hp
   ·exact t1 p hp
  ·show zD (mP (lA head) 0) (r++t);rw[k3];exact Gd r2 t2
  ·rw[q6,List.length_cons];exact q5 (Nat.add_le_add (Nat.succ_le_succ r3) t3) (aR rfl)
 have no:jE []:=fun U h=>nomatch h
 have c5:([58]:List Nat)∈gO/\([32]:List Nat)∈hY:=by decide
 unfold jY
 by_cases h0:e=0
 ·rw[if_pos (.inl h0),if_pos h0];exact mk (pG ns) _ c1 (vY c2) c4 (fun p hp=>by rw[List.mem_singleton.mp hp];exact c5) ⟨by rw[c3];decide,trivial⟩ (w7 _)
 ·rw[if_neg h0]
  by_cases h3:e=3
  ·rw[if_pos (.inr h3)];exact mk (pG ns) [] c1 (vY c2) c4 no trivial (aR rfl)
  ·rw[if_neg fun h=>h.elim h0 h3];exact mk (vP ns) [] a1 (vY a2) a4 no trivial (aR rfl)
structure XF(x:LS):Prop where
 s:Wt x.signs
 t1:1<=x.text.length
 g:(bE x.last [64] x.gap).length<=10
 t:x.text.length<=900
theorem xF(h:EV row):XF (row.foldl LS.step LS.init):=by
 have sk:=Sk.run row LS.init h.lv ⟨rfl,fun i i1 hi=>absurd hi (Nat.not_lt.mpr i1),w7 1⟩;have sl:=uL row LS.init;have hl:=h.len;refine rB (zX row LS.init 0 h.ok ⟨fun c hc=>(nomatch hc),w7 0,by decide,by decide⟩) fun c1 c2 c3 c4=>?_
 refine Mr h.ne fun p r fE hp=>?_;subst fE;rw[List.length_cons] at sl hl c2;have sl:((p::r).foldl LS.step LS.init).signs.length=1+(r.length+1):=sl;refine⟨⟨sk.h0,sk.l,by rw[sl];exact q5 (t9 hl _) (aR rfl),sk.p,by rw[sl];exact t9 (Nat.succ_le_succ (Nat.zero_le _)) 1⟩,?_,q5 (kK (qD _ c3 [64] (.head _) _ c4)).2 (aR rfl),q5 c2 (q5 (t9 (Nat.mul_le_mul_left 10 hl) 0) (aR rfl))⟩;refine q5 ?_ (Pz r (LS.init.step p));show 1<=([]++bE [91] p.1 []++p.1).length;have k:∀s∈aY,1<=([]++bE [91] s []++s).length:=by decide
 exact k _ hp
theorem Qb(s:List Nat):pX (lJ s)=true:=by
 unfold lJ Ls;cases h:vF.find? fun p=>p.1==s with
 |none=>rfl
 |some p=>
  have:=List.mem_of_find?_eq_some h;exact(by decide:∀p∈vF,pX p.2=true) p this
theorem Lm(ks:List Nat):∀(n:Nat) {R:List V},R.all pX=true->(fl ks n R).all pX=true
 |_,[],_=>rfl
 |n,r::R,h=>by
  rw[List.all_cons,q9] at h;rw[jR,List.all_append,Lm ks (n+1) h.2,Bool.and_true];cases ks.contains n with
  |true=>show(pX lH&&(pX r&&true))=true;rw[h.1];rfl
  |false=>show(pX r&&true)=true;rw[h.1];rfl
theorem Te(e:Int)(x:LS)(en:Nat)(p:Option Nat):(uC e x en p).all pX=true:=by
 have Uh:((cX x.signs).take (en-1)).all pX=true:=by
  refine u5.mpr fun r hr=>?_;refine bQ (List.mem_map.mp (List.mem_of_mem_take hr)) fun s U fE=>?_;subst fE;exact Qb _
 unfold uC;rw[List.all_append,List.all_append,List.all_append,Lm _ _ Uh];have e1:([cH]:List V).all pX=true:=rfl;have e2:(if e=0/\(bD x.signs).contains 1=true then[lB "<block mapping start>"] else[]).all pX=true:=by
  by_cases h:e=0/\(bD x.signs).contains 1=true
  ·rw[if_pos h];rfl
  ·rw[if_neg h];rfl
 have e3:(Fb e p).all pX=true:=by
  cases p with
  |some _=>rfl
  |none=>
   show((if e=0 then _ else[])++_).all pX=true
   by_cases h:e=0
   ·rw[if_pos h];rfl
   ·rw[if_neg h];rfl
 rw[e1,e2,e3];rfl
theorem Od(e:Int)(x:LS)(en:Nat)(p:Option Nat)(hz:x.signs.length<=200):(uC e x en p).length<=800:=by
 unfold uC;rw[q6,q6];have h1:=Ew e x;have h2:=xE (bD x.signs) x.signs (en-1) hz;have h3:(Fb e p).length<=3:=by
  cases p with
  |some _=>exact Nat.zero_le _
  |none=>
   show((if e=0 then _ else[])++_).length<=3
   by_cases h:e=0
   ·rw[if_pos h];exact w7 _
   ·rw[if_neg h];exact Nat.le_of_ble_eq_true rfl
 exact q5 (Nat.add_le_add (Nat.add_le_add h1 h2) h3) (aR rfl)
noncomputable def UN(p:Option Nat):V:=Option.casesOn p .none fun n=>.int (n:Nat)
theorem HV(p:Option Nat):Hk p=.val (UN p):=by cases p<;>rfl
theorem BF{y:Lw}{r:List V×Option (V×V)}(P:mG y r){e:Int}{x:LS}{en:Nat}(hd:uC e x en y.place=y.fX)(hz:x.signs.length<=200):En r y.fX (UN y.place):=by
 refine⟨P.tell,by rw[←hd];exact Te ..,by rw[←hd];exact Od _ _ _ _ hz,by cases y.place<;>rfl,fun h=>?_,fun c p h=>?_⟩
 ·rcases P.fin with⟨a,_⟩|⟨p,b,l,c,_,a⟩
  ·rw[a];rfl
  ·rw[a] at h;cases h
 ·rcases P.fin with⟨_,a⟩|⟨p',b,l,c',a1,a⟩
  ·rw[a] at h;cases h
  ·rw[a] at h;cases h;exact(EC _ _ _ _ rfl (by rw[a1];rfl))
theorem AH(hl:text.length<=1000)(hp:∀c∈text,zG c=true):Ok (Z.init text):=by
 refine⟨(tS 0 rfl rfl ?_),?_,?_⟩
 ·show 0+(text++[0]).length=(text++[0]).toArray.size;simp
 ·show(text++[0]).toArray.size<=100000;simp;exact q5 hl (aR rfl)
 ·intro c hc;have hc:c∈text++[0]:=hc
  rcases List.mem_append.mp hc with h|h
  ·have:=hp c h;unfold zG isIn at this;simp only[Bool.or_eq_true,q9,decide_eq_true_eq,List.contains_cons,List.contains_nil,Bool.or_false,beq_iff_eq] at this;exact v9 (this.elim (fun h=>h.elim (fun h=>q5 (r9 h) (aR rfl)) fun h=>h.elim (fun h=>q5 (r9 h) (aR rfl)) fun h=>h.elim (fun h=>q5 (r9 h) (aR rfl)) fun h=>q5 (r9 h) (aR rfl)) fun h=>h.elim (fun h=>q5 h.2 (aR rfl)) fun h=>h.elim (fun h=>q5 h.2 (aR rfl)) fun h=>h.elim (fun h=>q5 h.2 (aR rfl)) fun h=>h.2) (by decide:1114111<16 ^ 8)
  ·rw[List.mem_singleton.mp h];decide
theorem uD{α:Type}(f:α->V)(h:∀a,(f a).free=true):∀l:List α,V.frees (l.map f)=true:=by
 intro eN;induction eN with
 |nil=>
  exact rfl
 |cons a l ih=>
  exact(q9 _ _).mpr ⟨h a,ih⟩
theorem zY:∀(n:Nat) {v:V},v.mJ n=true->v.free=true
 |0,v,h=>by cases v<;>first|rfl|exact nomatch h
 |n+1,v,h=>by
  have go:∀{us:List V},us.all (V.mJ n)=true->V.frees us=true:=fun{us} h=>by
   induction us with
   |nil=>rfl
   |cons u us ih=>
    rw[List.all_cons,q9] at h;exact(q9 _ _).mpr ⟨zY n h.1,ih h.2⟩
  cases v with
  |tup us=>exact go h
  |lst us=>exact go h
  |_=>first|rfl|exact nomatch h
section
variable{C:Cx}{c:Addr}
noncomputable abbrev Ux(a:Addr)(head e d:Int)(row:List Pr):O5:=⟨.val (.glob (.ref a)),.val (.int head),.val (.int e),.val (.lst (row.map vC)),.val (.int d)⟩
theorem Uw{a:Addr}{head e d:Int}{x:LS}{p:Option Nat}{en:Nat}{fX:List V}(hw:w.ok=true)(hd:fX.all pX=true):
  ((lw w (Ux a head e d row).script (Ux a head e d row).head (Ux a head e d row).dD (Ux a head e d row).row (Ux a head e d row).depth (.val (sv text)) (.val (.lst (x.signs.map Jw))) (.val (.int x.line)) (.val (.int x.level)) (.val (sv x.last)) (.val (sv x.gap)) (Hk p) (.val (.lst ((bD x.signs).map kV))) (.val (.int en)) (.val (.lst fX)) .un .un .un .un .un).all fun q=>q.2.free)=true:=by
 obtain⟨n_,nH,eQ,jJ,fY,jK⟩:=w;have hw:(n_.free&&(nH.free&&(eQ.free&&(jJ.free&&(fY.free&&jK.free)))))=true:=hw;simp only[q9] at hw;refine Qy hw fun w1 w2 w3 w4 w5 w6=>?_;have f1:=uD vC (fun U=>rfl) row;have f2:=uD Jw (fun U=>rfl) x.signs;have f3:=uD kV (fun U=>rfl) (bD x.signs);have f4:V.frees fX=true:=zY 3 (v:=.lst fX) (Av hd);have f5:(Hk p).free=true:=by cases p<;>rfl
 show(true&&(true&&(true&&(V.frees (row.map vC)&&(true&&(n_.free&&(nH.free&&(true&&(V.frees (x.signs.map Jw)&&(true&&(true&&(true&&(true&&((Hk p).free&&(eQ.free&&(V.frees ((bD x.signs).map kV)&&(jJ.free&&(fY.free&&(true&&(jK.free&&(V.frees fX&&true)))))))))))))))))))))=true;rw[w1,w2,w3,w4,w5,w6,f1,f2,f3,f4,f5];rfl
theorem Uu(F:aP g)(SF:Bv g)(LF:iM g)(B:Bd C (top 42))(mO:C.base=C.h₀){a:Addr}{head e d:Int}{x:LS}{en:Nat}{y:Lw}{r:List V×Option (V×V)}(hw:w.ok=true)(P:mG y r)(hd:uC e x en y.place=y.fX)(hz:x.signs.length<=200):
  mE g 10 C ρ (execs (dC.drop 25) C.env) (Jf w (Ux a head e d row) x y.text (Hk y.place) (.val (.int en)) y.fX) none:=by
 have R:=BF P hd hz;have NQ:=AH (q5 P.len (aR rfl)) P.zG;refine rF (x:="due") (ws:=y.fX) (aN 20 rfl) (.cM 20 rfl rfl) ?_;rw[show dC.drop 25=vN (dC.drop 25)::(dC.drop 25).tail from rfl];refine El F SF (aR rfl) B.hh (B.glob rfl) (B.loc (x:="text") rfl rfl) (B.loc (x:="scanner") rfl rfl) (aN 7 rfl) P.zG ?_ (Uw hw R.rows) (.cM 21 rfl rfl) rfl fun ρ' ka ko=>?_
 ·rw[kS];exact q5 P.len (aR rfl)
 ·obtain⟨n_,nH,eQ,jJ,fY,jK⟩:=w;rw[HV];exact Ov F LF B mO R NQ P.run (pre:=[("script",(Ux a head e d row).script),("head",(Ux a head e d row).head),("ending",(Ux a head e d row).dD),("row",(Ux a head e d row).row),("depth",(Ux a head e d row).depth),("n",n_),("sign",nH),("text",.val (sv y.text)),("signs",.val (.lst (x.signs.map Jw))),("line",.val (.int x.line)),("level",.val (.int x.level)),("last",.val (sv x.last)),("gap",.val (sv x.gap)),("place",.val (UN y.place)),("behind",eQ),("keys",.val (.lst ((bD x.signs).map kV))),("spot",jJ),("first",fY),("end",.val (.int en)),("wide",jK),("due",.val (.lst y.fX)),("scanner",.val .self)]) (aN 20 rfl) (aN 13 rfl) (aN 21 rfl)
theorem AK(F:aP g)(SF:Bv g)(LF:iM g)(B:Bd C (top 42))(mO:C.base=C.h₀){a:Addr}{ns:List Int}(S:Nm C a ns):
  mE g 10 C ρ (execs dC C.env) (lw ⟨.un,.un,.un,.un,.un,.un⟩ (.val (.glob (.ref a))) .un .un .un .un .un .un .un .un .un .un .un .un .un .un .un .un .un .un .un) none:=by
 obtain⟨r,P⟩:=Jn ns;refine a0 LF B S fun w d hw hd=>?_;have hn:(jX ns).length<=11:=by unfold jX;rw[List.length_take];exact Nat.min_le_left _ _
 have RF:=UP (jX ns) (ns.headD 0) (ns.headD 0 % 4) hn;have hD:cP (jX ns) 1<=100:=q5 (sY (jX ns) 1 (aR rfl) (aR rfl)).2.2.2.1 (aR rfl);unfold Ut at P;revert RF P;generalize jY (ns.headD 0 % 4) (cP (jX ns) 1) ((lA (ns.headD 0),jH (ns.headD 0/8))::gB (jX ns) 1)=row;intro P RF;have X:=xF RF;refine b7 LF B hw RF.ok (q5 RF.len (aR rfl)) fun w hw=>?_;refine XT F LF B hw rfl X.s X.t1 (q5 X.t (aR rfl)) fun w hw=>?_;exact XZ F LF B X.s hw X.t X.g rfl (fun he=>by rw[hd he]) hD fun w en hw h1 h2 qN=>YB F LF B X.s hw rfl h1 h2 fun w hw=>by
  rw[qN];exact Uu F SF LF B mO hw P qN X.s.z
end
section
variable{C:Cx}{c:Addr}
noncomputable def Us(cd:Value)(f:Addr)(h:Heap):Cx:=
 {cn:="law",cs:=(top 42).scope,L:=h.objs.size,a:=f,Qf:=cd,cl:=[],h₀:=h,base:=h,outer:=[],A₀:=callerA,A:=callerA.deeper (envX "law" (top 42).scope h.objs.size f cd [])}
theorem Ow(F:aP g)(SF:Bv g)(LF:iM g){cd:Value}{oV:Heap}{a:Addr}{vals:List Value}{script:List Int}{s:Shared}
  (K0:Below callerA h [] h) (KX:g.K.In h) (T:Top g.p g.loose g.AQ g.mg g.mb h) (Fm:Fr h h.objs.size oV m) (hm:m "script"=some (.ref a))
  (hl:h.IsList a vals.toArray) (hi:IntsAre vals script) (hn:¬((63:Nat):Int)<(script.length:Int)) (hs:s.heap=oV) {Qr:Flow->Shared->Prop}
  (q:∀h' bH m',Fr h h.objs.size h' m'->Qr (.ret (.bool true)) (St s h' bH)):
  wpAny (model g.prog g.w) (callerA.deeper (envX "law" (top 42).scope h.objs.size f cd [])) (execs (top 42).body (envX "law" (top 42).scope h.objs.size f cd [])) Qr Er s:=by
 subst hs;have ok:iP g 10 (Us cd f h):=⟨K0,KX,T,rfl,Around.frames_deeper rfl,by show callerA.depth+1+10<recursionLimit;decide,by show callerA.units+3+80<cLine;decide⟩;have I:cN (Us cd f h) ⟨0,0,0,0⟩ [] [] none m (lw ⟨.un,.un,.un,.un,.un,.un⟩ (.val (.glob (.ref a))) .un .un .un .un .un .un .un .un .un .un .un .un .un .un .un .un .un .un .un) s.heap:=by
  refine⟨⟨[],[],rfl,?_,(fun p hp=>nomatch hp),List.nodup_nil⟩,Fm,by show List.Nodup (["script","head","ending","row","depth","n","sign","text","signs","line","level","last","gap","place","behind","keys","spot","first","end","wide","due","scanner","got","refused","token","fault"]:List Str);decide⟩
  exact .val hm .glob (.un (.un (.un (.un (.un (.un (.un (.un (.un (.un (.un (.un (.un (.un (.un (.un (.un (.un (.un (.un (.un (.un (.un (.un (.un .nil)))))))))))))))))))))))))
 exact(AK (C:=Us cd f h) F SF LF ⟨rfl,rfl⟩ rfl ⟨vals,hl,hi,q5 (Int.ofNat_le.mp (Int.not_lt.mp hn)) (by decide)⟩).out ok [] [] m s I Qr Er fun ρ' G' bS m' aG h' bH I'=>q h' bH m' I'.fr
end
theorem kJ{α:Type}{l:List α}{p:α->Bool}(h:l.all p=true)(i:Nat){x:α}(e:lR l i=some x):p x=true:=u5.mp h x (aN i e)
theorem wV{α β:Type}{l:List α}{a b:α->β}(h:l.map a=l.map b)(i:Nat){x:α}(e:lR l i=some x):a x=b x:=List.map_inj_left.mp h x (aN i e)
theorem ba{a b:Bool}(h:(a&&b)=true):a=true:=((q9 _ _).mp h).1
theorem bb{a b:Bool}(h:(a&&b)=true):b=true:=((q9 _ _).mp h).2
theorem bq{α:Type}[BEq α][LawfulBEq α]{a b:α}(h:(a==b)=true):a=b:=beq_iff_eq.mp h
noncomputable def kY(K:Frag)(f:Addr):FuncData:=match ((K.lookup f).getD default).data with
 |.func d=>d
 |_=>default
noncomputable def HM(K:Frag)(f:Addr)(fd:FD)(dV:Value):Obj:=
 ⟨((K.lookup f).getD default).cls,((K.lookup f).getD default).dict,.func (fnOf (kY K f).name (kY K f).qualname fd.args fd.body fd.scope dV (kY K f).kwdefaults (kY K f).doc (kY K f).pyModule (kY K f).annotations (kY K f).code (kY K f).closureTuple),((K.lookup f).getD default).slots⟩
noncomputable def Sq(K:Frag)(f:Addr)(sc:Scope):Bool:=codeIn K (kY K f).code (kY K f).qualname&&(!sc.isCoroutine&&(!sc.isGenerator&&(sc.kind==.function&&sc.names.all fun x=>x.2 !=.cell)))
theorem Bz(h:Sq g.K f fd.scope=true)(e:g.K.lookup f=some (HM g.K f fd dV)):Eh g f (kY g.K f).qualname fd.args fd.body fd.scope dV (kY g.K f).code:=
 ⟨(.mk _ _ _ _ _ _ _ _ _ e),ba h,(Bool.not_eq_true' _).mp (ba (bb h)),(Bool.not_eq_true' _).mp (ba (bb (bb h))),bq (ba (bb (bb (bb h)))),fun x hx=>bne_iff_ne.mp (u5.mp (bb (bb (bb (bb h)))) x hx)⟩
def lK(ps:Arguments)(k:Nat)(kws:List Str)(ns:List Str):Prop:=∀vals eC:List Value,vals.length=k->eC.length=kws.length->∀(s:Shared) (name qual:Str) (body:List Stmt) (scope:Scope) (kV doc pm:Value) (an:Option Addr) (fW ct:Value),
 BindsTo s (fnOf name qual ps body scope .none kV doc pm an fW ct) ⟨vals,kws.zip eC⟩ (ns.zip ((vals++eC)++[]))
theorem WT(h:Heap):Frag.In [] h:=fun _ _ e=>nomatch e
theorem Sy{k:Nat}{kws:List Str}(h:Sq g.K f fd.scope=true)(e:g.K.lookup f=some (HM g.K f fd .none))(b:lK fd.args k kws ns):vR g f fd ns k kws []:=
 (.mk _ .none _ ([]) (Bz h e) (fun _ _=>.nil) (fun vals eC h1 h2 s hs name kV doc pm an ct=>b vals eC h1 h2 s name _ _ _ kV doc pm an _ ct))
def HR(ps:Arguments)(vals:List Value)(b:List (Str×Value)):Prop:=∀(s:Shared) (name qual:Str) (body:List Stmt) (scope:Scope) (kV doc pm:Value) (an:Option Addr) (fW ct:Value),∀S:Setting,PySem.W.peek [] S (bindArgs (fnOf name qual ps body scope .none kV doc pm an fW ct) ⟨vals,[]⟩)=some b
theorem lK.k0{ps:Arguments}{k:Nat}(h:∀vals:List Value,vals.length=k->HR ps vals (ns.zip vals)):lK ps k [] ns:=by
 intro vals eC h1 h2 s name qual body scope kV doc pm an fW ct;rw[List.length_eq_zero_iff.mp h2,w8,w8];exact kp_binds (WT _) (h vals h1 s name qual body scope kV doc pm an fW ct)
section
variable{p1 p2 p3 p4 p5 p6 p7:Pos}{a1 a2 a3 a4 a5 a6 a7:Option Expr}{kd:List (Option Expr)}{df:List Expr}
theorem b0:lK ⟨[],[],none,[],kd,none,df⟩ 0 [] []:=by
 refine .k0 fun vals h0=>HH h0 (fun U U U U U U U U U U U U=>rfl)
theorem b1{n:Str}(hn:n="self"\/n="ch"\/n="token"):lK ⟨[],[⟨n,a1,p1⟩],none,[],kd,none,df⟩ 1 [] [n]:=by
 rcases hn with rfl|rfl|rfl<;>refine .k0 fun vals h0=>JG h0 fun U U U U U U U U U U U U U=>rfl
theorem b2{n:Str}(hn:n="column"\/n="TokenClass"\/n="data"\/n="length"\/n="stream"\/n="style"):lK ⟨[],[⟨"self",a1,p1⟩,⟨n,a2,p2⟩],none,[],kd,none,df⟩ 2 [] ["self",n]:=by
 rcases hn with rfl|rfl|rfl|rfl|rfl|rfl<;>refine .k0 fun vals h0=>JH h0 fun U U U U U U U U U U U U U U=>rfl
theorem b3{n m:Str}(hn:(n="indent"\/n="double"\/n="name")/\m="start_mark"\/n="start_mark"/\m="end_mark"):lK ⟨[],[⟨"self",a1,p1⟩,⟨n,a2,p2⟩,⟨m,a3,p3⟩],none,[],kd,none,df⟩ 3 [] ["self",n,m]:=by
 rcases hn with⟨rfl|rfl|rfl,rfl⟩|⟨rfl,rfl⟩<;>refine .k0 fun vals h0=>PM h0 fun U U U U U U U U U U U U U U U=>rfl
theorem bF:lK ⟨[],[⟨"self",a1,p1⟩,⟨"style",a2,p2⟩],none,[],kd,none,df⟩ 1 ["style"] ["self","style"]:=by
 intro vals eC h0 g0;exact JG h0 fun a=>JG g0 fun b s name qual body scope kV doc pm an fW ct=>kp_binds (WT _) fun S=>rfl
theorem bG{n m o:Str}(hn:n="last"/\m="sign"/\o="gap"\/n="signs"/\m="spot"/\o="level"):lK ⟨[],[⟨n,a1,p1⟩,⟨m,a2,p2⟩,⟨o,a3,p3⟩],none,[],kd,none,df⟩ 3 [] [n,m,o]:=by
 rcases hn with⟨rfl,rfl,rfl⟩|⟨rfl,rfl,rfl⟩<;>refine .k0 fun vals h0=>PM h0 fun U U U U U U U U U U U U U U U=>rfl
theorem b4:lK ⟨[],[⟨"self",a1,p1⟩,⟨"value",a2,p2⟩,⟨"start_mark",a3,p3⟩,⟨"end_mark",a4,p4⟩],none,[],kd,none,df⟩ 4 [] ["self","value","start_mark","end_mark"]:=by
 refine .k0 fun vals h0=>PN h0 fun U U U U U U U U U U U U U U U U=>rfl
theorem bM:lK ⟨[],[⟨"self",a1,p1⟩,⟨"name",a2,p2⟩,⟨"index",a3,p3⟩,⟨"line",a4,p4⟩,⟨"column",a5,p5⟩,⟨"buffer",a6,p6⟩,⟨"pointer",a7,p7⟩],none,[],kd,none,df⟩ 7 [] ["self","name","index","line","column","buffer","pointer"]:=by
 refine .k0 fun vals h0=>WJ h0 fun U U U U U U U U U U U U U U U U U U U=>rfl
theorem bK:lK ⟨[],[⟨"self",a1,p1⟩,⟨"token_number",a2,p2⟩,⟨"required",a3,p3⟩,⟨"index",a4,p4⟩,⟨"line",a5,p5⟩,⟨"column",a6,p6⟩,⟨"mark",a7,p7⟩],none,[],kd,none,df⟩ 7 [] ["self","token_number","required","index","line","column","mark"]:=by
 refine .k0 fun vals h0=>WJ h0 fun U U U U U U U U U U U U U U U U U U U=>rfl
end
def NC(K:Frag)(l:List (Addr×FD)):Prop:=l.map (fun e=>K.lookup e.1)=l.map (fun e=>some (HM K e.1 e.2 (kY K e.1).defaults))
noncomputable def FP(K:Frag)(f:Addr)(fd:FD):Bool:=(kY K f).defaults==.none&&Sq K f fd.scope
theorem LD{k:Nat}{kws:List Str}(h:FP g.K f fd=true)(e:g.K.lookup f=some (HM g.K f fd (kY g.K f).defaults))(b:lK fd.args k kws ns):vR g f fd ns k kws []:=by
 rw[bq (ba h)] at e;exact Sy (bb h) e b
noncomputable def Io(K:Frag)(C:Addr)(n:Str):Bool:=Jm K C n&&(hasDictIn K C&&(findIn K (.ref C) n).any (noGet K))
theorem qB{C:Addr}{n:Str}(h:Io g.K C n=true):iK g C n:=by
 refine bQ ((Option.any_eq_true _ _).mp (bb (bb h))) fun a ha h3=>?_;exact⟨ba h,ba (bb h),a,ha,h3⟩
noncomputable def FQ(K:Frag)(C:Addr):Bool:=findIn K (.ref C) "__setattr__"==some (some (.builtin "object.__setattr__"))&&(plainOver K C&&hasDictIn K C)
theorem Lb{C:Addr}(h:FQ g.K C=true):qT g C:=⟨bq (ba h),ba (bb h),bb (bb h)⟩
noncomputable def Nu(K:Frag)(C:Addr)(l:List Str):Bool:=l.all fun n=>takerIn K C n==some none
theorem Lc{C:Addr}{l:List Str}(h:Nu g.K C l=true):∀n∈l,takerIn g.K C n=some none:=fun n hn=>beq_iff_eq.mp (u5.mp h n hn)
noncomputable def KS(K:Frag)(p:Str×Addr):Bool:=plainGet K 1048 p.1&&(findIn K (.ref 1048) p.1==some (some (.ref p.2))&&(isFn K (.ref p.2)&&keepIn K (.ref p.2)))
theorem Ys{p:Str×Addr}(h:KS g.K p=true):tT g 1048 p.1 p.2:=⟨ba h,bq (ba (bb h)),ba (bb (bb h)),bb (bb (bb h))⟩
noncomputable def Nt(sc:Scope)(l:List Str):Bool:=(("self":Str)::l).all (fun a=>sc.names.lookup a==some .local&&!(a==("__debug__":Str)))&&(decide (("self":Str)::l).Nodup&&decide (l.length<=1000))
noncomputable def Yr(K:Frag)(C fI:Addr):Bool:=makesIn K C&&(findIn K (.ref C) "__init__"==some (some (.ref fI))&&(isFn K (.ref fI)&&(keepIn K (.ref C)&&FQ K C)))
theorem TO(l:List Str):(ll l).map (·.1)=l:=by simp only[ll,List.map_map];exact List.map_id l
theorem Wy(l:List Str):(ll l).map (·.2)=l:=by simp only[ll,List.map_map];exact List.map_id l
theorem WK(l:List Str):(ll l).length=l.length:=by simp[ll]
theorem La{C:Addr}{l:List Str}(h:Yr g.K C fI=true)(ht:Nu g.K C l=true)(hf:Sq g.K fI fd.scope=true)(e:g.K.lookup fI=some (HM g.K fI fd dV))(hl:Nt fd.scope l=true)(hi:kG "self" fd.body (ll l)):
  uO g C fI (kY g.K fI).qualname fd.args fd.body fd.scope dV (kY g.K fI).code "self" (ll l):=
 ⟨ba h,bq (ba (bb h)),ba (bb (bb h)),ba (bb (bb (bb h))),Bz hf e,Lb (bb (bb (bb (bb h)))),hi,by rw[TO];exact Lc ht,
  by rw[Wy];exact fun a ha=>⟨bq (ba (u5.mp (ba hl) a ha)),(Bool.not_eq_true' _).mp (bb (u5.mp (ba hl) a ha))⟩,
  by rw[TO];exact(x6.mp (r8 (ba (bb hl)))).2,by rw[Wy];exact r8 (ba (bb hl)),by rw[WK];exact r8 (bb (bb hl))⟩
theorem KV{C:Addr}{l:List Str}{n:Nat}(h:Yr g.K C fI=true)(ht:Nu g.K C l=true)(hf:FP g.K fI fd=true)(e:g.K.lookup fI=some (HM g.K fI fd (kY g.K fI).defaults))(hl:Nt fd.scope l=true)(hi:kG "self" fd.body (ll l))(hn:l.length=n)(b:lK fd.args (n+1) [] ("self"::l)):qJ g C (ll l) n []:=by
 rw[bq (ba hf)] at e;refine(.mk _ _ _ _ _ _ _ _ ([]) (La h ht (bb hf) e hl hi) (fun _ _=>.nil) (by rw[WK,hn];rfl) (fun vals hv x s hs name kV doc pm an ct=>?_));have:=b (.ref x::vals) [] (by rw[List.length_cons,hv]) rfl s name (kY g.K fI).qualname fd.body fd.scope kV doc pm an (kY g.K fI).code ct;rw[w8,w8] at this;rw[w8,Wy];exact this
noncomputable def nL:List (Addr×FD):=[(175,aU 8 4),(182,aU 8 5),(189,aU 8 6),(573,aU 34 3),(580,aU 34 4),(587,aU 34 5),(594,aU 34 6),(601,aU 34 7),(608,aU 34 8),(615,aU 34 9),(622,aU 34 10),(629,aU 34 11),(636,aU 34 12),(643,aU 34 13),(678,aU 34 18),(692,aU 34 20),(699,aU 34 21),(706,aU 34 22),(713,aU 34 23),(720,aU 34 24),(727,aU 34 25),(734,aU 34 26),(741,aU 34 27),(748,aU 34 28),(755,aU 34 29),(790,aU 34 34),(811,aU 34 37),(685,aU 34 19),(825,aU 34 39),(762,aU 34 30),(839,aU 34 41),(846,aU 34 42),(853,aU 34 43),(860,aU 34 44),(867,aU 34 45),(930,aU 34 54),(979,aU 34 61),(989,aU 34 64),(1010,aU 34 67),(1017,aU 34 68),(1045,aU 34 72),(130,top 7),(144,aU 8 0),(797,aU 34 35),(937,aU 34 55),(1031,aU 34 70),(996,aU 34 65),(1003,aU 34 66),(804,aU 34 36),(35,aU 2 0),(527,aU 33 0),(210,aU 10 0),(438,aU 27 1),(457,aU 28 1),(476,aU 29 1),(1057,top 36),(1064,top 37),(1071,top 38),(1078,top 39),(1085,top 40),(1092,top 41)]
noncomputable def cL:List (Addr×Addr×List Str):=[(53,35,["name","index","line","column","buffer","pointer"]),(530,527,["token_number","required","index","line","column","mark"]),(290,210,["start_mark","end_mark"]),(350,210,["start_mark","end_mark"]),(314,210,["start_mark","end_mark"]),(326,210,["start_mark","end_mark"]),(338,210,["start_mark","end_mark"]),(362,210,["start_mark","end_mark"]),(374,210,["start_mark","end_mark"]),(386,210,["start_mark","end_mark"]),(398,210,["start_mark","end_mark"]),(410,210,["start_mark","end_mark"]),(422,210,["start_mark","end_mark"]),(441,438,["value","start_mark","end_mark"]),(460,457,["value","start_mark","end_mark"]),(479,476,["value","start_mark","end_mark"])]
noncomputable def XD(C:Addr):Tok:=(([(278,578),(290,609),(314,645),(326,663),(338,681),(350,699),(362,717),(374,735),(386,753),(398,771),(410,789),(422,807),(441,825),(460,856),(479,887),(499,918)]:List (Addr×Tok)).lookup C).getD 0
noncomputable def Sr(K:Frag)(C:Addr):Bool:=plainGet K C "id"&&(hasDictIn K C&&(findIn K (.ref C) "id"==some (some (Value.str (Ag C) (XD C)))&&specialIn K (Value.str (Ag C) (XD C)) "__get__"==some Option.none))
theorem Nv{C:Addr}(h:Sr g.K C=true):JY g C:=⟨(ba h),(ba (bb h)),_,bq (ba (bb (bb h))),bq (bb (bb (bb h)))⟩
structure Ws(K:Frag):Prop where
 n:nL.all (fun e=>FP K e.1 e.2)=true
 lk:NC K nL
 c:cL.all (fun e=>Yr K e.1 e.2.1&&Nu K e.1 e.2.2)=true
 m:Ma.all (KS K)=true
 f7:NH.all (fun x=>nsIn K mainGlobals x==some Option.none)=true
 gl:VH.all (fun x=>nsIn K mainGlobals x.1==some (some (.ref x.2)))=true
 la:NB.all (fun x=>nsIn K mainGlobals x.1==some (some (.ref x.2)))=true
 c9:Lu.all (fun x=>keepIn K (.ref x.1))=true
 tok:rV.all (fun p=>Sr K p.1)=true
 s1:aJ.all (fun n=>Io K 1048 n&&takerIn K 1048 n==some Option.none)=true
 s2:(FQ K 1048&&(Fw.all (Io K 530)&&(Io K 53 "index"&&(keepIn K (.ref 130)&&([441,460,479,499].all (fun a=>Io K a "value")&&(Io K 499 "style"&&Io K 511 "problem_mark"))))))=true
theorem Ws.def_(H:Ws g.K){k:Nat}{kws:List Str}(i:Nat)(e:lR nL i=some (f,fd))(b:lK fd.args k kws ns):vR g f fd ns k kws []:=
 LD (kJ H.n i e) (wV H.lk i e) b
theorem Ws.qM(H:Ws g.K){C:Addr}{l:List Str}{n:Nat}(i j:Nat)(e:lR cL i=some (C,fI,l))(e2:lR nL j=some (fI,fd))(hl:Nt fd.scope l=true)(hi:kG "self" fd.body (ll l))(hn:l.length=n)(b:lK fd.args (n+1) [] ("self"::l)):qJ g C (ll l) n []:=by
 exact KV (ba (kJ H.c i e)) (bb (kJ H.c i e)) (kJ H.n j e2) (wV H.lk j e2) hl hi hn b
def Qn(g:Gl)(l:List (Addr×FD×List Str×Nat×List V)):Prop:=∀d∈l,vR g d.1 d.2.1 d.2.2.1 d.2.2.2.1 [] d.2.2.2.2
theorem Qn.c{k:Nat}{r:List (Addr×FD×List Str×Nat×List V)}(h:vR g f fd ns k [] jF)(t:Qn g r):Qn g ((f,fd,ns,k,jF)::r):=List.forall_mem_cons.mpr ⟨h,t⟩
def Xd(g:Gl)(l:List (Addr×List Str×Nat×List V)):Prop:=∀d∈l,qJ g d.1 (ll d.2.1) d.2.2.1 d.2.2.2
theorem Xd.c{a:Addr}{k:Nat}{r:List (Addr×List Str×Nat×List V)}(h:qJ g a (ll ns) k jF)(t:Xd g r):Xd g ((a,ns,k,jF)::r):=List.forall_mem_cons.mpr ⟨h,t⟩
structure Spec(g:Gl):Prop where
 p2:vR g 152 (aU 8 1) ["self","index"] 2 [] []
 p1:vR g 152 (aU 8 1) ["self","index"] 1 [] [.int 0]
 x2:vR g 160 (aU 8 2) ["self","length"] 2 [] []
 f2:vR g 168 (aU 8 3) ["self","length"] 2 [] []
 f1:vR g 168 (aU 8 3) ["self","length"] 1 [] [.int 1]
 s5:qJ g 499 (ll ["value","plain","start_mark","end_mark","style"]) 5 []
 s4:qJ g 499 (ll ["value","plain","start_mark","end_mark","style"]) 4 [.none]
 st:Mq g 278 (ll ["start_mark","end_mark","encoding"]) 2 "encoding"
 er:zS g 511 (ll sI) 4 [.none]
theorem RR(H:Ws g.K)(S:Spec g):Qn g LC:=by
 refine .c S.p2 ?_;refine .c S.p1 ?_;refine .c S.x2 ?_;refine .c S.f2 ?_;refine .c S.f1 ?_;refine .c (H.def_ 0 rfl (b1 (.inl rfl))) ?_;refine .c (H.def_ 1 rfl (b2 (.inr (.inr (.inl rfl))))) ?_;refine .c (H.def_ 2 rfl (b2 (.inr (.inr (.inr (.inl rfl)))))) ?_;refine .c (H.def_ 3 rfl (b1 (.inl rfl))) ?_;refine .c (H.def_ 4 rfl (b1 (.inl rfl))) ?_;refine .c (H.def_ 5 rfl (b1 (.inl rfl))) ?_;refine .c (H.def_ 6 rfl (b1 (.inl rfl))) ?_;refine .c (H.def_ 7 rfl (b1 (.inl rfl))) ?_;refine .c (H.def_ 8 rfl (b1 (.inl rfl))) ?_;refine .c (H.def_ 9 rfl (b1 (.inl rfl))) ?_;refine .c (H.def_ 10 rfl (b2 (.inl rfl))) ?_;refine .c (H.def_ 11 rfl (b2 (.inl rfl))) ?_;refine .c (H.def_ 12 rfl (b1 (.inl rfl))) ?_;refine .c (H.def_ 13 rfl (b1 (.inl rfl))) ?_;refine .c (H.def_ 14 rfl (b1 (.inl rfl))) ?_;refine .c (H.def_ 15 rfl (b2 (.inr (.inl rfl)))) ?_;refine .c (H.def_ 16 rfl (b1 (.inl rfl))) ?_;refine .c (H.def_ 17 rfl (b1 (.inl rfl))) ?_;refine .c (H.def_ 18 rfl (b2 (.inr (.inl rfl)))) ?_;refine .c (H.def_ 19 rfl (b1 (.inl rfl))) ?_;refine .c (H.def_ 20 rfl (b1 (.inl rfl))) ?_;refine .c (H.def_ 21 rfl (b1 (.inl rfl))) ?_;refine .c (H.def_ 22 rfl (b1 (.inl rfl))) ?_;refine .c (H.def_ 23 rfl (b1 (.inl rfl))) ?_;refine .c (H.def_ 24 rfl (b1 (.inl rfl))) ?_;refine .c (H.def_ 25 rfl (b1 (.inl rfl))) ?_;refine .c (H.def_ 26 rfl (b1 (.inl rfl))) ?_;refine .c (H.def_ 27 rfl (b1 (.inl rfl))) ?_;refine .c (H.def_ 28 rfl (b1 (.inl rfl))) ?_;refine .c (H.def_ 29 rfl (b1 (.inl rfl))) ?_;refine .c (H.def_ 30 rfl (b1 (.inl rfl))) ?_;refine .c (H.def_ 31 rfl (b1 (.inl rfl))) ?_;refine .c (H.def_ 32 rfl (b1 (.inl rfl))) ?_;refine .c (H.def_ 33 rfl (b1 (.inl rfl))) ?_;refine .c (H.def_ 34 rfl (b1 (.inl rfl))) ?_;refine .c (H.def_ 35 rfl (b2 (.inr (.inl rfl)))) ?_;refine .c (H.def_ 36 rfl (b2 (.inr (.inr (.inr (.inr (.inr rfl))))))) ?_;refine .c (H.def_ 37 rfl (b3 (.inl ⟨.inr (.inl rfl),rfl⟩))) ?_;refine .c (H.def_ 38 rfl (b1 (.inl rfl))) ?_;refine .c (H.def_ 39 rfl (b3 (.inl ⟨.inl rfl,rfl⟩))) ?_;refine .c (H.def_ 40 rfl (b1 (.inl rfl))) ?_;refine .c (H.def_ 41 rfl (b1 (.inr (.inl rfl)))) ?_;refine .c (H.def_ 42 rfl (b2 (.inr (.inr (.inr (.inr (.inl rfl))))))) ?_;refine .c (H.def_ 43 rfl (b1 (.inl rfl))) ?_;refine .c (H.def_ 44 rfl (b1 (.inl rfl))) ?_;refine .c (H.def_ 45 rfl (b3 (.inl ⟨.inr (.inr rfl),rfl⟩))) ?_;refine .c (H.def_ 46 rfl (b3 (.inl ⟨.inr (.inl rfl),rfl⟩))) ?_;refine .c (H.def_ 47 rfl (b3 (.inl ⟨.inr (.inl rfl),rfl⟩))) ?_;exact fun U h=>nomatch h
theorem i2{p1 p2 p3 p4 q1 q2 q3 q4:Pos}:kG "self" [.Assign [.Attribute (.Name "self" p1) "start_mark" p2] (.Name "start_mark" p3) p4,.Assign [.Attribute (.Name "self" q1) "end_mark" q2] (.Name "end_mark" q3) q4] (ll ["start_mark","end_mark"]):=.cons (.cons .nil)
theorem RQ(H:Ws g.K)(S:Spec g):Xd g KU:=by
 have l2:Nt (aU 10 0).scope ["start_mark","end_mark"]=true:=by decide+kernel
 refine .c (H.qM 0 49 rfl rfl (by decide+kernel) (.cons (.cons (.cons (.cons (.cons (.cons .nil)))))) rfl bM) ?_;refine .c (H.qM 1 50 rfl rfl (by decide+kernel) (.cons (.cons (.cons (.cons (.cons (.cons .nil)))))) rfl bK) ?_;refine .c (H.qM 2 51 rfl rfl l2 i2 rfl (b3 (.inr ⟨rfl,rfl⟩))) ?_;refine .c (H.qM 3 51 rfl rfl l2 i2 rfl (b3 (.inr ⟨rfl,rfl⟩))) ?_;refine .c (H.qM 4 51 rfl rfl l2 i2 rfl (b3 (.inr ⟨rfl,rfl⟩))) ?_;refine .c (H.qM 5 51 rfl rfl l2 i2 rfl (b3 (.inr ⟨rfl,rfl⟩))) ?_;refine .c (H.qM 6 51 rfl rfl l2 i2 rfl (b3 (.inr ⟨rfl,rfl⟩))) ?_;refine .c (H.qM 7 51 rfl rfl l2 i2 rfl (b3 (.inr ⟨rfl,rfl⟩))) ?_;refine .c (H.qM 8 51 rfl rfl l2 i2 rfl (b3 (.inr ⟨rfl,rfl⟩))) ?_;refine .c (H.qM 9 51 rfl rfl l2 i2 rfl (b3 (.inr ⟨rfl,rfl⟩))) ?_;refine .c (H.qM 10 51 rfl rfl l2 i2 rfl (b3 (.inr ⟨rfl,rfl⟩))) ?_;refine .c (H.qM 11 51 rfl rfl l2 i2 rfl (b3 (.inr ⟨rfl,rfl⟩))) ?_;refine .c (H.qM 12 51 rfl rfl l2 i2 rfl (b3 (.inr ⟨rfl,rfl⟩))) ?_;refine .c (H.qM 13 52 rfl rfl (by decide+kernel) (.cons (.cons (.cons .nil))) rfl b4) ?_;refine .c (H.qM 14 53 rfl rfl (by decide+kernel) (.cons (.cons (.cons .nil))) rfl b4) ?_;refine .c S.s5 ?_;refine .c S.s4 ?_;refine .c (H.qM 15 54 rfl rfl (by decide+kernel) (.cons (.cons (.cons .nil))) rfl b4) ?_;exact fun U h=>nomatch h
theorem RS(H:Ws g.K):Qn g Lu:=by
 refine .c (H.def_ 55 rfl b0) ?_;refine .c (H.def_ 56 rfl b0) ?_;refine .c (H.def_ 57 rfl b0) ?_;refine .c (H.def_ 58 rfl (bG (.inl ⟨rfl,rfl,rfl⟩))) ?_;refine .c (H.def_ 59 rfl (bG (.inr ⟨rfl,rfl,rfl⟩))) ?_;refine .c (H.def_ 60 rfl (b1 (.inr (.inr rfl)))) ?_;exact fun U h=>nomatch h
theorem To(H:Ws g.K)(S:Spec g):aP g:=by
 have h:=H.s2;exact{m:=fun i e=>Ys (kJ H.m i e),d:=fun i e=>RR H S _ (aN i e),n:=fun i e=>bq (kJ H.f7 i e),gl:=fun i e=>bq (kJ H.gl i e),c:=fun i e=>RQ H S _ (aN i e),attr:=fun n hn=>qB (ba (u5.mp H.s1 n hn)),so:=Lb (ba h),Mk:=fun n hn=>bq (bb (u5.mp H.s1 n hn)),lM:=H.def_ 48 rfl bF,CI:=fun n hn=>qB (u5.mp (ba (bb h)) n hn),CK:=qB (ba (bb (bb h))),CX:=⟨(ba (bb (bb (bb h))))⟩,CL:=S.st,Wr:=S.er}
theorem Uz{α β:Type}{f:α->β}{y:β}:∀{l:List α} (i:Nat),(lR l i).map f=some y->∃x,lR l i=some x/\f x=y
 |[],_,h=>nomatch h
 |a::l,0,h=>⟨a,rfl,Option.some.inj h⟩
 |a::l,i+1,h=>Uz (l:=l) i h
theorem HG(H:Ws g.K):iM g:=by
 have h:=bb (bb (bb (bb H.s2)));exact{d:=fun i e=>RS H _ (aN i e),k:=fun i e=>bQ (Uz i e) fun x h1 h2=>⟨h2▸kJ H.c9 i h1⟩,gl:=fun i e=>bq (kJ H.la i e),tok:=fun p hp=>Nv (u5.mp H.tok p hp),val:=fun C hC=>qB (u5.mp (ba h) C hC),XC:=qB (ba (bb h)),err:=qB (bb (bb h))}
noncomputable def tL:List (Addr×Array Value):=[(145, #[.int 0 390]),(153, #[.int 1 399]),(161, #[.int 1 408]),(489, #[.none]),(268, #[.none,.none,.none]),(78, #[.none,.none,.none,.none,.none])]
noncomputable def dL:List (Addr×FD×Addr):=[((152:Addr),aU 8 1,(145:Addr)),(160,aU 8 2,153),(168,aU 8 3,161),(496,aU 30 1,489),(275,aU 14 1,268),(85,aU 4 0,78)]
noncomputable def VC:List (Addr×Addr×List Str):=[(499,496,["value","plain","start_mark","end_mark","style"]),(278,275,["start_mark","end_mark","encoding"])]
noncomputable def WO(K:Frag)(a:Addr)(l:Array Value):Obj:=⟨((K.lookup a).getD default).cls,((K.lookup a).getD default).dict,.seq l,((K.lookup a).getD default).slots⟩
structure rG(g:Gl):Prop where
 c:Ws g.K
 t:tL.map (fun e=>g.K.lookup e.1)=tL.map (fun e=>some (WO g.K e.1 e.2))
 d:dL.map (fun e=>g.K.lookup e.1)=dL.map (fun e=>some (HM g.K e.1 e.2.1 (.ref e.2.2)))
 f:dL.all (fun e=>Sq g.K e.1 e.2.1.scope)=true
 cc:VC.all (fun e=>Yr g.K e.1 e.2.1&&Nu g.K e.1 e.2.2)=true
 x:(Nu g.K 511 sI&&(findIn g.K (.ref 511) "__init__"==some (some (.ref 85))&&(typeIn g.K (.ref 85)==some (.type "function")&&keepIn g.K (.ref 511))))=true
 xr:Ky g 511
 xs:rE g.K 511
 s:Bv g
theorem rG.ok(R:rG g){T:Addr}(i:Nat)(e:lR dL i=some (f,fd,T)):Eh g f (kY g.K f).qualname fd.args fd.body fd.scope (.ref T) (kY g.K f).code:=Bz (kJ R.f i e) (wV R.d i e)
theorem rG.in(R:rG g){a:Addr}{l:Array Value}(i:Nat)(e:lR tL i=some (a,l))(X:g.K.In h):Frag.In [(a,WO g.K a l)] h:=by
 intro b o hb;rw[List.lookup_cons] at hb;cases hh:b==a with
 |true=>rw[hh] at hb;cases hb;rw[beq_iff_eq.mp hh];exact X _ _ (wV R.t i e)
 |false=>rw[hh] at hb;cases hb
theorem rG.cls(R:rG g){C T:Addr}{l:List Str}(j:Nat)(ec:lR VC j=some (C,fI,l))(i:Nat)(e:lR dL i=some (fI,fd,T))(hl:Nt fd.scope l=true)(hi:kG "self" fd.body (ll l)):
  uO g C fI (kY g.K fI).qualname fd.args fd.body fd.scope (.ref T) (kY g.K fI).code "self" (ll l):=by
 exact La (ba (kJ R.cc j ec)) (bb (kJ R.cc j ec)) (kJ R.f i e) (wV R.d i e) hl hi
theorem rG.p2(R:rG g):vR g 152 (aU 8 1) ["self","index"] 2 [] []:=
 (.mk _ _ _ ([]) (R.ok 0 rfl) (fun _ _=>.nil) (fun vals eC h0 g0=>JH h0 fun U U=>HH g0 fun s hs name kV doc pm an ct=>kp_binds (R.in 0 rfl hs) fun S=>rfl))
theorem rG.p1(R:rG g):vR g 152 (aU 8 1) ["self","index"] 1 [] [.int 0]:=
 (.mk _ _ _ ([.int 0 390]) (R.ok 0 rfl) (fun _ _=>.cons .int .nil) (fun vals eC h0 g0=>JG h0 fun U=>HH g0 fun s hs name kV doc pm an ct=>kp_binds (R.in 0 rfl hs) fun S=>rfl))
theorem rG.x2(R:rG g):vR g 160 (aU 8 2) ["self","length"] 2 [] []:=
 (.mk _ _ _ ([]) (R.ok 1 rfl) (fun _ _=>.nil) (fun vals eC h0 g0=>JH h0 fun U U=>HH g0 fun s hs name kV doc pm an ct=>kp_binds (R.in 1 rfl hs) fun S=>rfl))
theorem rG.f2(R:rG g):vR g 168 (aU 8 3) ["self","length"] 2 [] []:=
 (.mk _ _ _ ([]) (R.ok 2 rfl) (fun _ _=>.nil) (fun vals eC h0 g0=>JH h0 fun U U=>HH g0 fun s hs name kV doc pm an ct=>kp_binds (R.in 2 rfl hs) fun S=>rfl))
theorem rG.f1(R:rG g):vR g 168 (aU 8 3) ["self","length"] 1 [] [.int 1]:=
 (.mk _ _ _ ([.int 1 408]) (R.ok 2 rfl) (fun _ _=>.cons .int .nil) (fun vals eC h0 g0=>JG h0 fun U=>HH g0 fun s hs name kV doc pm an ct=>kp_binds (R.in 2 rfl hs) fun S=>rfl))
theorem rG.s5(R:rG g):qJ g 499 (ll ["value","plain","start_mark","end_mark","style"]) 5 []:=
 (.mk _ _ _ _ _ _ _ _ ([]) (R.cls 0 rfl 3 rfl (by decide+kernel) (.cons (.cons (.cons (.cons (.cons .nil)))))) (fun _ _=>.nil) rfl (fun vals h0=>TL h0 fun U U U U U x s hs name kV doc pm an ct=>kp_binds (R.in 3 rfl hs) fun S=>rfl))
theorem rG.s4(R:rG g):qJ g 499 (ll ["value","plain","start_mark","end_mark","style"]) 4 [.none]:=
 (.mk _ _ _ _ _ _ _ _ ([.none]) (R.cls 0 rfl 3 rfl (by decide+kernel) (.cons (.cons (.cons (.cons (.cons .nil)))))) (fun _ _=>.cons .none .nil) rfl (fun vals h0=>PN h0 fun U U U U x s hs name kV doc pm an ct=>kp_binds (R.in 3 rfl hs) fun S=>rfl))
theorem rG.st(R:rG g):Mq g 278 (ll ["start_mark","end_mark","encoding"]) 2 "encoding":=
 (.mk _ _ _ _ _ _ _ _ (R.cls 1 rfl 4 rfl (by decide+kernel) (.cons (.cons (.cons .nil)))) rfl (fun vals kv h0=>JH h0 fun U U x s hs name kV doc pm an ct=>kp_binds (R.in 4 rfl hs) fun S=>rfl))
theorem VF:Nt (aU 4 0).scope sI=true:=by decide+kernel
theorem rG.ex(R:rG g):tW g 511 85 (kY g.K 85).qualname (aU 4 0).args (aU 4 0).body (aU 4 0).scope (.ref 78) (kY g.K 85).code "self" (ll sI):=
 ⟨R.xr,bq (ba (bb R.x)),bq (ba (bb (bb R.x))),bb (bb (bb R.x)),R.ok 5 rfl,R.xs,.cons (.cons (.cons (.cons (.cons .nil)))),by decide,by rw[TO];exact Lc (ba R.x),by rw[Wy];exact fun a ha=>⟨bq (ba (u5.mp (ba VF) a ha)),(Bool.not_eq_true' _).mp (bb (u5.mp (ba VF) a ha))⟩,by decide,by decide,by decide⟩
theorem rG.er(R:rG g):zS g 511 (ll sI) 4 [.none]:=
 (.mk _ _ _ _ _ _ _ _ ([.none]) R.ex (fun _ _=>.cons .none .nil) rfl (fun vals h0=>PN h0 fun U U U U x s hs name kV doc pm an ct=>kp_binds (R.in 5 rfl hs) fun S=>rfl))
theorem rG.facts(R:rG g):aP g:=To R.c ⟨R.p2,R.p1,R.x2,R.f2,R.f1,R.s5,R.s4,R.st,R.er⟩
theorem rG.c7(R:rG g):iM g:=HG R.c
theorem AL(R:rG g){cd:Value}{oV:Heap}{a:Addr}{vals:List Value}{script:List Int}{s:Shared}
  (K0:Below callerA h [] h) (KX:g.K.In h) (T:Top g.p g.loose g.AQ g.mg g.mb h) (Fm:Fr h h.objs.size oV m) (hm:m "script"=some (.ref a))
  (hl:h.IsList a vals.toArray) (hi:IntsAre vals script) (hn:¬((63:Nat):Int)<(script.length:Int)) (hs:s.heap=oV) {Qr:Flow->Shared->Prop}
  (q:∀h' bH m',Fr h h.objs.size h' m'->Qr (.ret (.bool true)) (St s h' bH)):
  wpAny (model g.prog g.w) (callerA.deeper (envX "law" (top 42).scope h.objs.size f cd [])) (execs (top 42).body (envX "law" (top 42).scope h.objs.size f cd [])) Qr Er s:=
 Ow R.facts R.s R.c7 K0 KX T Fm hm hl hi hn hs q
namespace hd
def tw6265170123278674144:=V
def tw14199497947161861042:=V
def tw70504467139266312:=V
def tw11321808089211409890:=V
def tw1523658836675050804:=V
def tw17444623497044311267:=V
def tw15850850952774717093:=V
def tw5129100327938481947:=V
def tw541580609670479430:=V
def tw9572024549278143227:=V
def tw9557033521324488393:=V
def tw7569833724000825925:=V
def tw15103342064012570648:=V
def tw7529130512179515739:=V
def tw10314814847376767113:=V
def tw13641004847509316846:=V
def tw1080807525618032726:=V
def tw13721701085657304472:=V
def tw10735011138126884216:=V
def tw12864325376041727945:=V
def tw12548654655308641768:=V
def tw8978102704660224085:=V
def tw15482834225003803977:=V
def tw4303922720696150026:=V
def tw2782680217427406503:=V
def tw3609619317189211081:=V
def tw10932325485557636262:=V
def tw9365843419700471067:=V
def tw16874378897286668274:=V
def tw18342914789491032373:=V
def tw15230860919284253270:=V
def tw936212154012417551:=V
def tw3434568106166762924:=V
def tw18280231356768202928:=V
def tw16331016480089262388:=V
def tw7178817707606537756:=V
def tw13131669474384156130:=V
def tw8673665949694871306:=V
def tw5932558218160036093:=V
def tw6146999420328679401:=V
def tw13012100217145684311:=V
def tw9411467720932436458:=V
def tw5509933267665162965:=V
def tw27347020408234108:=V
def tw17259825775893236993:=V
def tw8001206370205753959:=V
def tw9940076194958452677:=V
def tw7522362723090193151:=V
def tw1006474142936029432:=V
def tw15293771430684577509:=V
def tw16558604503322718569:=V
def tw11521076009072141127:=V
def tw2686811819572748776:=V
def tw7339385377263174568:=V
def tw1209259664397189692:=V
def tw10322035152243889170:=V
def tw12316206225457281584:=V
def tw588414361728750325:=V
def tw8418850081465071547:=V
def tw1070806864712125225:=V
def tw12200847462783376755:=V
def tw7352393279153081721:=V
def tw16193521475006141292:=V
def tw6888037770979986429:=V
def tw2399103561582609577:=V
def tw8620915925392604993:=V
def tw17548301592722837999:=V
def tw10075236066252557282:=V
def tw14183143666670911114:=V
def tw1942723855846508794:=V
def tw10549741195566840321:=V
def tw3076281753983609132:=V
def tw8580518863689810338:=V
def tw2266067727031820928:=V
def tw4834755124440303813:=V
def tw11445307732193420406:=V
def tw9424071236715195469:=V
def tw9417033243287817803:=V
def tw3471617488691342163:=V
def tw11747188248321908775:=V
def tw1262521818313538117:=V
def tw11259913245555897121:=V
def tw9576667148146664971:=V
def tw6442102004362931456:=V
def tw10257909930514227660:=V
def tw1984363972637095396:=V
def tw7098796662738865718:=V
def tw3244765175273431187:=V
def tw32680709886465603:=V
def tw7760740165033458314:=V
def tw5469443151430644227:=V
def tw12661178830731656644:=V
def tw11432382262962725059:=V
def tw16009306857160682382:=V
def tw15068095265764424882:=V
def tw10066325740915139090:=V
def tw17386589932338058259:=V
def tw16460976945913506865:=V
def tw11445796338385990213:=V
def tw17132341959485951477:=V
def tw16632024033765633173:=V
def tw17480675751169399666:=V
def tw5725608563912678902:=V
def tw808681233213301776:=V
def tw781112392691160112:=V
def tw4424279083300782990:=V
def tw11864378218710959652:=V
def tw6418394132375852581:=V
def tw7095182050415464044:=V
def tw1552681676908215114:=V
def tw7684266224416042558:=V
def tw8886676353466617286:=V
def tw6179258418468663141:=V
def tw17309730176458506095:=V
def tw6046201485432095634:=V
def tw11015883113180050327:=V
def tw13637684649295473127:=V
def tw3331922841121032985:=V
def tw1598261544914212599:=V
def tw4572055151466897615:=V
def tw4331374464667076758:=V
def tw5727967610002061669:=V
def tw7839861392634791998:=V
def tw11122842944015723790:=V
def tw13308291806819139472:=V
def tw8402618584194901558:=V
def tw14246127934150904186:=V
def tw12905145899662694839:=V
def tw18260245816743181511:=V
def tw8903285369723716950:=V
def tw2677792999027748202:=V
def tw11143654925288551574:=V
def tw3261694639857263868:=V
def tw6023910225058666752:=V
def tw14679928423975458991:=V
def tw366907285348118453:=V
def tw3530395735491656021:=V
def tw11615153089178345000:=V
def tw15210470473946732509:=V
def tw17232697547758917835:=V
def tw9329144140751820182:=V
def tw12249696234330937054:=V
def tw896041191675105985:=V
def tw1664424002330261135:=V
def tw14645323873262247986:=V
def tw10875472949588697265:=V
def tw13291438424144138419:=V
def tw10266834256667246075:=V
def tw12392441046977651542:=V
def tw7082444589050389901:=V
def tw7331053905995067744:=V
def tw4153822554230765228:=V
def tw7903667746670248309:=V
def tw5246941504419573690:=V
def tw11043639167150740152:=V
def tw3706051270626361977:=V
def tw6355020355175173681:=V
def tw11056149785067698321:=V
def tw9677542627691614064:=V
def tw17772274698961265293:=V
def tw6211407954914241527:=V
def tw3929644205436876891:=V
def tw9625954409417532054:=V
def tw5875580373042446662:=V
def tw16408791803549164065:=V
def tw4639630377994808837:=V
def tw9687556985513317663:=V
def tw7343300513203493971:=V
def tw3674186819540265957:=V
def tw2938735568688020788:=V
def tw9821591817271157005:=V
def tw1311894858572065410:=V
def tw14479959197142875710:=V
def tw8138335841240258086:=V
def tw17314117238199800277:=V
def tw15080681613647853314:=V
def tw12655525799616151746:=V
def tw10314690494331789408:=V
def tw16149103838541710524:=V
def tw400298613683006031:=V
def tw3867037960071472045:=V
def tw2394875097976081641:=V
def tw17562630884545722471:=V
def tw1295079835146089599:=V
def tw4547531257694134135:=V
def tw4185455073568141546:=V
def tw1252028615792887328:=V
def tw17244905008012452814:=V
def tw1037384927157171198:=V
def tw11483237411998669720:=V
def tw6360194056172702126:=V
def tw16192249821931289364:=V
def tw11934350699983728027:=V
def tw9032869535437464162:=V
def tw12894091464228559451:=V
def tw5777426239950281674:=V
def tw628478076801646101:=V
def tw15292561661927768003:=V
def tw6034331834246549318:=V
def tw8766153797292197645:=V
def tw13402166490378460096:=V
def tw1658102840681255752:=V
def tw2365020520246788147:=V
def tw13655080880385067533:=V
def tw5914723586387771985:=V
def tw2609263803504603046:=V
def tw5499663076606008585:=V
def tw16561031784554278298:=V
def tw7430934849479919532:=V
def tw1915855561349344771:=V
def tw7167780255434881355:=V
def tw6170397048971407570:=V
def tw9119655138871107046:=V
def tw17106247454124805299:=V
def tw11435383248008150556:=V
def tw2454814033019696937:=V
def tw13367688621499913182:=V
def tw8574351653490815970:=V
def tw17821629586853470551:=V
def tw12305008260806041468:=V
def tw61191686967583403:=V
def tw4588187551228634268:=V
def tw5109750279720785074:=V
def tw10755821558809116012:=V
def tw4022063746063642947:=V
def tw7863745022479089229:=V
def tw6872526038962216167:=V
def tw3613764528863817497:=V
def tw6390727810798310923:=V
def tw1122436896229213571:=V
def tw16203475035833160808:=V
def tw2945750046319874812:=V
def tw17233589022662653838:=V
def tw14784423416584386534:=V
def tw9180358300632990600:=V
def tw17825077915755302112:=V
def tw367857026772771265:=V
def tw13257976950880005937:=V
def tw5414534339726536707:=V
def tw12280789728482893115:=V
def tw10624226597165476215:=V
def tw17220510071083114264:=V
def tw141379768648097825:=V
def tw14473985656389049187:=V
def tw2364733319659085324:=V
def tw11959612452944106126:=V
def tw1052711879173552807:=V
def tw1555437378128666086:=V
def tw11869846291161295793:=V
def tw3312639428575888987:=V
def tw8577123868205661300:=V
def tw5293970474611253079:=V
def tw12740448316850118660:=V
def tw6341908896634534438:=V
def tw13694777250737953920:=V
def tw10169186735810369720:=V
def tw16367322488064149640:=V
def tw8583156150137307454:=V
def tw11521132717034644113:=V
def tw597430841090971830:=V
def tw11226056209096007788:=V
def tw2092355116749281574:=V
def tw7746552458522460070:=V
def tw15237705394332104762:=V
def tw10638500153800496621:=V
def tw3703956732320662906:=V
def tw18229235640690726180:=V
def tw14979002361958829438:=V
def tw4215820143475215781:=V
def tw80207222412747470:=V
def tw13016227033810113515:=V
def tw7898585464131444999:=V
def tw13260216794222476875:=V
def tw10592794516085672850:=V
def tw13875821200728361853:=V
def tw568945801153699124:=V
def tw16093596954561186164:=V
def tw8549678576505192021:=V
def tw9193979096431994668:=V
def tw120949319569067898:=V
def tw8038203026324743289:=V
def tw8637924245605089610:=V
def tw1527838690883220852:=V
def tw546453376004863633:=V
def tw628826382804869247:=V
def tw9257564877634915833:=V
def tw17915111120718918509:=V
def tw7076120885198085643:=V
def tw6383293400628747032:=V
def tw10056392159520603492:=V
def tw16607784696358226408:=V
def tw4085355107048368183:=V
def tw17653395014608570344:=V
def tw13705485828373817184:=V
def tw8293519452102458304:=V
def tw9027985886240724871:=V
def tw14667673173054737094:=V
def tw13878465386051367416:=V
def tw17632791038123910024:=V
def tw5139909716467530538:=V
def tw1041734066939551766:=V
def tw3483350824736438000:=V
def tw5765500513520695160:=V
def tw13819635886744424586:=V
def tw16753550483799774095:=V
def tw8673760779264423547:=V
def tw18224232547471651939:=V
def tw2107888079280393879:=V
def tw15051540443700079324:=V
def tw3687686028191705147:=V
def tw15039365748200984442:=V
def tw17316199666452605741:=V
def tw4445787948887339598:=V
def tw2442061107527103931:=V
def tw1532897608927182526:=V
def tw14675040844991300425:=V
def tw1323028282283239234:=V
def tw3825937853902108583:=V
def tw358998308624483670:=V
def tw17587535071971633485:=V
def tw17051707027893714694:=V
def tw6809180150348452684:=V
def tw6902259678686825763:=V
def tw15027813657048799489:=V
def tw8882255173952614290:=V
def tw12804790748501761660:=V
def tw13433236359130419834:=V
def tw344035087544949089:=V
def tw8971800947757722863:=V
def tw17085629754188750694:=V
def tw2560931123470285748:=V
def tw16898703421338395802:=V
def tw187721451887068916:=V
def tw3026984102671762804:=V
def tw16210493721406562244:=V
def tw1479833339227408067:=V
def tw123068294514122753:=V
def tw2796045569192068878:=V
def tw4287501998611880655:=V
def tw9136285450836598234:=V
def tw15008555091322755903:=V
def tw9735997196182214540:=V
def tw16244669901488709893:=V
def tw7617803963422487118:=V
def tw9263913306972830034:=V
def tw12398722771655946143:=V
def tw6679102955309959600:=V
def tw816255722647023276:=V
def tw7306873896866421051:=V
def tw3361780842719999595:=V
def tw7669143873086936922:=V
def tw1874159405358719183:=V
def tw6743835506366012284:=V
def tw16148404707657748683:=V
def tw17984269316229385674:=V
def tw6953686225705527895:=V
def tw7943434605978140569:=V
def tw17698727481433063041:=V
def tw18174727709737113557:=V
def tw3541772276978147337:=V
def tw14846430730451215336:=V
def tw8993227998240613506:=V
def tw12904261374257909793:=V
def tw12850929210481661051:=V
def tw1292574782506224866:=V
def tw2229498832506520899:=V
def tw9691164852092459200:=V
def tw17581694313120579900:=V
def tw9320986196914341143:=V
def tw1635092285416264557:=V
def tw8257457310077000080:=V
def tw9724669041814001911:=V
def tw15170166819509798712:=V
def tw1995303238660393591:=V
def tw791894052214622578:=V
def tw7670109990956578547:=V
def tw16490958093706603973:=V
def tw8759374071611058102:=V
def tw17133045824648328273:=V
def tw2201769383853589397:=V
def tw5784692650032633571:=V
def tw16629463414486148354:=V
def tw13411596345087251410:=V
def tw17015435336251040360:=V
def tw8631647698044649071:=V
def tw12469394786265501217:=V
def tw17847010519790855202:=V
def tw9716150944856294761:=V
def tw15769674674836675847:=V
def tw16045600132092593285:=V
def tw8754232674301072984:=V
def tw6721296464632655532:=V
def tw14304563500966998132:=V
def tw3490399344014754336:=V
def tw12842129537826997421:=V
def tw18432477139146500567:=V
def tw8414816662057420513:=V
def tw3219386304998410691:=V
def tw5598066291311507204:=V
def tw9706586530633849931:=V
def tw11862501624678476012:=V
def tw13493074278026115540:=V
def tw17924859569552203780:=V
def tw16538304330064555565:=V
def tw13162475630746883375:=V
def tw15990409148406401000:=V
def tw15058164694079252910:=V
def tw17648703758258394866:=V
def tw12728009169484992298:=V
def tw73932630633417052:=V
def tw3003183182289327622:=V
def tw2224877142723597828:=V
def tw12978694689486476534:=V
def tw15925481048366180601:=V
def tw1847498129718734126:=V
def tw5874622170150204493:=V
def tw3086868240375072983:=V
def tw10070748784411743049:=V
def tw15834134325217734722:=V
def tw10718497935973042336:=V
def tw1369006999010240338:=V
def tw15614994299816657964:=V
def tw8217994612687968141:=V
def tw17510691922017120571:=V
def tw8019583575661373409:=V
def tw17412215115074521722:=V
def tw16609110625150722024:=V
def tw219480563031444581:=V
def tw9745053878982180236:=V
def tw15082021408330104867:=V
def tw8913407344586987475:=V
def tw1173135590058218265:=V
def tw11537399940052880508:=V
def tw4130825540490128306:=V
def tw12590031813254465263:=V
def tw1886097375651017517:=V
def tw13784644807815321581:=V
def tw15084177094807405108:=V
def tw1530186012659733002:=V
def tw2994801530090354438:=V
def tw13673710656853086251:=V
def tw5695148799593641189:=V
def tw18205726932040692184:=V
def tw7528239908106934616:=V
def tw5588271506499744379:=V
def tw11320427198303771236:=V
def tw7839665609038958061:=V
def tw4761188538168918444:=V
def tw17232693881448610366:=V
def tw8191383141383413902:=V
def tw7719632045839163205:=V
def tw4186443071834478652:=V
def tw17986764984829171165:=V
def tw1713613408738466740:=V
def tw9108644517948501008:=V
def tw8149274712835364755:=V
def tw8267077920821831787:=V
def tw1523212933880916979:=V
def tw16516967820593259991:=V
def tw6837933980278877480:=V
def tw12113259657773216964:=V
def tw17877473435196805177:=V
def tw2620797684545610549:=V
def tw16118823824875299653:=V
def tw675554889913544426:=V
def tw15413546389474711556:=V
def tw603594558354810906:=V
def tw15015567032572629849:=V
def tw16826218869028738250:=V
def tw9666415797876524396:=V
def tw2811318038965151686:=V
def tw1160317203684671307:=V
def tw14041867575472867259:=V
def tw2974339514598981336:=V
def tw11900943390969748877:=V
def tw10898578532549830312:=V
def tw5759647067039785218:=V
def tw6553926801971918991:=V
def tw14831906022683161478:=V
def tw16520977018256573966:=V
def tw9167245089561082170:=V
def tw23902888720678887:=V
def tw893644547651322600:=V
def tw13078271307976294731:=V
def tw8753742132941547738:=V
def tw11203017424089718567:=V
def tw13971359600739959757:=V
def tw6645754676732357884:=V
def tw6668100618884986112:=V
def tw1794401647697937491:=V
def tw4836071039612271888:=V
def tw12135065554953047620:=V
def tw13005405145879189257:=V
def tw2678143867751452360:=V
def tw14487415735459167684:=V
def tw17419490979579898423:=V
def tw16611703323094282476:=V
def tw4925474479639805574:=V
def tw4650248630828124516:=V
def tw1002739005766175229:=V
def tw3058765270845314565:=V
def tw14727973948776507358:=V
def tw6585647535407982122:=V
def tw6567288245983111171:=V
def tw14964370614067952720:=V
def tw4795873937789857368:=V
def tw9503991325330020860:=V
def tw6351698254187997254:=V
def tw7688735527202146115:=V
def tw567898682632124531:=V
def tw378977806655794909:=V
def tw3228372226667921670:=V
def tw14523085412063620967:=V
def tw15872721093973134059:=V
def tw12685184891068620186:=V
def tw13894294492759856728:=V
def tw9959168783939394535:=V
def tw11815352881546339388:=V
def tw15342760918450512699:=V
def tw207991313653043188:=V
def tw10584935223327274461:=V
def tw7350544599812273793:=V
def tw14496288281795972469:=V
def tw1083652316349211561:=V
def tw15163363291558411915:=V
def tw16479881564531537609:=V
def tw10498207760515217633:=V
def tw4499872705259310715:=V
def tw6342410221627838221:=V
def tw13710774639955215449:=V
def tw4323881887774741629:=V
def tw6496468359453899740:=V
def tw7119652698235046276:=V
def tw13244113239224849809:=V
def tw4096336611382216148:=V
def tw3779012795390611018:=V
def tw9692193050773601005:=V
def tw16655361398738801047:=V
def tw15954617418576163654:=V
def tw13185193354669925997:=V
def tw13268954446999921834:=V
def tw15834621417332309486:=V
def tw2307930045212491506:=V
def tw6276673660110437445:=V
def tw2130250830938240763:=V
def tw3227706676992921592:=V
def tw9669889567957919948:=V
def tw3610102804104083065:=V
def tw10584903055604394054:=V
def tw15610684576858937276:=V
def tw15388080482858252691:=V
def tw17339922335847191533:=V
def tw9192306302185186207:=V
def tw5627993144553289949:=V
def tw4992423415846252249:=V
def tw15232813378086664489:=V
def tw13423386743651976425:=V
def tw15127604789221709464:=V
def tw738775025143659625:=V
def tw3062554034549116351:=V
def tw13229510803694398910:=V
def tw9742114404145244758:=V
def tw2239790306715865176:=V
def tw6671535061982701834:=V
def tw5270485755897854155:=V
def tw11510230443308922866:=V
def tw14739706128910411235:=V
def tw12652299772924304202:=V
def tw13883575605910189399:=V
def tw16874358794406088996:=V
def tw4854229051247803819:=V
def tw14234986236628817851:=V
def tw11080624332738626378:=V
def tw11350916983344032794:=V
def tw18061153546308781385:=V
def tw12115566699164302592:=V
def tw13054651096227442229:=V
def tw3604189019820491887:=V
def tw14632772474323675635:=V
def tw16954684184137436936:=V
def tw11911503445448643969:=V
def tw13185914140803707571:=V
def tw3310480015852809135:=V
def tw8899746735614894663:=V
def tw13661864377559211056:=V
def tw8401526953307532:=V
def tw5371229575969440175:=V
def tw12859282356559654918:=V
def tw1850006992992877954:=V
def tw1546340448729182881:=V
def tw6350475880396880301:=V
def tw1979913288306733268:=V
def tw461652223194966327:=V
def tw1123976555077800971:=V
def tw9433380107526252560:=V
def tw3009570038974986837:=V
def tw4026838921711094595:=V
def tw2253076609543119693:=V
def tw5930415463011625340:=V
def tw6387178735628264494:=V
def tw9048594486883216300:=V
def tw10392334341150296681:=V
def tw6299529512197398807:=V
def tw5197284449146708579:=V
def tw5278541085303473619:=V
def tw2138341982008666649:=V
def tw12849525874377588401:=V
def tw18059793885086720939:=V
def tw8980842199889561628:=V
def tw10200596682531068870:=V
def tw4935679993663727648:=V
def tw2234841607322767675:=V
def tw14831431034001966896:=V
def tw2366270029833321311:=V
def tw8252906717003651694:=V
def tw10040720712832622683:=V
def tw870252485276807420:=V
def tw10473428154290885455:=V
def tw1976320048464600139:=V
def tw10652557068286136655:=V
def tw12628875407168470636:=V
def tw9012918078620557602:=V
def tw16049856711259736594:=V
def tw4184465406074381966:=V
def tw16159750873741389634:=V
def tw15208779795234195778:=V
def tw1525885583670464380:=V
def tw8582838029754580635:=V
def tw11912248818721715553:=V
def tw17573272137492337276:=V
def tw10604818783366450682:=V
def tw7114702342371406679:=V
def tw8866890569696520983:=V
def tw11788377316966045874:=V
def tw17927675201940733108:=V
def tw5597022631086240730:=V
def tw16797425033611315937:=V
def tw856468140157597299:=V
def tw17665755110179055526:=V
def tw8363449657656907623:=V
def tw13769894087898017207:=V
def tw9340432698400089522:=V
def tw9764821556886614387:=V
def tw13846476931252782885:=V
def tw2417802982746472137:=V
def tw3487185270739371903:=V
def tw6598610022634002709:=V
def tw566282697109011151:=V
def tw14515198211248367263:=V
def tw18344054339320819672:=V
def tw12573578597317748645:=V
def tw3025108057812911590:=V
def tw1760938099516911481:=V
def tw1248928498290534400:=V
def tw10305269356859574647:=V
def tw14154010076438239110:=V
def tw12822537139662283243:=V
def tw1092365185724088631:=V
def tw2173964782534647824:=V
def tw6581903676286546102:=V
def tw168994441188853045:=V
def tw10209381380540763500:=V
def tw7955698833483038738:=V
def tw7608060696618008248:=V
def tw17059487216203745038:=V
def tw10258465067628124579:=V
def tw1001501262261694418:=V
def tw4551586886017427205:=V
def tw16063936889278989754:=V
def tw9539737241629129775:=V
def tw42479039228130786:=V
def tw7463169733074949843:=V
def tw1235247223174674489:=V
def tw4013227346040760583:=V
def tw7575007369245600600:=V
def tw13060237787698756651:=V
def tw12149660499277099224:=V
def tw8151924304054899687:=V
def tw1626954789893016217:=V
def tw13566373518162323693:=V
def tw17295801982453579902:=V
def tw2601553834287326237:=V
def tw12426564226344084313:=V
def tw9939709412603809333:=V
def tw16560290962428233049:=V
def tw3284363174483386244:=V
def tw6269251234911203764:=V
def tw5330046652437701267:=V
def tw7808421317679229744:=V
def tw8594091374061654533:=V
def tw15945647015417289575:=V
def tw12071501765572576511:=V
def tw16491924972389407994:=V
def tw10611771540298893143:=V
def tw6425283475488350215:=V
def tw15725300006707927175:=V
def tw13593311038801747615:=V
def tw15455116640653406654:=V
def tw1099769379720537770:=V
def tw29851341024097229:=V
def tw10754876068304953247:=V
def tw12176083173453557179:=V
def tw10913585522690886933:=V
def tw15972110575474759679:=V
def tw8715868543458076471:=V
def tw7805803428083949980:=V
def tw4050068356787960456:=V
def tw5509500717763924342:=V
def tw5585562161386960571:=V
def tw7404191238989333517:=V
def tw15587043529229516289:=V
def tw9046533771756868877:=V
def tw10459998452446265740:=V
def tw3609727675691564194:=V
def tw168201424540246993:=V
def tw14885124812403076695:=V
def tw16671430358935201974:=V
def tw11266129037736892665:=V
def tw15459919231471728178:=V
def tw15981775994675145863:=V
def tw13966082070955660426:=V
def tw11476253306716732098:=V
def tw8624149140182123753:=V
def tw15638330822065878545:=V
def tw7349092456717908193:=V
def tw12908175579262019581:=V
def tw8547976606474840627:=V
def tw11328591614603762405:=V
def tw8366455275434205655:=V
def tw6236048102885228246:=V
def tw2343039922362307056:=V
def tw9870564867049460845:=V
def tw17553067712141033818:=V
def tw13079010573780550807:=V
def tw1861754713845661025:=V
def tw9471604286028564565:=V
def tw1883101928817154291:=V
def tw17148754175671867601:=V
def tw2926546973763661384:=V
def tw17597415741657687795:=V
def tw1131009196008226358:=V
def tw8223273226496171019:=V
def tw3394336870119047908:=V
def tw10002268660128649252:=V
def tw14708598158918624833:=V
def tw4812048042432436358:=V
def tw10954896027920521500:=V
def tw287947231083746679:=V
def tw4410822158433673331:=V
def tw13056049162108353537:=V
def tw3731410014628475021:=V
def tw4666280033733451440:=V
def tw8513013380502322827:=V
def tw7714296737518875710:=V
def tw13295757670020842875:=V
def tw570580334211071369:=V
def tw17728965625124801958:=V
def tw2202738052149791422:=V
def tw14548093507029618238:=V
def tw3595355477287675206:=V
def tw4451072393086977611:=V
def tw6770055932767112551:=V
def tw16732195475098059574:=V
def tw4292124644429209710:=V
def tw6714678847661489262:=V
def tw3666847643071129622:=V
def tw2944121130915620767:=V
def tw14987213230683893226:=V
def tw147534423690234772:=V
def tw5462893749543862879:=V
def tw5027669282166582034:=V
def tw9309459007353498140:=V
def tw17764615713609121955:=V
def tw5533284921534288411:=V
def tw15386967168359606001:=V
def tw124703635131657984:=V
def tw2395360589981782600:=V
def tw231678842138440352:=V
def tw10942831735398218583:=V
def tw8764165114954018434:=V
def tw9146881087671835868:=V
def tw6619486752054971423:=V
def tw1728196956790604047:=V
def tw1992405202823017090:=V
def tw15903440401835868834:=V
def tw2223425423447361994:=V
def tw2488860425557155003:=V
def tw6087493978418456603:=V
def tw15741303081692602393:=V
def tw18416071368914092631:=V
def tw14874740015416403351:=V
def tw9886747476611742599:=V
def tw8867138011813171871:=V
def tw11155353856842241703:=V
def tw1737164910517545198:=V
def tw2766661427924329419:=V
def tw6219950571994921479:=V
def tw4210854329550417504:=V
def tw16644201821892198081:=V
def tw17682009817383010814:=V
def tw4458026342584188919:=V
def tw9789424005658652060:=V
def tw10478568671102049440:=V
def tw10981247840145607329:=V
def tw2698987816519630869:=V
def tw15793134307803792781:=V
def tw11423366701579904857:=V
def tw8359198448007392577:=V
def tw3957676037438438435:=V
def tw4669232988116832430:=V
def tw14185234552157331069:=V
def tw8185473973605470997:=V
def tw5048557933796377899:=V
def tw7504022934668878425:=V
def tw1680920111763224811:=V
def tw4996283469597685290:=V
def tw2487633121026635805:=V
def tw1541199775450033235:=V
def tw3713774561306115620:=V
def tw18279466969836665061:=V
def tw15768255177571059533:=V
def tw11835290161127952913:=V
def tw9240168550403210075:=V
def tw11026102214843661311:=V
def tw4812445951556440385:=V
def tw977017194038806211:=V
def tw10850427885867537041:=V
def tw16869773528944115042:=V
def tw6100019897110745148:=V
def tw18382448096889393371:=V
def tw11623240451586125619:=V
def tw13043773894940636711:=V
def tw580786715081773033:=V
def tw13419790239819088309:=V
def tw4027570223873491336:=V
def tw12927277143433365694:=V
def tw4068178545649160379:=V
def tw10819485041398963147:=V
def tw15610926135251115398:=V
def tw10586524348924607906:=V
def tw4412262172769576561:=V
def tw3856039896529550511:=V
def tw15161326946880079398:=V
def tw14330866029970894518:=V
def tw503780265075650398:=V
def tw6435613555943814401:=V
def tw3780787445193727532:=V
def tw16140346037966671567:=V
def tw17519745973974767739:=V
def tw2155373148024153087:=V
def tw5578469743405236373:=V
def tw5463311042859391544:=V
def tw14903521294893836149:=V
def tw2557189256652083335:=V
def tw18403829441425892717:=V
def tw3495553720403181153:=V
def tw2283856342367524435:=V
def tw3020274298221478276:=V
def tw14019357707464180739:=V
def tw2908595245633717595:=V
def tw6064361311239337953:=V
def tw12404371233699189817:=V
def tw16279281476208572124:=V
def tw10796147989822787844:=V
def tw17674521349322135176:=V
def tw324789982251995979:=V
def tw1387449649885023538:=V
def tw6712101261821760373:=V
def tw126899189614909607:=V
def tw9715535729577717270:=V
def tw16278950018613345595:=V
def tw15441256140065102201:=V
def tw14941774590477668621:=V
def tw16808911903280404894:=V
def tw16753856019293054950:=V
def tw11796111409470358493:=V
def tw14357048138563382964:=V
def tw10961369148470160073:=V
def tw1844586762473781984:=V
def tw1488685991154950166:=V
def tw3584515259715860500:=V
def tw5636303146250169470:=V
def tw16994832310330321305:=V
def tw13677020842628307333:=V
def tw9826395005243518002:=V
def tw4520646222491181370:=V
def tw16778089087635534260:=V
def tw5587868097446475073:=V
def tw2634524516542322496:=V
def tw4124452956704139395:=V
def tw4459829061737920120:=V
def tw13345808911917323032:=V
def tw10763837439906050012:=V
def tw16368629955692084229:=V
def tw8113946606531873331:=V
def tw7547125785247578940:=V
def tw17776756044511651994:=V
def tw3989794210015794800:=V
def tw15036532459502034952:=V
def tw740585118569290451:=V
def tw6320518386173553733:=V
def tw9321749180303621477:=V
def tw455996952264472808:=V
def tw9003164874222133143:=V
def tw14642527364979015918:=V
def tw16876290765625790874:=V
def tw6786659393958316216:=V
def tw13034690579477884622:=V
def tw16644025755203776648:=V
def tw4544679596462431387:=V
def tw13893224023628974537:=V
def tw5848525411004977341:=V
def tw10261226752179379232:=V
def tw11923671214888560654:=V
def tw2068406123592202298:=V
def tw7587126088831727915:=V
def tw11745692727488381282:=V
def tw11130649375529969920:=V
def tw9048959043973113942:=V
def tw17156858200166860814:=V
def tw16706406908939067481:=V
def tw5630533868503338980:=V
def tw12203266531451400970:=V
def tw16640113483863055521:=V
def tw9208106234588509766:=V
def tw8910540313397133072:=V
def tw7562163892257148404:=V
def tw5246501284691441710:=V
def tw9324410711738953788:=V
def tw4572914132581569009:=V
def tw7493792406740641562:=V
def tw17263540893757438442:=V
def tw4324768590502034390:=V
def tw1450175648694293406:=V
def tw10543549493946370339:=V
def tw17662925508944244659:=V
def tw14662617371843658649:=V
def tw11234803216861417679:=V
def tw17078526466157459939:=V
def tw1066297216363992635:=V
def tw6617686139246983403:=V
def tw13692123062782078819:=V
def tw7205870552132398805:=V
def tw7730664659590461041:=V
def tw18315960055377521309:=V
def tw8621839932002950188:=V
def tw8376689464294639256:=V
def tw7879665242938685309:=V
def tw11145164175221040675:=V
def tw17860502405603952497:=V
def tw4841115729618937879:=V
def tw16655954734093074254:=V
def tw8304746327516048488:=V
def tw10753747369729691027:=V
def tw14661157006325481053:=V
def tw16860904484811629988:=V
def tw7333407450560187677:=V
def tw195797228579154521:=V
def tw830858750615896436:=V
def tw2655586099545260437:=V
def tw16347810527638631630:=V
def tw7416751222084276281:=V
def tw10950900528292386117:=V
def tw18143610487759034564:=V
def tw1981489257346161902:=V
def tw6229570014629185221:=V
def tw15216002699667891035:=V
def tw1756488131837449251:=V
def tw213796272625031558:=V
def tw18158035491867847236:=V
def tw12289785986931056098:=V
def tw5487493568022846362:=V
def tw16823710555383410329:=V
def tw11244900381572368662:=V
def tw6522067053726604020:=V
def tw9700569562226587831:=V
def tw15444645232372524822:=V
def tw2038790695668725586:=V
def tw10123922257226166911:=V
def tw12328740410804925801:=V
def tw16698072605275554026:=V
def tw3093505475390664035:=V
def tw16633321846759511662:=V
def tw4854368506661825922:=V
def tw12117432559162701428:=V
def tw12560559677533885675:=V
def tw10031117400631392382:=V
def tw5079330015975024831:=V
def tw13238961998321641863:=V
def tw17896979994045829828:=V
def tw13522595751371437881:=V
def tw6038658630603023450:=V
def tw865256926295866735:=V
def tw8974285638726340953:=V
def tw12899943327723670910:=V
def tw12695656491558541806:=V
def tw12468848272116607636:=V
def tw4413494717353474276:=V
def tw13702962655247883447:=V
def tw9869680852686050949:=V
def tw4158538966326616356:=V
def tw8480387041410936312:=V
def tw14520819711834966260:=V
def tw2149693233209586783:=V
def tw15181314209895136188:=V
def tw6942949338078487781:=V
def tw12063813234649006523:=V
def tw16782738593694554091:=V
def tw14811076978495188195:=V
def tw11666170188013902:=V
def tw7309933557424586653:=V
def tw4971707271873142875:=V
def tw543636222009071611:=V
def tw11043565332798135927:=V
def tw9747750627657676039:=V
def tw6700630366935767112:=V
def tw8455509636433690358:=V
def tw2311596606651319760:=V
def tw4144914912218024235:=V
def tw5155557033790407861:=V
def tw16300260667763138969:=V
def tw6078900312468773854:=V
def tw4887793233202170652:=V
def tw1513407473488127497:=V
def tw10288849259350499405:=V
def tw18257714122569852405:=V
def tw5438134180794533118:=V
def tw2680338956159875683:=V
def tw16264488296547236668:=V
def tw10310522070392361284:=V
def tw4136307361423647539:=V
def tw10720887837350958406:=V
def tw1736350178976864181:=V
def tw16436016496887433444:=V
def tw3655753129109681850:=V
def tw13565630665325419216:=V
def tw4568231203091369911:=V
def tw1920314895626431374:=V
def tw9372208762206411727:=V
def tw8881279393935526575:=V
def tw9487600189386256480:=V
def tw7600283742025370008:=V
def tw15914279173456535478:=V
def tw7231647588127744845:=V
def tw14601715465040589972:=V
def tw16834843177216533021:=V
def tw12945714742577324819:=V
def tw5734481751687486110:=V
def tw1802135716158502341:=V
def tw18001230695176581838:=V
def tw7184416912432077863:=V
def tw59900535322954317:=V
def tw3992577438768274325:=V
def tw690909109011163107:=V
def tw13185518256862622155:=V
def tw1230260777543360137:=V
def tw3692403537964248751:=V
def tw4535849701284284645:=V
def tw6424439552836831324:=V
def tw7483599358628703746:=V
def tw6575407467413071127:=V
def tw778996663928911553:=V
def tw7416292914021302191:=V
def tw3896432864908169337:=V
def tw477729914001885993:=V
def tw10142378343001408303:=V
def tw5267257673517129457:=V
def tw6128699546485818623:=V
def tw8808839054081031943:=V
def tw18248645608335573719:=V
def tw8386983601427270016:=V
def tw7703145625051659290:=V
def tw7081575712417257101:=V
def tw4329327081025809573:=V
def tw14263468659301548020:=V
def tw17873168446024335648:=V
def tw10797655095234933175:=V
def tw15831449180804048182:=V
def tw12209715661091281649:=V
def tw8904193203061881282:=V
def tw10088965222861814276:=V
def tw8761934834357262393:=V
def tw12382532101624025837:=V
def tw18352704746069975241:=V
def tw2780260501866471414:=V
def tw2260383908665594258:=V
def tw15378620127687112918:=V
def tw3415153176103795331:=V
def tw2116293081078497426:=V
def tw14170626163746665929:=V
def tw15972030042294211563:=V
def tw14791417324727343718:=V
def tw11167175802785304912:=V
def tw16028368227544363629:=V
def tw6493439458051767224:=V
def tw9522278419015659552:=V
def tw4234769180768666233:=V
def tw2414695876002994979:=V
def tw7075670792697189723:=V
def tw12675848167991613597:=V
def tw10792643332837311246:=V
def tw15709432073139065983:=V
def tw16349847624731819066:=V
def tw13397267326918798082:=V
def tw2337606911067854252:=V
def tw14843652167993416414:=V
def tw1814947928973949013:=V
def tw336506951737951121:=V
def tw9246538752182454164:=V
def tw6825794384878216377:=V
def tw11804036180299837096:=V
def tw1603383138076344820:=V
def tw13436793889874751463:=V
def tw754995371310844855:=V
def tw16706120442794172161:=V
def tw15184348022372230366:=V
def tw2942616286324163607:=V
def tw17213202801741711188:=V
def tw5910955368310942365:=V
def tw15695144274627864644:=V
def tw13519734569699835203:=V
def tw10418821070498059912:=V
def tw8722938342819674158:=V
def tw6915010725816912745:=V
def tw12152784171910769985:=V
def tw11966548221656425832:=V
def tw5102789649808105643:=V
def tw4455062051430825911:=V
def tw11574777934848296746:=V
def tw42318653628957785:=V
def tw13840480417363512630:=V
def tw10731177294508112274:=V
def tw9260853090893430991:=V
def tw16190403399209913662:=V
def tw9740553358378948315:=V
def tw12634883239147335504:=V
def tw10998584579097939537:=V
def tw8499867674576427667:=V
def tw11798513794507384182:=V
def tw12806410881072968316:=V
def tw6551069468878901323:=V
def tw375679006084315010:=V
def tw14851662188348016525:=V
def tw14710975458640902228:=V
def tw15362009611261821448:=V
def tw14989010241459935700:=V
def tw9285060498679892708:=V
def tw6060171853651468988:=V
def tw11812990402858981387:=V
def tw2568273125106305562:=V
def tw15473961653952966477:=V
def tw11234307636885372486:=V
def tw6586001862233079623:=V
def tw12235683188849618921:=V
def tw4950615714455853267:=V
def tw10379133185000867636:=V
def tw6174678826926318537:=V
def tw15364902741380281815:=V
def tw15101716383203956559:=V
def tw10478118752892766091:=V
def tw183478918671366464:=V
def tw4170544652312619650:=V
def tw12093608987786060565:=V
def tw12083575760338326149:=V
def tw8225072435852268347:=V
def tw7252744027004354421:=V
def tw4277449665417238038:=V
def tw13414662886053400026:=V
def tw15419413099817759249:=V
def tw6758191495299125114:=V
def tw8827373875297307324:=V
def tw5489698587151705762:=V
def tw4853578551445522630:=V
def tw18438121853782319176:=V
def tw4437483791414902797:=V
def tw6589317048279271080:=V
def tw5021760664021748207:=V
def tw16415684545702188449:=V
def tw4212550544905979133:=V
def tw11082318014727886095:=V
def tw18066081243835392563:=V
def tw4794295470348331434:=V
def tw2738606659493605458:=V
def tw17136238077632673464:=V
def tw18311684407545491649:=V
def tw6615520038809974339:=V
def tw5512636732973679808:=V
def tw7104915865109316593:=V
def tw8889955186467401882:=V
def tw12339238810355491140:=V
def tw13585729697985622802:=V
def tw3692537525332797038:=V
def tw3916285193714390168:=V
def tw7529648799523948996:=V
def tw8816488491593808883:=V
def tw10807948746275343805:=V
def tw13253541544203528774:=V
def tw10610930620100246578:=V
def tw13702326064699736726:=V
def tw11192297927005754250:=V
def tw10777565216647047016:=V
def tw2777310486606898128:=V
def tw7882751426655431386:=V
def tw11978532268704778355:=V
def tw7940129607693576344:=V
def tw1665519426611977725:=V
def tw437722411660003408:=V
def tw7230039626435586406:=V
def tw4507420085913086705:=V
def tw14993929160186503751:=V
def tw5813924530853040166:=V
def tw18045596184195472670:=V
def tw14117766483522153913:=V
def tw5558443091381482111:=V
def tw1575818370579092412:=V
def tw11656587275550533016:=V
def tw14805315293902769111:=V
def tw15643034517356785631:=V
def tw4427974247585970236:=V
def tw17792526076716820980:=V
def tw15575071372768740936:=V
def tw1672987069340362256:=V
def tw9666658338934384728:=V
def tw15842043797858019231:=V
def tw8983397095688490290:=V
def tw18066960732618442621:=V
def tw306268748803782688:=V
def tw7363439029260755892:=V
def tw14766628837263464153:=V
def tw15775876202546382854:=V
def tw3750811979167540357:=V
def tw4400060288345857186:=V
def tw3562850618612545023:=V
def tw8498548277181722101:=V
def tw7694040772201074070:=V
def tw4011730449221504619:=V
def tw15722331224553798755:=V
def tw5165858259965997201:=V
def tw4318662949951621594:=V
def tw18225048404721366151:=V
def tw17033410494504267669:=V
def tw12010918843540018363:=V
def tw13082511223303912029:=V
def tw13603198493218928432:=V
def tw17714025838733488182:=V
def tw9366875484532515407:=V
def tw8593204713895540843:=V
def tw17523582860893176437:=V
def tw15500987786846045838:=V
def tw16223378899611936308:=V
def tw12328891124129407551:=V
def tw1243817115420203540:=V
def tw4229197034057890473:=V
def tw2143862073804680454:=V
def tw11243312107713688672:=V
def tw2177979273374649106:=V
def tw7690266627064258982:=V
def tw10554151724961605560:=V
def tw17510342927460740847:=V
def tw6103308179388321402:=V
def tw1322599901344629079:=V
def tw6196946367736269074:=V
def tw7182486151376732564:=V
def tw6597962789093873526:=V
def tw3564083277989941625:=V
def tw14066897420323017581:=V
def tw13152900647210115318:=V
def tw2873107717996512030:=V
def tw3252088795011185546:=V
def tw17413402906406384846:=V
def tw12795287235825905236:=V
def tw8608783340356727737:=V
def tw18264486928267264063:=V
def tw17301770046715024355:=V
def tw2447612040936993662:=V
def tw16987089875077307720:=V
def tw880765996842172355:=V
def tw6264115543738340563:=V
def tw13334789235222989889:=V
def tw11990059301537373963:=V
def tw10483159309910767364:=V
def tw1480571949376996046:=V
def tw1324119301739381:=V
def tw14658465915341274893:=V
def tw2501938814400721562:=V
def tw4736157901138370405:=V
def tw10868664014757305031:=V
def tw11170986363074059871:=V
def tw6729940628936871286:=V
def tw1111395655364133852:=V
def tw15516504957378829982:=V
def tw1781748603270608967:=V
def tw8119415023574550399:=V
def tw15972887241109575105:=V
def tw15213867517606551158:=V
def tw6760662844775422206:=V
def tw16422317819224724801:=V
def tw16738745784312259678:=V
def tw2513579433753930287:=V
def tw7116993658995107447:=V
def tw7713965142312942992:=V
def tw12402786825793880664:=V
def tw670263645769261399:=V
def tw1884399729814107754:=V
def tw2241180450144564393:=V
def tw15876243489191307597:=V
def tw12387470312852788890:=V
def tw8431553999049341567:=V
def tw4577393864431605276:=V
def tw16271221263835843588:=V
def tw1383844976935760699:=V
def tw4790182246096814837:=V
def tw15573792974875501539:=V
def tw8670876273566594210:=V
def tw6254241358121603344:=V
def tw5791980126387539862:=V
def tw10812026482400934424:=V
def tw4855435815858847083:=V
def tw7192714274489868344:=V
def tw1697823684261348857:=V
def tw12386524454841638718:=V
def tw580301670077480640:=V
def tw14946310595379027892:=V
def tw2267546703583191381:=V
def tw8494178379519767217:=V
def tw7913717863462653910:=V
def tw5766817342387943034:=V
def tw9673087150982176410:=V
def tw3503359234994187029:=V
def tw896392117091262416:=V
def tw9844633441911778520:=V
def tw9452872987620912765:=V
def tw6099794974223559636:=V
def tw11615864803445427873:=V
def tw15446708149075816471:=V
def tw8980041911258296626:=V
def tw9076996456281710778:=V
def tw15360700911483270650:=V
def tw17746410852422831316:=V
def tw11871245172023452956:=V
def tw6178929325686578268:=V
def tw12034656612786429262:=V
def tw820227566019061362:=V
def tw5654540503010958517:=V
def tw15313804776001833728:=V
def tw10419372455594056456:=V
def tw5411588774181628338:=V
def tw13863886583734531057:=V
def tw13631729405558001194:=V
def tw11548198970792224769:=V
def tw10540686284600524729:=V
def tw5594199804548315133:=V
def tw2562384389655192718:=V
def tw11875649815601129772:=V
def tw17204449605386721941:=V
def tw13997896966902399118:=V
def tw14684485023479115063:=V
def tw16555405951933438768:=V
def tw4239049415839531936:=V
def tw5486493490053360157:=V
def tw226073816358300282:=V
def tw1769600823664482930:=V
def tw6850404167445703353:=V
def tw2198320190079138372:=V
def tw13707482908480027769:=V
def tw16413547821465148756:=V
def tw2521811729287596220:=V
def tw3434591014449323440:=V
def tw10126381309830911881:=V
def tw11833278902036403558:=V
def tw16923775255107783495:=V
def tw4115823564253892186:=V
def tw4293566933973591676:=V
def tw5765981979616339262:=V
def tw12343268692668775817:=V
def tw12352694792823802403:=V
def tw4210036100666030414:=V
def tw6827767141150073894:=V
def tw10315466174217670915:=V
def tw7353451040566468454:=V
def tw17110113439582799386:=V
def tw8367048467389024775:=V
def tw8218368388497587944:=V
def tw1711473549958359125:=V
def tw7828219581880995019:=V
def tw15468373810177246615:=V
def tw8755810029303015932:=V
def tw8667539529067879:=V
def tw18254621711343407291:=V
def tw5891310725916841985:=V
def tw6583578442109099172:=V
def tw8994223850203857199:=V
def tw11810988563341916252:=V
def tw2331973963085040194:=V
def tw567885990545472871:=V
def tw5764951542481038590:=V
def tw17438882437580071154:=V
def tw16506212381159507844:=V
def tw639243900295364999:=V
def tw17451717533980511810:=V
def tw9368504840272485767:=V
def tw7086048481527543654:=V
def tw9681958355900392862:=V
def tw3241225366106811912:=V
def tw7793654075249205795:=V
def tw6232892379941588703:=V
def tw6351979084779308449:=V
def tw11094289645390684026:=V
def tw960524448959485159:=V
def tw18313958262992902728:=V
def tw7635829786263382596:=V
def tw12284123929361467263:=V
def tw2848176756851099411:=V
def tw16064010049021166651:=V
def tw17082179047947594277:=V
def tw15544853520655005638:=V
def tw41017763157688102:=V
def tw11044803229060463981:=V
def tw517724198027276119:=V
def tw5963049168890907350:=V
def tw9810849677208565135:=V
def tw13831593846471801795:=V
def tw16089407683434389169:=V
def tw4873480283540838167:=V
def tw7273997582074884960:=V
def tw10708561578853574150:=V
def tw14260483616928936680:=V
def tw2223675290679670828:=V
def tw10478317699744915354:=V
def tw12801012565498045964:=V
def tw7076078542390164920:=V
def tw3016420499884711631:=V
def tw8943243362205933438:=V
def tw10899236745666942599:=V
def tw12917748928761252462:=V
def tw6275758757913814308:=V
def tw15938347017603190336:=V
def tw18088897003149539659:=V
def tw13562634003028335048:=V
def tw15822590657166595332:=V
def tw9812517637422296469:=V
def tw5504556581544584004:=V
def tw11680542252808841068:=V
def tw14455849627674982898:=V
def tw1479440292816680990:=V
def tw5645415064246725200:=V
def tw1378153343294550077:=V
def tw17052650310773991273:=V
def tw9471679069698626803:=V
def tw5479632107175813453:=V
def tw13814786413287485596:=V
def tw803298182361166000:=V
def tw281592698602171276:=V
def tw14864250025649883108:=V
def tw11973842944795041657:=V
def tw3952330419289308013:=V
def tw17630102493349999429:=V
def tw2217210030526828308:=V
def tw16477624312948428049:=V
def tw6178398987995114456:=V
def tw9276349011584097663:=V
def tw9013603393401162020:=V
def tw12961144429417063065:=V
def tw11239992877300529265:=V
def tw17848483983322774464:=V
def tw7536728726010098992:=V
def tw18183398384106905503:=V
def tw1757259352951929482:=V
def tw18212267438146297484:=V
def tw13292936899121948504:=V
def tw3580206924867195457:=V
def tw9878135420369046608:=V
def tw10856963564055442218:=V
def tw1314688719709390951:=V
def tw2316390732353752141:=V
def tw4143826401244880611:=V
def tw15373592851439433439:=V
def tw6452426570276761996:=V
def tw11746251328225360489:=V
def tw17805375393286525145:=V
def tw14056547237008328371:=V
def tw1948366231462838307:=V
def tw3877861454377741623:=V
def tw17734745681671571602:=V
def tw16582145984224169819:=V
def tw6767105285010031935:=V
def tw5667273915815168098:=V
def tw16279427001679887495:=V
def tw16953484572288141156:=V
def tw9259770788124725997:=V
def tw8390539997926843411:=V
def tw6355507385629914005:=V
def tw13821990636101746223:=V
def tw11403675791532753748:=V
def tw17438610683811369668:=V
def tw11790099413888845297:=V
def tw12073835226634816525:=V
def tw10000147801426223185:=V
end hd
set_option tactic.hygienic true in
set_option Elab.async true in
set_option maxHeartbeats 8000000 in
theorem hd:PySem.Challenge.rw_te0054_02.Holds:=by
 w_on
 o_law
 k_head
 case hw=>w_witness2
 w_strict (k_go0;(refine Internal.AL (g:=⟨_,_,Internal.hd.heap_1_39 _,Internal.hd.view_1_40,_,_,_,_⟩) ?zR (by assumption) (by assumption) (by assumption) (by assumption) ?zhm (by assumption) (by assumption) (by assumption) rfl ?zq);(case zhm=>rfl);(case zq=>intro h' bH m' Fm;refine goodW_bool Fm (by assumption) (raisesW_false ?zr) ?zp;(case zr=>wrow_none_raised);(case zp=>wrow_post));(case zR=>exact⟨⟨by kernel_rfl,by unfold Internal.NC;kernel_rfl,by kernel_rfl,by kernel_rfl,by kernel_rfl,by kernel_rfl,by kernel_rfl,by kernel_rfl,by kernel_rfl,by kernel_rfl,by kernel_rfl⟩,by kernel_rfl,by kernel_rfl,by kernel_rfl,by kernel_rfl,by kernel_rfl,(.mk _ _ _ _ _ _ _ _ _ _ _ _ _ _ _ _ "Exception" "Exception.__new__" "Exception.__init__" [.type "Exception",.type "BaseException",.type "object"] rfl ⟨F.excBase_Exception,by decide+kernel,by decide+kernel,by decide+kernel⟩ (by decide+kernel)),⟨by kernel_rfl,_,rfl,by decide+kernel,by decide+kernel,by decide+kernel,fun U=>rfl⟩,⟨by kernel_rfl,by kernel_rfl,by kernel_rfl,by kernel_rfl,(.mk _ _ _ _ _ _ _ _ _ _ _ _ _ _ _ _ _ rfl (by kernel_rfl) rfl rfl (by kernel_rfl)),⟨_,_,_,rfl⟩,⟨_,rfl⟩,by kernel_rfl,by kernel_rfl,by kernel_rfl,by kernel_rfl,by kernel_rfl,by kernel_rfl,by kernel_rfl⟩⟩))
end Mine.Internal
theorem PySem.Challenge.cw_te0054_02_holds : PySem.Challenge.rw_te0054_02.Holds :=
 Mine.Internal.hd
