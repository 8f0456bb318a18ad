import PyProof.Rows.All
import Wide.All
import OpenK.AllK
import Wide.FinOn
import PySem.Challenge.RW_uc0060_01
set_option maxRecDepth 100000
set_option linter.all false
set_option Elab.async false
set_option tactic.hygienic false
set_option compiler.extract_closed false
open Lean in
local macro_rules |`($m:declModifiers def$i:declId$s:optDeclSig$v:declVal)=>if m.raw[4].isNone then`($m:declModifiers theorem$i:declId $(⟨mkNode ``Parser.Command.declSig #[s.raw[0],s.raw[1][0]]⟩)$v:declVal)else Macro.throwUnsupported|`($m:declModifiers abbrev$i:declId$s:optDeclSig$v:declVal)=>if m.raw[4].isNone then`(noncomputable def$i:declId$s:optDeclSig$v:declVal)else Macro.throwUnsupported|`(tactic|show$t)=>`(tactic|refine$t)
namespace Mine
section
variable{P Q R S T U V W X:Prop}{G:Prop}
def aI(h:P/\Q)(q:P->Q->G):G:=q h.1 h.2
def iS(h:P/\Q/\R)(q:P->Q->R->G):G:=q h.1 h.2.1 h.2.2
def nJ(h:P/\Q/\R/\S)(q:P->Q->R->S->G):G:=q h.1 h.2.1 h.2.2.1 h.2.2.2
def zT(h:P/\Q/\R/\S/\T)(q:P->Q->R->S->T->G):G:=q h.1 h.2.1 h.2.2.1 h.2.2.2.1 h.2.2.2.2
def EJ(h:P/\Q/\R/\S/\T/\U)(q:P->Q->R->S->T->U->G):G:=q h.1 h.2.1 h.2.2.1 h.2.2.2.1 h.2.2.2.2.1 h.2.2.2.2.2
def MD(h:P/\Q/\R/\S/\T/\U/\V)(q:P->Q->R->S->T->U->V->G):G:=q h.1 h.2.1 h.2.2.1 h.2.2.2.1 h.2.2.2.2.1 h.2.2.2.2.2.1 h.2.2.2.2.2.2
def EK(h:P/\Q/\R/\S/\T/\U/\V/\W)(q:P->Q->R->S->T->U->V->W->G):G:=q h.1 h.2.1 h.2.2.1 h.2.2.2.1 h.2.2.2.2.1 h.2.2.2.2.2.1 h.2.2.2.2.2.2.1 h.2.2.2.2.2.2.2
def EL(h:P/\Q/\R/\S/\T/\U/\V/\W/\X)(q:P->Q->R->S->T->U->V->W->X->G):G:=q h.1 h.2.1 h.2.2.1 h.2.2.2.1 h.2.2.2.2.1 h.2.2.2.2.2.1 h.2.2.2.2.2.2.1 h.2.2.2.2.2.2.2.1 h.2.2.2.2.2.2.2.2
def cW:P->Q->R->P/\Q/\R:=λg h i=>⟨g,h,i⟩
def kr:P->Q->R->S->P/\Q/\R/\S:=λg h i j=>⟨g,h,i,j⟩
def zU:P->Q->R->S->T->P/\Q/\R/\S/\T:=λg h i j k=>⟨g,h,i,j,k⟩
def EM:P->Q->R->S->T->U->P/\Q/\R/\S/\T/\U:=λg h i j k l=>⟨g,h,i,j,k,l⟩
def ME:P->Q->R->S->T->U->V->P/\Q/\R/\S/\T/\U/\V:=λg h i j k l m=>⟨g,h,i,j,k,l,m⟩
end
section
variable{A:Type}{P Q R S T U V W X:A->Prop}{G:Prop}
def aU(h:∃a,P a)(q:∀a,P a->G):G:=h.elim λa h=>q a h
def aj(h:∃a,P a/\Q a)(q:∀a,P a->Q a->G):G:=h.elim λa h=>aI h (q a)
def bK(h:∃a,P a/\Q a/\R a)(q:∀a,P a->Q a->R a->G):G:=h.elim λa h=>iS h (q a)
def ku(h:∃a,P a/\Q a/\R a/\S a)(q:∀a,P a->Q a->R a->S a->G):G:=h.elim λa h=>nJ h (q a)
def l8(h:∃a,P a/\Q a/\R a/\S a/\T a)(q:∀a,P a->Q a->R a->S a->T a->G):G:=h.elim λa h=>zT h (q a)
def ui(h:∃a,P a/\Q a/\R a/\S a/\T a/\U a)(q:∀a,P a->Q a->R a->S a->T a->U a->G):G:=h.elim λa h=>EJ h (q a)
def MF(h:∃a,P a/\Q a/\R a/\S a/\T a/\U a/\V a)(q:∀a,P a->Q a->R a->S a->T a->U a->V a->G):G:=h.elim λa h=>MD h (q a)
def zV(h:∃a,P a/\Q a/\R a/\S a/\T a/\U a/\V a/\W a)(q:∀a,P a->Q a->R a->S a->T a->U a->V a->W a->G):G:=h.elim λa h=>EK h (q a)
def qA(h:∃a,P a/\Q a/\R a/\S a/\T a/\U a/\V a/\W a/\X a)(q:∀a,P a->Q a->R a->S a->T a->U a->V a->W a->X a->G):G:=h.elim λa h=>EL h (q a)
def aA:∀a,P a->Q a->∃a,P a/\Q a:=λa g h=>⟨a,g,h⟩
def bj:∀a,P a->Q a->R a->∃a,P a/\Q a/\R a:=λa g h i=>⟨a,g,h,i⟩
def dw:∀a,P a->Q a->R a->S a->∃a,P a/\Q a/\R a/\S a:=λa g h i j=>⟨a,g,h,i,j⟩
def sC:∀a,P a->Q a->R a->S a->T a->∃a,P a/\Q a/\R a/\S a/\T a:=λa g h i j k=>⟨a,g,h,i,j,k⟩
def EN:∀a,P a->Q a->R a->S a->T a->U a->∃a,P a/\Q a/\R a/\S a/\T a/\U a:=λa g h i j k l=>⟨a,g,h,i,j,k,l⟩
end
section
variable{A B:Type}{P Q R S T U V W:A->B->Prop}{G:Prop}
def fg(h:∃a b,P a b)(q:∀a b,P a b->G):G:=h.elim λa h=>aU h (q a)
def br(h:∃a b,P a b/\Q a b)(q:∀a b,P a b->Q a b->G):G:=h.elim λa h=>aj h (q a)
def ck(h:∃a b,P a b/\Q a b/\R a b)(q:∀a b,P a b->Q a b->R a b->G):G:=h.elim λa h=>bK h (q a)
def dg(h:∃a b,P a b/\Q a b/\R a b/\S a b)(q:∀a b,P a b->Q a b->R a b->S a b->G):G:=h.elim λa h=>ku h (q a)
def zW(h:∃a b,P a b/\Q a b/\R a b/\S a b/\T a b)(q:∀a b,P a b->Q a b->R a b->S a b->T a b->G):G:=h.elim λa h=>l8 h (q a)
def uj(h:∃a b,P a b/\Q a b/\R a b/\S a b/\T a b/\U a b)(q:∀a b,P a b->Q a b->R a b->S a b->T a b->U a b->G):G:=h.elim λa h=>ui h (q a)
def uk(h:∃a b,P a b/\Q a b/\R a b/\S a b/\T a b/\U a b/\V a b)(q:∀a b,P a b->Q a b->R a b->S a b->T a b->U a b->V a b->G):G:=h.elim λa h=>MF h (q a)
def EO(h:∃a b,P a b/\Q a b/\R a b/\S a b/\T a b/\U a b/\V a b/\W a b)(q:∀a b,P a b->Q a b->R a b->S a b->T a b->U a b->V a b->W a b->G):G:=h.elim λa h=>zV h (q a)
def gk:∀a b,P a b->∃a b,P a b:=λa b g=>⟨a,b,g⟩
def c8:∀a b,P a b->Q a b->∃a b,P a b/\Q a b:=λa b g h=>⟨a,b,g,h⟩
def cF:∀a b,P a b->Q a b->R a b->∃a b,P a b/\Q a b/\R a b:=λa b g h i=>⟨a,b,g,h,i⟩
def fC:∀a b,P a b->Q a b->R a b->S a b->∃a b,P a b/\Q a b/\R a b/\S a b:=λa b g h i j=>⟨a,b,g,h,i,j⟩
def zX:∀a b,P a b->Q a b->R a b->S a b->T a b->∃a b,P a b/\Q a b/\R a b/\S a b/\T a b:=λa b g h i j k=>⟨a,b,g,h,i,j,k⟩
def EP:∀a b,P a b->Q a b->R a b->S a b->T a b->U a b->∃a b,P a b/\Q a b/\R a b/\S a b/\T a b/\U a b:=λa b g h i j k l=>⟨a,b,g,h,i,j,k,l⟩
def zY:∀a b,P a b->Q a b->R a b->S a b->T a b->U a b->V a b->∃a b,P a b/\Q a b/\R a b/\S a b/\T a b/\U a b/\V a b:=λa b g h i j k l m=>⟨a,b,g,h,i,j,k,l,m⟩
def MG:∀a b,P a b->Q a b->R a b->S a b->T a b->U a b->V a b->W a b->∃a b,P a b/\Q a b/\R a b/\S a b/\T a b/\U a b/\V a b/\W a b:=λa b g h i j k l m n=>⟨a,b,g,h,i,j,k,l,m,n⟩
end
section
variable{A B C:Type}{P Q R S T U V W:A->B->C->Prop}{G:Prop}
def jG(h:∃a b c,P a b c)(q:∀a b c,P a b c->G):G:=h.elim λa h=>fg h (q a)
def pK(h:∃a b c,P a b c/\Q a b c)(q:∀a b c,P a b c->Q a b c->G):G:=h.elim λa h=>br h (q a)
def nK(h:∃a b c,P a b c/\Q a b c/\R a b c)(q:∀a b c,P a b c->Q a b c->R a b c->G):G:=h.elim λa h=>ck h (q a)
def sD(h:∃a b c,P a b c/\Q a b c/\R a b c/\S a b c)(q:∀a b c,P a b c->Q a b c->R a b c->S a b c->G):G:=h.elim λa h=>dg h (q a)
def MH(h:∃a b c,P a b c/\Q a b c/\R a b c/\S a b c/\T a b c)(q:∀a b c,P a b c->Q a b c->R a b c->S a b c->T a b c->G):G:=h.elim λa h=>zW h (q a)
def ER(h:∃a b c,P a b c/\Q a b c/\R a b c/\S a b c/\T a b c/\U a b c)(q:∀a b c,P a b c->Q a b c->R a b c->S a b c->T a b c->U a b c->G):G:=h.elim λa h=>uj h (q a)
def ES(h:∃a b c,P a b c/\Q a b c/\R a b c/\S a b c/\T a b c/\U a b c/\V a b c)(q:∀a b c,P a b c->Q a b c->R a b c->S a b c->T a b c->U a b c->V a b c->G):G:=h.elim λa h=>uk h (q a)
def MI(h:∃a b c,P a b c/\Q a b c/\R a b c/\S a b c/\T a b c/\U a b c/\V a b c/\W a b c)(q:∀a b c,P a b c->Q a b c->R a b c->S a b c->T a b c->U a b c->V a b c->W a b c->G):G:=h.elim λa h=>EO h (q a)
def ET:∀a b c,P a b c->∃a b c,P a b c:=λa b c g=>⟨a,b,c,g⟩
def l9:∀a b c,P a b c->Q a b c->∃a b c,P a b c/\Q a b c:=λa b c g h=>⟨a,b,c,g,h⟩
def pL:∀a b c,P a b c->Q a b c->R a b c->∃a b c,P a b c/\Q a b c/\R a b c:=λa b c g h i=>⟨a,b,c,g,h,i⟩
def qB:∀a b c,P a b c->Q a b c->R a b c->S a b c->∃a b c,P a b c/\Q a b c/\R a b c/\S a b c:=λa b c g h i j=>⟨a,b,c,g,h,i,j⟩
def EU:∀a b c,P a b c->Q a b c->R a b c->S a b c->T a b c->∃a b c,P a b c/\Q a b c/\R a b c/\S a b c/\T a b c:=λa b c g h i j k=>⟨a,b,c,g,h,i,j,k⟩
def EV:∀a b c,P a b c->Q a b c->R a b c->S a b c->T a b c->U a b c->∃a b c,P a b c/\Q a b c/\R a b c/\S a b c/\T a b c/\U a b c:=λa b c g h i j k l=>⟨a,b,c,g,h,i,j,k,l⟩
def MJ:∀a b c,P a b c->Q a b c->R a b c->S a b c->T a b c->U a b c->V a b c->∃a b c,P a b c/\Q a b c/\R a b c/\S a b c/\T a b c/\U a b c/\V a b c:=λa b c g h i j k l m=>⟨a,b,c,g,h,i,j,k,l,m⟩
end
section
variable{A B C D:Type}{P Q R S T U V W:A->B->C->D->Prop}{G:Prop}
def sE(h:∃a b c d,P a b c d)(q:∀a b c d,P a b c d->G):G:=h.elim λa h=>jG h (q a)
def zZ(h:∃a b c d,P a b c d/\Q a b c d)(q:∀a b c d,P a b c d->Q a b c d->G):G:=h.elim λa h=>pK h (q a)
def z0(h:∃a b c d,P a b c d/\Q a b c d/\R a b c d)(q:∀a b c d,P a b c d->Q a b c d->R a b c d->G):G:=h.elim λa h=>nK h (q a)
def z3(h:∃a b c d,P a b c d/\Q a b c d/\R a b c d/\S a b c d)(q:∀a b c d,P a b c d->Q a b c d->R a b c d->S a b c d->G):G:=h.elim λa h=>sD h (q a)
def EW(h:∃a b c d,P a b c d/\Q a b c d/\R a b c d/\S a b c d/\T a b c d)(q:∀a b c d,P a b c d->Q a b c d->R a b c d->S a b c d->T a b c d->G):G:=h.elim λa h=>MH h (q a)
def MK(h:∃a b c d,P a b c d/\Q a b c d/\R a b c d/\S a b c d/\T a b c d/\U a b c d)(q:∀a b c d,P a b c d->Q a b c d->R a b c d->S a b c d->T a b c d->U a b c d->G):G:=h.elim λa h=>ER h (q a)
def ML(h:∃a b c d,P a b c d/\Q a b c d/\R a b c d/\S a b c d/\T a b c d/\U a b c d/\V a b c d/\W a b c d)(q:∀a b c d,P a b c d->Q a b c d->R a b c d->S a b c d->T a b c d->U a b c d->V a b c d->W a b c d->G):G:=h.elim λa h=>MI h (q a)
def EX:∀a b c d,P a b c d->∃a b c d,P a b c d:=λa b c d g=>⟨a,b,c,d,g⟩
def z4:∀a b c d,P a b c d->Q a b c d->∃a b c d,P a b c d/\Q a b c d:=λa b c d g h=>⟨a,b,c,d,g,h⟩
def oM:∀a b c d,P a b c d->Q a b c d->R a b c d->∃a b c d,P a b c d/\Q a b c d/\R a b c d:=λa b c d g h i=>⟨a,b,c,d,g,h,i⟩
def EY:∀a b c d,P a b c d->Q a b c d->R a b c d->S a b c d->∃a b c d,P a b c d/\Q a b c d/\R a b c d/\S a b c d:=λa b c d g h i j=>⟨a,b,c,d,g,h,i,j⟩
def MM:∀a b c d,P a b c d->Q a b c d->R a b c d->S a b c d->T a b c d->∃a b c d,P a b c d/\Q a b c d/\R a b c d/\S a b c d/\T a b c d:=λa b c d g h i j k=>⟨a,b,c,d,g,h,i,j,k⟩
def MN:∀a b c d,P a b c d->Q a b c d->R a b c d->S a b c d->T a b c d->U a b c d->V a b c d->W a b c d->∃a b c d,P a b c d/\Q a b c d/\R a b c d/\S a b c d/\T a b c d/\U a b c d/\V a b c d/\W a b c d:=λa b c d g h i j k l m n=>⟨a,b,c,d,g,h,i,j,k,l,m,n⟩
end
section
variable{A B C D E:Type}{P Q R S T U V W:A->B->C->D->E->Prop}{G:Prop}
def MO(h:∃a b c d e,P a b c d e/\Q a b c d e/\R a b c d e/\S a b c d e/\T a b c d e/\U a b c d e)(q:∀a b c d e,P a b c d e->Q a b c d e->R a b c d e->S a b c d e->T a b c d e->U a b c d e->G):G:=h.elim λa h=>MK h (q a)
def EZ(h:∃a b c d e,P a b c d e/\Q a b c d e/\R a b c d e/\S a b c d e/\T a b c d e/\U a b c d e/\V a b c d e/\W a b c d e)(q:∀a b c d e,P a b c d e->Q a b c d e->R a b c d e->S a b c d e->T a b c d e->U a b c d e->V a b c d e->W a b c d e->G):G:=h.elim λa h=>ML h (q a)
def E0:∀a b c d e,P a b c d e->Q a b c d e->R a b c d e->S a b c d e->T a b c d e->U a b c d e->∃a b c d e,P a b c d e/\Q a b c d e/\R a b c d e/\S a b c d e/\T a b c d e/\U a b c d e:=λa b c d e g h i j k l=>⟨a,b,c,d,e,g,h,i,j,k,l⟩
def MP:∀a b c d e,P a b c d e->Q a b c d e->R a b c d e->S a b c d e->T a b c d e->U a b c d e->V a b c d e->W a b c d e->∃a b c d e,P a b c d e/\Q a b c d e/\R a b c d e/\S a b c d e/\T a b c d e/\U a b c d e/\V a b c d e/\W a b c d e:=λa b c d e g h i j k l m n=>⟨a,b,c,d,e,g,h,i,j,k,l,m,n⟩
end
section
variable{A B C D E F:Type}{P Q R S T U:A->B->C->D->E->F->Prop}{G:Prop}
def MQ:∀a b c d e f,P a b c d e f->Q a b c d e f->R a b c d e f->S a b c d e f->T a b c d e f->U a b c d e f->∃a b c d e f,P a b c d e f/\Q a b c d e f/\R a b c d e f/\S a b c d e f/\T a b c d e f/\U a b c d e f:=λa b c d e f g h i j k l=>⟨a,b,c,d,e,f,g,h,i,j,k,l⟩
end
def aa8{P:Prop}(h:∀G:Prop,(P->G)->G):P:=h P id
def MR{α β:Type}{a c:α}{b d:β}{G:Prop}(e:some (a,b)=some (c,d))(f:a=c->b=d->G):G:=by injection e with e;injection e with e1 e2;show f e1 e2
def MS{α:Type}{a c:α}{G:Prop}(e:some a=some c)(f:a=c->G):G:=f (Option.some.inj e)
def MT{α β:Type}{a c:α}{b d:β}{G:Prop}(e:(a,b)=(c,d))(f:a=c->b=d->G):G:=by injection e with e1 e2;show f e1 e2
def MU{α:Type}{a:α}{G:Prop}(_:a=a)(g:G):G:=g
def fD{α:Type}{a:α}{G:Prop}(h:none=some a):G:=nomatch h
def mN{G:Prop}(h:false=true):G:=Bool.noConfusion h
end Mine
open Lean in
local macro_rules |`(tactic|symm)=>`(tactic|refine Mine.aa8 fun _ $(mkIdent `bk)=>?_)|`(tactic|left)=>`(tactic|refine $(mkIdent `bk) ?_)
local macro_rules |`(tactic|cases$e:ident)=>`(tactic|first|contradiction|subst$e|(show Mine.MR $e λh1 h2=>?_;clear $e;cases h1;cases h2)|(show Mine.MS $e λh1=>?_;clear $e;cases h1)|(show Mine.MT $e λh1 h2=>?_;clear $e;cases h1;cases h2)|(show Mine.MU $e ?_;clear $e)|cases($e))
open Lean in
local macro_rules |`(tactic|simp! only[$xs,*])=>do`(tactic|simp(decide:=true) only[$((<-("↓bp ↓bw ↓bf ↓bindL abm abn ↓reduceIte ↓fY Option.map_some Option.map_none Option.bind_some Option.bind_none ↓IF ↓vY ↓any_cons ↓any_nil ↓all_cons ↓all_nil ↓aQ ↓yv ↓qk ↓abL ↓fZ bM ↓mA ↓abk abN abO abP abQ cmp_gt abR abS TB if_true if_false ↓vX ↓eN ↓ifT ↓SO ↓ib ↓c6 ↓av ↓kZ abq abr abt Tt abu abv CD Tu abw abx Tv aby abz abA abB abC abD abE abF abG abH abI abJ abK ↓bH ↓Cw ↓iy ↓j9 ↓lO ↓cK ↓aE ↓j0 ↓cU ↓abo ↓mB ↓abp ↓eC ↓dA ↓Cj ↓Ck ↓bl ↓ix ↓yq ↓gu iV TG List.append_nil List.nil_append List.cons_append Bool.false_eq_true decide_true decide_false Bool.not_true Bool.not_false Bool.and_true Bool.true_and Bool.and_false Bool.false_and Bool.or_true Bool.true_or Bool.or_false Bool.false_or and_self true_and and_true ne_eq not_false_eq_true not_true_eq_false".splitOn " ").toArray.mapM λs=>if s.startsWith "↓" then`(Lean.Parser.Tactic.simpLemma|↓$(Lean.mkIdent (s.drop 1).toString.toName):ident)else`(Lean.Parser.Tactic.simpLemma| $(Lean.mkIdent s.toName):ident))),*,$xs,*])
open Lean in
local macro_rules |`($n:name)=>match n.getName with|`D=>`(by decide)|`A=>`(by assumption)|`S=>`(by simp)|`L=>`(by lia)|x=>`(PySem.Str.ofString $(Syntax.mkStrLit (x.toString (escape:=false))))
namespace Mine
open PySem PySem.Spec PySem.Calls PyProof.Rows
abbrev ax:= @wpAny_bind
abbrev aW:= @wpAny_pure
abbrev bg:= @wpAny_mono
abbrev eM:= @wpAny_holding
abbrev bq:= @List.length_map
abbrev eH:= @List.getElem?_eq_getElem
abbrev dT:= @Heap.get?_push_size
abbrev a9:= @Nat.le_trans
abbrev az:= @if_pos
abbrev aN:= @if_neg
abbrev aJ:= @congrArg
abbrev dh:= @Prod.mk.inj
abbrev gZ:= @List.mem_of_getElem?
abbrev il:= @List.getElem?_append_left
abbrev iT:= @List.getElem?_append_right
abbrev di:= @List.lookup_cons
abbrev gM:= @Nat.lt_of_le_of_lt
abbrev g0:= @Bool.false_ne_true
def cQ{α:Type}{l:List α}{i:Nat}{a:α}(h:l[i]? =some a):∃h:i<l.length,l[i]=a:=List.getElem?_eq_some_iff.mp h
def cj{α:Type}{a b:α}{l:List α}(h:a∈b::l):a=b\/a∈l:=List.mem_cons.mp h
def eo{α β:Type}{o:Option α}{f:α->β}{b:β}(h:o.map f=some b):∃a,o=some a/\f a=b:=Option.map_eq_some_iff.mp h
def cG{α β:Type}{b:β}{f:α->β}{l:List α}(h:b∈l.map f):∃a,a∈l/\f a=b:=List.mem_map.mp h
def fb{a b:Bool}(h:(a&&b)=true):a=true/\b=true:=Bool.and_eq_true_iff.mp h
def fW{α:Type}{a b:α}(h:a∈[b]):a=b:=List.mem_singleton.mp h
def gm{α:Type} [BEq α] [LawfulBEq α]{a b:α}(h:a≠b):(a==b)=false:=beq_eq_false_iff_ne.mpr h
def dN{α:Type} [BEq α] [LawfulBEq α]{a b:α}(h:(a==b)=true):a=b:=beq_iff_eq.mp h
def gN{α:Type}{a:α}{l r:List α}(h:a∈l++r):a∈l\/a∈r:=List.mem_append.mp h
def jH{α β:Type}{o:Option α}{f:α->Option β}{b:β}(h:o.bind f=some b):∃a,o=some a/\f a=some b:=Option.bind_eq_some_iff.mp h
def bN{α:Type}{a b:α}(h:some a=some b):a=b:=Option.some.inj h
set_option genSizeOf false in
inductive V where
 |none|bool (b:Bool)|int (i:Int)|str (x:Str)
 |con (c:Value)
 |tup (l:List V)|lst (l:List V)
 |dU (a b c:Int)
 |dO (f:Value) (s:V)
 |fK (l:List V)
 |ref (i:Nat)
set_option genSizeOf false in
inductive bx where
 |list (l:List V)
 |dict (l:List (Str×V))
 |inst (c:Addr) (d:Nat)
 |attrs (l:List (Str×V))
 |cA (l:List V) (k:Nat)
 |iq (f:V) (x:Str) (live:Bool)
 |cell (v:V)
 |tab
noncomputable abbrev PG:Program:=PySem.Challenge.pw_uc0060_01
noncomputable abbrev Mo(w:World):Model:=model PG w
noncomputable abbrev Hp:=List bx
def z5{β:Type}{o:Option bx}{f:List V->Option β}{r:β}(h:(match o with|some (.list l)=>f l|_=>none)=some r):∃l,o=some (.list l)/\f l=some r:=by
 induction o with
 |none=>show fD h
 |some o=>induction o<;>first|show fD h|show⟨_,rfl,h⟩
def MV{β:Type}{o:Option bx}{f:List (Str×V)->Option β}{r:β}(h:(match o with|some (.dict l)=>f l|_=>none)=some r):∃l,o=some (.dict l)/\f l=some r:=by
 induction o with
 |none=>show fD h
 |some o=>induction o<;>first|show fD h|show⟨_,rfl,h⟩
def E1{K:W.Frag}{g:Addr}(h:W.fnIn K g=true):∃c d fd s,K.lookup g=some ⟨c,d,.func fd,s⟩:=by
 delta W.fnIn at h;generalize K.lookup g=o at h|-;induction o with
 |none=>show absurd h g0
 |some o=>
  obtain⟨c,d,t,s⟩:=o;cases t<;>first|show absurd h g0|show⟨c,d,_,s,rfl⟩
abbrev M(α:Type):=Hp->Option (α×Hp)
abbrev au{α}:M α:=λ_=>none
namespace M
abbrev pure{α}(a:α):M α:=λO=>some (a,O)
abbrev bind{α β}(m:M α)(f:α->M β):M β:=λO=>(m O).bind λp=>f p.1 p.2
end M
noncomputable instance:Monad M where
 pure:=M.pure
 bind:=M.bind
def cy{α β:Type}{m:M α}{f:α->M β}{O:Hp}{r:β×Hp}(h:(m>>=f) O=some r):∃a ag,m O=some (a,ag)/\f a ag=some r:=by
 symm
 show aj (jH (h)) λp h1 h2=>?_;left;show c8 p.1 p.2 h1 h2
def fh{α:Type}{a:α}{O:Hp}{r:α×Hp}(h:(pure a:M α) O=some r):r=(a,O):=(bN h).symm
def fi{α:Type}{c:Prop} [Decidable c]{o:Option α}{r:α}(e:(if c then o else none)=some r):c/\o=some r:=by
 by_cases h:c
 ·rw[az h]at e;show⟨h,e⟩
 ·rw[aN h]at e;cases e
def xh{α:Type}{a b:α}{O aa:Hp}(h:(pure a:M α) O=some (b,aa)):a=b/\O=aa:=dh (bN h)
def jI{α:Type}{O:Hp}{r:α×Hp}{P:Prop}(h:(au:M α) O=some r):P:=by cases h
set_option genSizeOf false in
structure Ph where
 m:List Addr
 x:List Addr
abbrev Ph.Out(φ:Ph)(a:Addr):Prop:=a∉φ.m/\a∉φ.x
abbrev Ph.grow(φ:Ph)(ψ:List Addr):Ph:=⟨φ.m++ψ,φ.x⟩
def Ph.um(φ:Ph):φ.grow []=φ:=by cases φ;simp[Ph.grow]
def Ph.MW(φ:Ph)(a b:List Addr):(φ.grow a).grow b=φ.grow (a++b):=by simp[Ph.grow]
abbrev ma(o:Obj):Prop:=match o.data with
 | .seq .. | .fields .. | .func .. | .cell .. =>True
 |_=>False
abbrev z6(f self:Value):Obj:={cls:= .type "method",data:= .fields #[f,self]}
abbrev sF:Option (Arguments×List Stmt×Scope):=match(PG.main.body[21]? :Option Stmt)with
 |some (.FunctionDef _ _ body _ _ _ _ _ _ _)=>match(body[2]? :Option Stmt)with
  |some (.FunctionDef _ args b _ _ _ sc _ _ _)=>some (args,b,sc)
  |_=>none
 |_=>none
abbrev oN:List Str:=["text","place"]
structure MX(fd:FuncData)(c:Addr):Prop where
 parts:∃args b sc,sF=some (args,b,sc)/\fd.params=args/\fd.body= .stmts b/\fd.scope=sc
 glob:fd.globals=mainGlobals
 nL:fd.builtins=builtinsNs
 defs:fd.defaults= .none
 code:fd.code= .ref c
 names:fd.closure.map (·.1)=oN
 apart:(fd.closure.map (·.2)).Nodup
structure MY(h:Heap)(φ:Ph)(a:Addr)(cs:List Value)(o:Obj)(fd:FuncData)(c:Addr)(oc:Obj):Prop where
 get:h.get? a=some o
 cls:o.cls= .type "function"
 data:o.data= .func fd
 read:MX fd c
 cout:φ.Out c
 E2:h.get? c=some oc
 cdata:∃vs tq,oc.data= .fields vs/\vs[1]? =some (.str fd.qualname tq)
 len:fd.closure.length=cs.length
 cells:∀(i:Nat) (p:Str×Addr) (v:Value),fd.closure[i]? =some p->cs[i]? =some v->φ.Out p.2/\∃ob,h.get? p.2=some ob/\ob.data= .cell (some v)
mutual
abbrev ao(h:Heap)(φ:Ph):V->Value->Prop
 | .none,c=>c= .none
 | .bool b,c=>c= .bool b
 | .int i,c=>∃t,c= .int i t
 | .str x,c=>∃t,c= .str x t
 | .con d,c=>c=d
 | .tup l,c=>∃a cs,c= .ref a/\φ.Out a/\IsTup h a cs.toArray/\aD h φ l cs
 | .lst l,c=>∃a cs,c= .ref a/\φ.Out a/\h.IsList a cs.toArray/\aD h φ l cs
 | .dU x y z,c=>∃r t u v,c= .ref r/\φ.Out r/\IsRange h r x y z t u v
 | .dO f s,c=>∃a d,c= .ref a/\φ.Out a/\h.get? a=some (z6 f d)/\ao h φ s d
 | .fK l,c=>∃a cs,c= .ref a/\φ.Out a/\(∃o fd k oc,MY h φ a cs o fd k oc)/\aD h φ l cs
 | .ref i,c=>∃a,c= .ref a/\φ.m[i]? =some a
abbrev aD(h:Heap)(φ:Ph):List V->List Value->Prop
 |[],cs=>cs=[]
 |v::l,cs=>∃c r,cs=c::r/\ao h φ v c/\aD h φ l r
end
abbrev fj(h:Heap)(ψ:List Addr):Prop:=∀a∈ψ,h.get? a=none
abbrev iH(φ aB:Ph)(h h':Heap):Prop:=∀a o,h.get? a=some o->φ.Out a->ma o->h'.get? a=some o/\aB.Out a
def uo{h:Heap}{φ:Ph}{ψ:List Addr}{a:Addr}{o:Obj}(hn:fj h ψ)(e:h.get? a=some o)(ha:φ.Out a):(φ.grow ψ).Out a:=
 ⟨λq=>(gN q).elim ha.1 λq=>(by rw[hn a q]at e;cases e),ha.2⟩
section
variable{h h':Heap}{φ aB:Ph}{ψ:List Addr}
def pM{i:Nat}{a:Addr}{l l':List Addr}(e:l[i]? =some a):(l++l')[i]? =some a:=by
 obtain⟨hl,rfl⟩:=cQ e;show(il hl)▸(e)
mutual
def ao.mono(hs:iH φ aB h h')(hn:∀(i:Nat) (a:Addr),φ.m[i]? =some a->aB.m[i]? =some a):∀(v:V) (c:Value),ao h φ v c->ao h' aB v c
 | .none,_,r=>r
 | .bool _,_,r=>r
 | .int _,_,r=>r
 | .str _,_,r=>r
 | .con _,_,r=>r
 | .tup l,c,r=>by
  obtain⟨a,cs,rfl,ha,⟨o,ho,hc,n,hd⟩,hr⟩:=r;obtain⟨k1,k2⟩:=hs a o ho ha (by simp only[ma,hd]);show fC a cs rfl k2 ⟨o,k1,hc,n,hd⟩ (aD.mono hs hn l cs hr)
 | .lst l,c,r=>by
  obtain⟨a,cs,rfl,ha,⟨o,ho,hc,n,hd⟩,hr⟩:=r;obtain⟨k1,k2⟩:=hs a o ho ha (by simp only[ma,hd]);show fC a cs rfl k2 ⟨o,k1,hc,n,hd⟩ (aD.mono hs hn l cs hr)
 | .dU ..,c,r=>by
  obtain⟨a,t,u,v,rfl,ha,ho⟩:=r;obtain⟨k1,k2⟩:=hs a _ ho ha trivial;show oM a t u v rfl k2 k1
 | .dO f s,c,r=>by
  obtain⟨a,d,rfl,ha,ho,hr⟩:=r;obtain⟨k1,k2⟩:=hs a _ ho ha trivial;show fC a d rfl k2 k1 (ao.mono hs hn s d hr)
 | .fK l,c,r=>by
  obtain⟨a,cs,rfl,ha,⟨o,fd,k,oc,q⟩,hq⟩:=r;obtain⟨k1,k2⟩:=hs a o q.get ha (by simp only[ma,q.data]);obtain⟨vs,tq,q1,q2⟩:=q.cdata;obtain⟨k3,k4⟩:=hs k oc q.E2 q.cout (by simp only[ma,q1]);show fC a cs rfl k2 ⟨o,fd,k,oc,k1,q.cls,q.data,q.read,k4,k3,q.cdata,q.len,λi p v e1 e2=>?_⟩ (aD.mono hs hn l cs hq);obtain⟨h1,ob,h2,h3⟩:=q.cells i p v e1 e2;obtain⟨k5,k6⟩:=hs p.2 ob h2 h1 (by simp only[ma,h3]);show⟨k6,ob,k5,h3⟩
 | .ref i,c,r=>by
  obtain⟨a,rfl,e⟩:=r;show aA a rfl (hn _ _ e)
def aD.mono(hs:iH φ aB h h')(hn:∀(i:Nat) (a:Addr),φ.m[i]? =some a->aB.m[i]? =some a):∀(l:List V) (cs:List Value),aD h φ l cs->aD h' aB l cs
 |[],_,r=>r
 |v::l,cs,r=>by
  obtain⟨c,q,rfl,h1,h2⟩:=r;show cF c q rfl (ao.mono hs hn v c h1) (aD.mono hs hn l q h2)
end
end
abbrev MZ(h:Heap)(φ:Ph)(a:Addr)(l:List (Str×V)):Prop:=∃es n,h.get? a=some (W.dictOf es n)/\(es.length<=l.length/\∀e∈es,∃x t,e.key= .str x t)/\
 ∀x,match l.lookup x with
  |some v=>∃c,(es.find? (·.key.isStr x)).map (·.val)=some c/\ao h φ v c
  |none=>es.find? (·.key.isStr x)=none
abbrev nM(w:World)(h:Heap)(φ:Ph):bx->Addr->Prop
 | .list l,a=>∃cs,h.PlainList a cs.toArray/\aD h φ l cs
 | .dict l,a=>∃aC:List (Str×Value),h.DictOf (PySem.strKind PG w) a aC/\aC.length<=l.length/\∀x,match l.lookup x with
  |some v=>∃c,valueAt aC x=some c/\ao h φ v c
  |none=>valueAt aC x=none
 | .inst c d,a=>∃dx,φ.m[d]? =some dx/\h.get? a=some (W.instObj c dx)
 | .attrs l,a=>MZ h φ a l
 | .cA l k,a=>∃b cs,h.IsListIter a b k/\φ.Out b/\h.IsList b cs.toArray/\aD h φ l cs
 | .iq f x live,a=>∃(c:Value) (t:Tok),h.get? a=some {cls:= .type "callable_iterator",data:= .fields (if live=true then #[c,.str x t,.bool false]else #[.none,.none,.bool true])}/\(live=true->ao h φ f c)
 | .cell _,a=>∃vs,h.get? a=some {cls:= .none,data:= .fields vs}
 | .tab,a=>h.get? a=some {cls:= .none,data:= .fields #[]}
abbrev uq:bx->Bool
 | .tab=>true
 | .cell _=>true
 |_=>false
def zk{P:Prop}{ob:bx}(h:uq ob=false):uq ob=true->P:=λq=>by rw[h]at q;cases q
structure aX(w:World)(φ:Ph)(O:Hp)(h:Heap):Prop where
 len:φ.m.length=O.length
 nodup:φ.m.Nodup
 live:∀a∈φ.m,∃o,h.get? a=some o
 iU:∀a∈φ.x,∃o,h.get? a=some o
 apart:∀a∈φ.m,a∉φ.x
 objs:∀(i:Nat) (a:Addr) (ob:bx),φ.m[i]? =some a->O[i]? =some ob->nM w h φ ob a
 zero:∃ob,O[0]? =some ob/\uq ob=true
structure a0(Y:List Addr)(φ:Ph)(s:Shared)(aB:Ph)(s':Shared):Prop where
 grow:∃ψ,aB=φ.grow ψ/\fj s.heap ψ
 keep:∀a o,s.heap.get? a=some o->a∉φ.m->a∉Y->s'.heap.get? a=some o
 old:∀a o,s.heap.get? a=some o->∃o',s'.heap.get? a=some o'
 gens:s'.gens=s.gens
 os:s'.os=s.os
noncomputable abbrev Step(φ:Ph)(s:Shared)(aB:Ph)(s':Shared):Prop:=a0 [] φ s aB s'
def a0.refl(Y:List Addr)(φ:Ph)(s:Shared):a0 Y φ s φ s:=⟨⟨[],φ.um.symm,λ_ h=>(nomatch h)⟩,λ_ _ e _ _=>e,λ_ o e=>⟨o,e⟩,rfl,rfl⟩
def Step.refl(φ:Ph)(s:Shared):Step φ s φ s:=a0.refl ..
def a0.trans{Y:List Addr}{φ ba cB:Ph}{s aw a8:Shared}(x:a0 Y φ s ba aw)(y:a0 Y ba aw cB a8):a0 Y φ s cB a8:=by
 show aj (x.grow) λψ aF hn=>?_;subst aF;show aj (y.grow) λM0 aF qC=>?_;subst aF;show⟨(aA (ψ++M0) (φ.MW ..) (λa ha=>?_)),λa o e ha hy=>?_,λa o e=>?_,y.gens.trans x.gens,y.os.trans x.os⟩
 ·rcases gN ha with q|q
  ·show hn a q
  ·cases e:s.heap.get? a with
   |none=>rfl
   |some o=>obtain⟨o',e'⟩:=x.old a o e;rw[qC a q]at e';cases e'
 ·show y.keep a o (x.keep a o e ha hy) (λq=>?_) hy
  rcases gN q with q|q
  ·show ha q
  ·rw[hn a q]at e;cases e
 ·obtain⟨o',e'⟩:=x.old a o e
  show y.old a o' e'
def Step.trans{φ ba cB:Ph}{s aw a8:Shared}(x:Step φ s ba aw)(y:Step ba aw cB a8):Step φ s cB a8:=a0.trans x y
def a0.more{Y Y':List Addr}{φ aB:Ph}{s s':Shared}(x:a0 Y φ s aB s')(h:∀a∈Y,a∈Y'):a0 Y' φ s aB s':=
 ⟨x.grow,λa o e h1 h2=>x.keep a o e h1 λq=>h2 (h a q),x.old,x.gens,x.os⟩
def a0.less{Y Z:List Addr}{φ aB:Ph}{s s':Shared}(x:a0 (Z++Y) φ s aB s')(h:fj s.heap Z):a0 Y φ s aB s':=
 ⟨x.grow,λa o e h1 h2=>x.keep a o e h1 λq=>by
  rcases gN q with q|q
  ·rw[h a q]at e;cases e
  ·show h2 q,x.old,x.gens,x.os⟩
def a0.gA{Y:List Addr}{φ aB:Ph}{s s':Shared}(x:a0 Y φ s aB s')(hY:∀a∈Y,a∈φ.x):iH φ aB s.heap s'.heap:=λa o e ha _=>by
 show aj (x.grow) λψ aF hn=>?_;subst aF;show⟨x.keep a o e ha.1 λq=>ha.2 (hY a q),uo hn e ha⟩
def a0.get{Y:List Addr}{φ aB:Ph}{s s':Shared}(x:a0 Y φ s aB s'):∀(i:Nat) (a:Addr),φ.m[i]? =some a->aB.m[i]? =some a:=λi a e=>by
 show aj (x.grow) λψ aF _=>?_;subst aF;show pM e
def ao.fL{Y:List Addr}{φ aB:Ph}{s s':Shared}{v:V}{c:Value}(r:ao s.heap φ v c)(x:a0 Y φ s aB s')(hY:∀a∈Y,a∈φ.x):ao s'.heap aB v c:=ao.mono (x.gA hY) x.get v c r
def aD.fL{Y:List Addr}{φ aB:Ph}{s s':Shared}{v:List V}{c:List Value}(r:aD s.heap φ v c)(x:a0 Y φ s aB s')(hY:∀a∈Y,a∈φ.x):aD s'.heap aB v c:=aD.mono (x.gA hY) x.get v c r
def ao.step{φ aB:Ph}{s s':Shared}{v:V}{c:Value}(r:ao s.heap φ v c)(x:Step φ s aB s'):ao s'.heap aB v c:=r.fL x λ_ h=>(nomatch h)
def aD.step{φ aB:Ph}{s s':Shared}{v:List V}{c:List Value}(r:aD s.heap φ v c)(x:Step φ s aB s'):aD s'.heap aB v c:=r.fL x λ_ h=>(nomatch h)
def ur{h h':Heap}{φ:Ph}{Z:List Addr}(hZ:fj h Z)(k:∀a o,h.get? a=some o->h'.get? a=some o):iH φ ⟨φ.m,Z++φ.x⟩ h h':=λa o e ha _=>
 (cW (k a o e) ha.1 (λq=>by
  rcases gN q with q|q
  ·rw[hZ a q]at e;cases e
  ·show ha.2 q))
abbrev mO(v:Value):Option Addr:=if h:v.ctorIdx=10 then some (Value.ref.elim (motive:=λ_=>Addr) v h id)else none
def uu{v:Value}{a:Addr}(h:mO v=some a):v= .ref a:=by
 induction v<;>first|show fD (h)|show aJ Value.ref (bN h)
abbrev qD(x:String)(v:Value):Bool:=if h:v.ctorIdx=8 then Value.type.elim (motive:=λ_=>Bool) v h λy=>decide (y=x)else false
def sG{x:String}{v:Value}(h:qD x v=true):v= .type x:=by
 induction v<;>first|show mN (h)|show aJ Value.type (of_decide_eq_true h)
abbrev E3(d:Data):Option FuncData:=if h:d.ctorIdx=7 then some (Data.func.elim (motive:=λ_=>FuncData) d h id)else none
def M1{d:Data}{a:FuncData}(h:E3 d=some a):d= .func a:=by
 induction d<;>first|show fD (h)|show aJ Data.func (bN h)
abbrev uv(d:Data):Option (Array Value):=if h:d.ctorIdx=9 then some (Data.fields.elim (motive:=λ_=>Array Value) d h id)else none
def E4{d:Data}{a:Array Value}(h:uv d=some a):d= .fields a:=by
 induction d<;>first|show fD (h)|show aJ Data.fields (bN h)
abbrev z7(d:Data):Option (Array Value×Nat):=if h:d.ctorIdx=2 then some (Data.seq.elim (motive:=λ_=>Array Value×Nat) d h Prod.mk)else none
def E5{d:Data}{a:Array Value×Nat}(h:z7 d=some a):d= .seq a.1 a.2:=by
 induction d<;>first|show fD (h)|show aJ (λa=>Data.seq a.1 a.2) (bN h)
abbrev E6(d:Data):Option (Array DictEntry×Nat):=if h:d.ctorIdx=3 then some (Data.dict.elim (motive:=λ_=>Array DictEntry×Nat) d h Prod.mk)else none
def M3{d:Data}{a:Array DictEntry×Nat}(h:E6 d=some a):d= .dict a.1 a.2:=by
 induction d<;>first|show fD (h)|show aJ (λa=>Data.dict a.1 a.2) (bN h)
abbrev E7(d:Data):Option (Array (Int×Value)×Nat×SetTable):=if h:d.ctorIdx=4 then some (Data.set.elim (motive:=λ_=>Array (Int×Value)×Nat×SetTable) d h λa b c=>(a,b,c))else none
def M4{d:Data}{a:Array (Int×Value)×Nat×SetTable}(h:E7 d=some a):d= .set a.1 a.2.1 a.2.2:=by
 induction d<;>first|show fD (h)|show aJ (λa=>Data.set a.1 a.2.1 a.2.2) (bN h)
def sH{o:Obj}{c:Value}{d:Data}(h1:o.cls=c)(h2:o.data=d):o=⟨c,o.dict,d,o.slots⟩:=h1▸h2▸rfl
def dj{α β:Type}{o:Option α}{f:α->Option β}{b:β}(h:o.bind f=some b):∃a,o=some a/\f a=some b:=jH h
def ob{α β:Type}{o:Option α}{f:α->Option β}{a:α}{r:Option β}(h:o=some a)(h2:f a=r):o.bind f=r:=(aJ (λo=>Option.bind o f) h).trans h2
def nN{α:Type}{p:Prop} [Decidable p]{o:Option α}{b:α}(h:(if p then o else none)=some b):p/\o=some b:=by
 by_cases q:p
 ·rw[az q]at h;show⟨q,h⟩
 ·rw[aN q]at h;show fD h
abbrev fM(K:W.Frag)(g:Addr):Option FuncData:=(K.lookup g).bind λo=>if qD "function" o.cls=true then E3 o.data else none
abbrev iI(K:W.Frag):Option Addr:=(W.nsIn K mainGlobals "_law_lexer").bind λo=>o.bind mO
abbrev tabIn(K:W.Frag)(v:Value):Option Addr:=(mO v).bind λc=>(K.lookup c).bind λo=>(uv o.data).bind λvs=>mO (vs.getD 11 .none)
abbrev qE(K:W.Frag):Option Addr:=(iI K).bind λg=>(fM K g).bind λfd=>tabIn K fd.code
structure cO(K:W.Frag)(φ:Ph)(h:Heap):Prop where
 k:K.In h
 off:∀a o,K.lookup a=some o->φ.Out a
 glob:∃mg,h.Ns mainGlobals mg
 lim:h.NoLimit
 z8:φ.Out cStatics
 nL:∃mb,h.Ns builtinsNs mb/\∀x:Str,x≠"__name__"->mb x=bootBuiltins x
 z9:φ.Out builtinsNs
 xi:φ.Out mainGlobals
 Aa:φ.Out sysModules/\∃o,h.get? sysModules=some o
 tab:φ.m[0]? =qE K/\φ.m≠[]
noncomputable abbrev ab:=List (Str×V)
structure gB(φ:Ph)(env:Env)(J:ab)(h:Heap):Prop where
 kind:env.scope.kind= .function
 glob:env.globals=mainGlobals
 nL:env.builtins=builtinsNs
 loc:env.locals∉φ.m
 ns:∃m,h.Ns env.locals m/\∀x v,J.lookup x=some v->env.kindOf x=some .local->∃c,m x=some c/\ao h φ v c
 cells:∀x v,J.lookup x=some v->(env.kindOf x=some .cell\/env.kindOf x=some .free)->∃a c,env.cells.lookup x=some a/\h.IsCell a (some c)/\ao h φ v c
 has:∀x,(env.kindOf x=some .cell\/env.kindOf x=some .free)->∃a,env.cells.lookup x=some a
 all:∀x a,env.cells.lookup x=some a->a∉φ.m/\∃v,h.IsCell a v
 inj:∀x y a,env.cells.lookup x=some a->env.cells.lookup y=some a->x=y
def Ns.kept{Y:List Addr}{φ:Ph}{h h':Heap}{a:Addr}{m}(n:h.Ns a m)(k:∀b o,h.get? b=some o->b∉φ.m->b∉Y->h'.get? b=some o)(ha:a∉φ.m)(hy:a∉Y):h'.Ns a m:=
 let⟨o,es,ep,e,r⟩:=n;⟨o,es,ep,k _ _ e ha hy,r⟩
def M5{φ:Ph}{ψ:List Addr}{t:Option Addr}(h:φ.m[0]? =t/\φ.m≠[]):(φ.grow ψ).m[0]? =t/\(φ.grow ψ).m≠[]:=by
 show aI h λh1 h2=>?_;cases hm:φ.m with
 |nil=>show absurd hm h2
 |cons a l=>rw[hm]at h1;show⟨by simp only[Ph.grow,hm];show h1,by simp only[Ph.grow,hm];show List.cons_ne_nil _ _⟩
def cO.fL{K:W.Frag}{Y:List Addr}{φ aB:Ph}{s s':Shared}(b:cO K φ s.heap)(x:a0 Y φ s aB s')(hY:∀a∈Y,a∈φ.x):cO K aB s'.heap:=by
 show aj x.grow λψ aF hn=>?_;subst aF;have off:∀a o,s.heap.get? a=some o->φ.Out a->(φ.grow ψ).Out a:=λa o e ha=>uo hn e ha;have ny:∀a,φ.Out a->a∉Y:=λa ha q=>ha.2 (hY a q);show aU b.glob λmg hg=>?_;show aj b.lim λmc hc hl=>?_;show aj b.nL λmb hb uw=>?_;show⟨λa o e=>x.keep a o (b.k a o e) (b.off a o e).1 (ny a (b.off a o e)),λa o e=>off a o (b.k a o e) (b.off a o e),⟨mg,Ns.kept hg x.keep b.xi.1 (ny _ b.xi)⟩,
  (aA mc (Ns.kept hc x.keep b.z8.1 (ny _ b.z8)) hl),(let⟨o,_,_,e,_⟩:=hc;off _ o e b.z8),(aA mb (Ns.kept hb x.keep b.z9.1 (ny _ b.z9)) uw),(let⟨o,_,_,e,_⟩:=hb;off _ o e b.z9),(let⟨o,_,_,e,_⟩:=hg;off _ o e b.xi),(let⟨h1,o,e⟩:=b.Aa;⟨off _ o e h1,o,x.keep _ o e h1.1 (ny _ h1)⟩),M5 b.tab⟩
def cO.step{K:W.Frag}{φ aB:Ph}{s s':Shared}(b:cO K φ s.heap)(x:Step φ s aB s'):cO K aB s'.heap:=b.fL x λ_ h=>(nomatch h)
def gB.fL{Y:List Addr}{φ aB:Ph}{env:Env}{J:ab}{s s':Shared}(f:gB φ env J s.heap)(x:a0 Y φ s aB s')(hY:∀a∈Y,a∈φ.x)(h1:env.locals∉Y)(h2:∀n a,env.cells.lookup n=some a->a∉Y):gB aB env J s'.heap:=by
 show aj x.grow λψ aF hn=>?_;subst aF;show aj f.ns λm hm hr=>?_;have out:∀a o,s.heap.get? a=some o->a∉φ.m->a∉(φ.grow ψ).m:=λa o e ha q=>(gN q).elim ha λq=>by rw[hn a q]at e;cases e
 show⟨f.kind,f.glob,f.nL,(let⟨o,_,_,e,_⟩:=hm;out _ o e f.loc),(aA m (Ns.kept hm x.keep f.loc h1) (λy v e k=>?_)),λy v e k=>?_,f.has,λy a e=>?_,f.inj⟩
 ·show aj (hr y v e k) λc h1 h2=>?_
  show aA c h1 (h2.fL x hY)
 ·show ck (f.cells y v e k) λa c h3 ux h6=>?_
  show aj (ux) λo h4 h5=>?_;show cF a c h3 (aA o (x.keep a o h4 (f.all y a h3).1 (h2 y a h3)) h5) (h6.fL x hY)
 ·obtain⟨h3,v,o,h4,h5⟩:=f.all y a e
  show⟨out a o h4 h3,v,o,x.keep a o h4 h3 (h2 y a e),h5⟩
def gB.step{φ aB:Ph}{env:Env}{J:ab}{s s':Shared}(f:gB φ env J s.heap)(x:Step φ s aB s'):gB aB env J s'.heap:=f.fL x (λ_ h=>(nomatch h)) (λh=>(nomatch h)) λ_ _ _ h=>(nomatch h)
structure bW(K:W.Frag)(w:World)(env:Env)(J:ab)(φ:Ph)(O:Hp)(s:Shared):Prop where
 rel:aX w φ O s.heap
 base:cO K φ s.heap
 fits:gB φ env J s.heap
def bW.step{K:W.Frag}{w:World}{env:Env}{J:ab}{φ aB:Ph}{O aa:Hp}{s s':Shared}(n:bW K w env J φ O s)(x:Step φ s aB s')(r:aX w aB aa s'.heap):bW K w env J aB aa s':=
 ⟨r,n.base.step x,n.fits.step x⟩
def fN{α:Type}{M:Model}{A:Around}{t:Sem α}{Q:α->Shared->Prop}{E:Value->Shared->Prop}{s:Shared}(h:∀Q':α->Shared->Prop,(∀a s',Q a s'->Q' a s')->wpAny M A t Q' E s):wpAny M A t Q E s:=h Q λ_ _ x=>x
def Ab{α β:Type}{M:Model}{A:Around}{Q:β->Shared->Prop}{E:Value->Shared->Prop}{s:Shared}{b:β}{f:α->β->Sem (ForInStep β)}(h:Q b s):wpAny M A (forIn ([]:List α) b f) Q E s:=by show aW h
def E8{α β:Type}{M:Model}{A:Around}{Q:β->Shared->Prop}{E:Value->Shared->Prop}{s:Shared}{a:α}{l:List α}{b:β}{f:α->β->Sem (ForInStep β)}(h:wpAny M A (f a b) (λr s'=>wpAny M A (match r with| .done b=>pure b| .yield b=>forIn l b f) Q E s') E s):wpAny M A (forIn (a::l) b f) Q E s:=by rw[List.forIn_cons];show ax h
def Ac{α:Type}{M:Model}{A:Around}{Q:α->Shared->Prop}{E:Value->Shared->Prop}{s:Shared}{c:Prop} [Decidable c]{t u:Sem α}(h:¬c)(g:wpAny M A u Q E s):wpAny M A (if c then t else u) Q E s:=by show(aN h)▸(g)
def qF{α:Type}{M:Model}{A:Around}{Q:α->Shared->Prop}{E:Value->Shared->Prop}{s:Shared}{c:Bool}{t u:Sem α}(h:c=false)(g:wpAny M A u Q E s):wpAny M A (if c=true then t else u) Q E s:=Ac ((h).symm▸g0) g
def E9{α:Type}{M:Model}{A:Around}{Q:α->Shared->Prop}{E:Value->Shared->Prop}{s:Shared}{c:Prop} [Decidable c]{t u:Sem α}(h:c)(g:wpAny M A t Q E s):wpAny M A (if c then t else u) Q E s:=by show(az h)▸(g)
def g4{α β:Type}{P:α->β->Prop}{a x:α}{b y:β}(h:(a,b)=(x,y))(p:P a b):P x y:=(dh h).1▸(dh h).2▸p
abbrev bc{α β:Type}(Y:List Addr)(w:World)(A:Around)(φ:Ph)(O:Hp)(s:Shared)(t:Sem α)(m:M β)(R:Heap->Ph->β->α->Prop):Prop:=
 ∀b aa,m O=some (b,aa)->wpAny (Mo w) A t (λa s'=>∃aB,a0 Y φ s aB s'/\aX w aB aa s'.heap/\R s'.heap aB b a) (λ_ _=>False) s
noncomputable abbrev cn{α β:Type}(w:World)(A:Around)(φ:Ph)(O:Hp)(s:Shared)(t:Sem α)(m:M β)(R:Heap->Ph->β->α->Prop):Prop:=bc [] w A φ O s t m R
section
variable{α β γ δ:Type}{Y:List Addr}{K:W.Frag}{w:World}{A:Around}{env:Env}{J:ab}{φ:Ph}{O:Hp}{s:Shared}
def bc.bind{t:Sem α}{f:α->Sem γ}{m:M β}{g:β->M δ}{R:Heap->Ph->β->α->Prop}{R':Heap->Ph->δ->γ->Prop}
  (h1:bc Y w A φ O s t m R) (h2:∀aB aa s' a b,a0 Y φ s aB s'->aX w aB aa s'.heap->R s'.heap aB b a->bc Y w A aB aa s' (f a) (g b) R'):
  bc Y w A φ O s (t>>=f) (m>>=g) R':=λb aa e=>by
 show br (cy e) λoO ag e1 e2=>?_;show ax (bg (h1 oO ag e1) (λa aw M6=>bK M6 λba x r q=>?_) λ_ _ x=>x);show bg (h2 ba ag aw a oO x r q b aa e2) (λc a8 M7=>bK M7 λcB x' r' q'=>bj cB (x.trans x') r' q') λ_ _ x=>x
def bc.pN{t:Sem α}{f:α->Sem γ}{m:M δ}{R:Heap->Ph->δ->α->Prop}{R':Heap->Ph->δ->γ->Prop}
  (h1:bc Y w A φ O s t m R) (h2:∀aB aa s' a b,a0 Y φ s aB s'->aX w aB aa s'.heap->R s'.heap aB b a->bc Y w A aB aa s' (f a) (pure b:M δ) R'):
  bc Y w A φ O s (t>>=f) m R':=λb aa e=>by
 show ax (bg (h1 b aa e) (λa aw M8=>bK M8 λba x r q=>?_) λ_ _ x=>x);show bg (h2 ba aa aw a b x r q b aa rfl) (λc a8 uy=>bK uy λcB x' r' q'=>bj cB (x.trans x') r' q') λ_ _ x=>x
def bc.pure{a:α}{b:β}{R:Heap->Ph->β->α->Prop}(r:aX w φ O s.heap)(h:R s.heap φ b a):bc Y w A φ O s (Pure.pure a:Sem α) (Pure.pure b:M β) R:=λb' aa e=>by
 apply g4 (fh e).symm;show aW (bj φ (.refl ..) r h)
def bc.fail{t:Sem α}{R:Heap->Ph->β->α->Prop}:bc Y w A φ O s t (au:M β) R:=λ_ _ e=>jI e
def bc.guard{c:Prop} [Decidable c]{t:Sem α}{m:M β}{R:Heap->Ph->β->α->Prop}(h:c->bc Y w A φ O s t m R):bc Y w A φ O s t (if c then m else au) R:=by
 by_cases q:c
 ·rw[az q];show h q
 ·rw[aN q];show .fail
def bc.M9{c:Prop} [Decidable c]{t:Sem α}{m:M β}{R:Heap->Ph->β->α->Prop}(h:¬c->bc Y w A φ O s t m R):bc Y w A φ O s t (if c then au else m) R:=by
 by_cases q:c
 ·rw[az q];show .fail
 ·rw[aN q];show h q
def bc.one{t:Sem α}{b:β}{R:Heap->Ph->β->α->Prop}(h:wpAny (Mo w) A t (λa s'=>∃aB,a0 Y φ s aB s'/\aX w aB O s'.heap/\R s'.heap aB b a) (λ_ _=>False) s):bc Y w A φ O s t (Pure.pure b:M β) R:=λb' aa e=>by
 show aI (xh e) λbY aF=>?_;subst bY;subst aF;show h
def bc.standAt{pos:Pos}{t:Sem α}{m:M β}{R:Heap->Ph->β->α->Prop}(h:bc Y w A φ O s t m R):bc Y w A φ O s (do PySem.standAt pos;t) m R:=λb aa e=>ax (wpAny_standAt (h b aa e))
def bc.holding{vs:List Value}{t:Sem α}{m:M β}{R:Heap->Ph->β->α->Prop}(h:bc Y w A φ O s t m R):bc Y w A φ O s (PySem.holding vs t) m R:=λb aa e=>eM (h b aa e)
def bc.operate{vs:List Value}{t:Sem Value}{m:M β}{R:Heap->Ph->β->Value->Prop}(h:bc Y w A φ O s t m R):bc Y w A φ O s (PySem.operate vs t) m R:=λb aa e=>wpAny_operate' (h b aa e)
def bc.rule{tag:String}{t:Sem α}{m:M β}{R:Heap->Ph->β->α->Prop}(h:bc Y w A φ O s t m R):bc Y w A φ O s (do PySem.rule tag;t) m R:=λb aa e=>ax (wpAny_rule (h b aa e))
def bc.mono{t:Sem α}{m:M β}{R R':Heap->Ph->β->α->Prop}(h:bc Y w A φ O s t m R)(q:∀h φ b a,R h φ b a->R' h φ b a):bc Y w A φ O s t m R':=λb aa e=>
 bg (h b aa e) (λ_ _ ⟨aB,x,r,p⟩=>⟨aB,x,r,q _ _ _ _ p⟩) λ_ _ x=>x
def bc.more{Y':List Addr}{t:Sem α}{m:M β}{R:Heap->Ph->β->α->Prop}(h:bc Y w A φ O s t m R)(q:∀a∈Y,a∈Y'):bc Y' w A φ O s t m R:=λb aa e=>
 bg (h b aa e) (λ_ _ ⟨aB,x,r,p⟩=>⟨aB,x.more q,r,p⟩) λ_ _ x=>x
def bc.any{t:Sem α}{m:M β}{R:Heap->Ph->β->α->Prop}(h:cn w A φ O s t m R):bc Y w A φ O s t m R:=bc.more h λ_ h=>(nomatch h)
def nM.gA{w:World}{φ aB:Ph}{h h':Heap}{ob:bx}{a:Addr}(q:nM w h φ ob a)(ka:∀o,h.get? a=some o->h'.get? a=some o)(hs:iH φ aB h h')(hn:∀(i:Nat) (b:Addr),φ.m[i]? =some b->aB.m[i]? =some b):nM w h' aB ob a:=by
 have rep:=λv c q=>ao.mono hs hn v c q;have xj:=λv c q=>aD.mono hs hn v c q;induction ob with
 |list l=>show aj (q) λcs uz hr=>?_;show aU (uz) λn ho=>?_;show aA cs ⟨n,ka _ ho⟩ (xj _ _ hr)
 |dict l=>
  symm
  show bK (q) λf uz h3 h4=>?_;show pK (uz) λo es ep h1 h2=>?_;left;show bj f (l9 o es ep (ka o h1) h2) h3 (λx=>?_);have:=h4 x;split at this
  ·show aj this λc e p=>?_;show aA c e (rep _ _ p)
  ·show this
 |inst c d=>show aj q λdx h1 h2=>?_;show aA dx (hn _ _ h1) (ka _ h2)
 |attrs l=>
  show ck q λes n h1 h2 h3=>?_;show cF es n (ka _ h1) h2 (λx=>?_);have:=h3 x;split at this
  ·show aj this λc e p=>?_;show aA c e (rep _ _ p)
  ·show this
 |cA l n=>
  symm
  show dg (q) λb cs uA hb Ae hr=>?_;show aj (uA) λo ho hc=>?_;obtain⟨o',uB,g6,m,ky⟩:=Ae;show aI (hs b o' uB hb (by simp only[ma,ky])) λk1 k2=>?_;left;show fC b cs (aA o (ka o ho) hc) k2 ⟨o',k1,g6,m,ky⟩ (xj _ _ hr)
 |iq f x l=>show br q λc t h1 h2=>?_;show c8 c t (ka _ h1) (λz=>rep _ _ (h2 z))
 |cell v=>show aU q λvs q=>?_;show⟨vs,ka _ q⟩
 |tab=>show ka _ q
def aX.gA{φ:Ph}{O:Hp}{h h':Heap}(r:aX w φ O h)(k:∀a o,h.get? a=some o->(a∈φ.m\/(φ.Out a/\ma o))->h'.get? a=some o)(kx:∀a∈φ.x,∃o,h'.get? a=some o):aX w φ O h':=by
 have hs:iH φ φ h h':=λa o e ho hf=>⟨k a o e (.inr ⟨ho,hf⟩),ho⟩;show⟨r.len,r.nodup,λa ha=>?_,kx,r.apart,λi a ob e1 e2=>?_,r.zero⟩
 ·show aU (r.live a ha) λo ho=>?_
  show⟨o,k a o ho (.inl ha)⟩
 ·have ha:a∈φ.m:=gZ e1
  show(r.objs i a ob e1 e2).gA (λo e=>k a o e (.inl ha)) hs λ_ _ e=>e
def aX.keeps{φ:Ph}{O:Hp}{h h':Heap}(r:aX w φ O h)(k:∀a o,h.get? a=some o->h'.get? a=some o):aX w φ O h':=
 r.gA (λa o e _=>k a o e) λa ha=>let⟨o,e⟩:=r.iU a ha;⟨o,k a o e⟩
def a0.toks{φ:Ph}{s:Shared}{tk:Nat}:a0 Y φ s φ {s with toks:=tk}:=⟨⟨[],φ.um.symm,λ_ h=>(nomatch h)⟩,λ_ _ e _ _=>e,λ_ o e=>⟨o,e⟩,rfl,rfl⟩
def a0.heap{φ:Ph}{s:Shared}{tk:Nat}{h':Heap}(k:∀a o,s.heap.get? a=some o->h'.get? a=some o):a0 Y φ s φ {s with heap:=h',toks:=tk}:=
 ⟨⟨[],φ.um.symm,λ_ h=>(nomatch h)⟩,λa o e _ _=>k a o e,λa o e=>⟨o,k a o e⟩,rfl,rfl⟩
def Step.toks{φ:Ph}{s:Shared}{tk:Nat}:Step φ s φ {s with toks:=tk}:=a0.toks
def Step.heap{φ:Ph}{s:Shared}{tk:Nat}{h':Heap}(k:∀a o,s.heap.get? a=some o->h'.get? a=some o):Step φ s φ {s with heap:=h',toks:=tk}:=a0.heap k
def done{b:V}{c:Value}{h':Heap}{tk:Nat}(r:aX w φ O s.heap)(k:∀a o,s.heap.get? a=some o->h'.get? a=some o)(p:ao h' φ b c):
  ∃aB,a0 Y φ s aB {s with heap:=h',toks:=tk}/\aX w aB O ({s with heap:=h',toks:=tk}:Shared).heap/\ao ({s with heap:=h',toks:=tk}:Shared).heap aB b c:=
 ⟨φ,.heap k,r.keeps k,p⟩
def cC{b:V}{c:Value}{tk:Nat}(r:aX w φ O s.heap)(p:ao s.heap φ b c):
  ∃aB,a0 Y φ s aB {s with toks:=tk}/\aX w aB O ({s with toks:=tk}:Shared).heap/\ao ({s with toks:=tk}:Shared).heap aB b c:=done (h':=s.heap) r (λ_ _ e=>e) p
noncomputable abbrev Ev(K:W.Frag)(w:World)(A:Around)(env:Env)(J:ab)(t:Sem Value)(m:M V):Prop:=
 ∀φ O s,bW K w env J φ O s->cn w A φ O s t m λh φ v c=>ao h φ v c
abbrev mP(K:W.Frag)(x:Str):Option V:=match W.nsIn K mainGlobals x with
 |some (some c)=>some (.con c)
 |some none=>if x="__name__" then none else(bootBuiltins x).map .con
 |none=>none
abbrev bJ{α:Type}(o:Option α):M α:=λO=>o.map λa=>(a,O)
abbrev Af(K:W.Frag)(J:ab)(x:Str):Option NameKind->M V
 |some .local=>bJ (J.lookup x)
 |some .cell=>bJ (J.lookup x)
 |some .free=>if(x==("__classdict__":Str))=true then au else bJ (J.lookup x)
 |some .globalImplicit=>bJ (mP K x)
 |_=>au
abbrev Ag(K:W.Frag)(sc:Scope)(J:ab)(x:Str):M V:=
 if(x==("__debug__":Str))=true then pure (.bool true)else Af K J x (sc.names.lookup x)
def lD{α:Type}{o:Option α}{O:Hp}{r:α×Hp}(h:(bJ o:M α) O=some r):o=some r.1/\r.2=O:=by
 induction o with
 |none=>show absurd h (by intro q;cases q)
 |some a=>cases fh h;show⟨rfl,rfl⟩
set_option tactic.hygienic true in
def Na(x:Str)(pos:Pos):Ev K w A env J (eval (.Name x pos) env) (Ag K env.scope J x):=by
 intro φ O s n b aa e;unfold Ag at e;show fN λQ hQ=>?_;by_cases hd:(x==("__debug__":Str))=true
 ·rw[az hd]at e
  symm
  cases fh e;left;rw[arm_eval_Name,hd];show ax (wpAny_standAt (ax (wpAny_rule (aW (hQ _ _ (cC n.rel (by delta ao;rfl)))))))
 ·rw[aN hd]at e
  have ky:(x==("__debug__":Str))=false:=by simpa using hd
  cases hk:env.scope.names.lookup x with
  |none=>rw[hk]at e;show jI (show(au:M V) O=_ from e)
  |some kd=>
   rw[hk]at e;induction kd with
   |«local»=>
    show aI (lD (show(bJ (J.lookup x):M V) O=_ from e)) λh1 h2=>?_;dsimp only at h1 h2;subst h2;show aj n.fits.ns λm hm hr=>?_;show aj (hr x b h1 hk) λc h3 h4=>?_;show wpAny_Name (wpAny_loadName_local n.fits.kind hk hm h3 (hQ _ _ (cC n.rel h4))) ky
   |cell=>
    show aI (lD (show(bJ (J.lookup x):M V) O=_ from e)) λh1 h2=>?_;dsimp only at h1 h2;subst h2;show ck (n.fits.cells x b h1 (.inl hk)) λa c h3 h4 h5=>?_;show wpAny_Name (wpAny_loadName_cell n.fits.kind hk h3 h4 (hQ _ _ (cC n.rel h5))) ky
   |free=>
    unfold Af at e;by_cases iW:(x==("__classdict__":Str))=true
    ·rw[az iW]at e;show jI e
    ·rw[aN iW]at e
     show aI (lD e) λh1 h2=>?_;dsimp only at h1 h2;subst h2;show ck (n.fits.cells x b h1 (.inr hk)) λa c h3 h4 h5=>?_;show wpAny_Name (wpAny_loadName_free n.fits.kind hk h3 h4 (hQ _ _ (cC n.rel h5)) (by simpa using iW)) ky
   |globalImplicit=>
    show aI (lD (show(bJ (mP K x):M V) O=_ from e)) λh1 h2=>?_;dsimp only at h1 h2;subst h2;show aU n.base.glob λmg hg=>?_;show aj n.base.nL λmb hb uw=>?_;unfold mP at h1;show Name_function_global n.fits.kind hk ?_ ky;split at h1
    ·rename_i c hc
     symm
     cases h1;left;show loadGlobal_global (n.fits.glob▸hg) (W.mg_of n.base.k hg hc) (hQ _ _ (cC n.rel (by delta ao;rfl)))
    ·rename_i hc
     split at h1
     ·cases h1
     ·rename_i hn
      show aj (eo h1) λc h3 h4=>?_;subst h4;show loadGlobal_builtin (n.fits.glob▸hg) (W.mg_none_of n.base.k hg hc) (n.fits.nL▸hb) ((uw x hn).trans h3) (hQ _ _ (cC n.rel (by rfl)))
    ·cases h1
   |_=>show jI (show(au:M V) O=_ from e)
abbrev Ah:Const->M V
 | .none=>pure .none
 | .bool b=>pure (.bool b)
 | .int i=>pure (.int i)
 | .str x=>pure (.str x)
 |_=>au
def Nb(c:Const)(k:Nat)(pos:Pos):Ev K w A env J (eval (.Constant c k pos) env) (Ah c):=by
 intro φ O s n b aa e;induction c with
 |none=>apply g4 (fh e).symm;show aW (cC n.rel (by delta ao;rfl))
 |bool _=>apply g4 (fh e).symm;clear e;show aW (cC n.rel (by rfl))
 |int _=>apply g4 (fh e).symm;show λ_ _ _=>cC n.rel (by delta ao;show⟨_,rfl⟩)
 |str _=>apply g4 (fh e).symm;show Constant_str (cC n.rel (by delta ao;show⟨_,rfl⟩))
 |_=>unfold Ah at e;show jI e
abbrev cg(x:Str):Bool:=x.cps.size<=1000000
def md{x:Str}(h:cg x=true):x.length<=1000000:=of_decide_eq_true h
def jJ{n:Nat}(h:n<=2000000):n<=sizeLine:=by show a9 `A `D
abbrev V.sI(v:V):Option (Int):=if h:v.ctorIdx=2 then some (V.int.elim (motive_1:=λ_=>Int) v h id)else Option.none
abbrev V.uC(v:V):Option (Bool):=if h:v.ctorIdx=1 then some (V.bool.elim (motive_1:=λ_=>Bool) v h id)else Option.none
abbrev V.pO(v:V):Option (Str):=if h:v.ctorIdx=3 then some (V.str.elim (motive_1:=λ_=>Str) v h id)else Option.none
abbrev V.sJ(v:V):Option (List V):=if h:v.ctorIdx=6 then some (V.lst.elim (motive_1:=λ_=>List V) v h id)else Option.none
abbrev V.xk(v:V):Option (List V):=if h:v.ctorIdx=5 then some (V.tup.elim (motive_1:=λ_=>List V) v h id)else Option.none
abbrev qG(v:V):Option Nat:=if h:v.ctorIdx=10 then some (V.ref.elim (motive_1:=λ_=>Nat) v h id)else none
abbrev V.no(v:V):Bool:=v.ctorIdx==0
def nO{α:Type}{c:Prop} [Decidable c]{f:c->α}{x:α}(h:(if h:c then some (f h)else none)=some x):∃q:c,f q=x:=by
 by_cases q:c
 ·show⟨q,bN ((dif_pos q).symm.trans h)⟩
 ·show fD ((dif_neg q).symm.trans h)
def Ai{v:V}{x:Int}(h:v.sI =some x):v= .int x:=(nO h).elim λq e=>e▸V.int.elim (motive_1:=λv=>∀q,v= .int (V.int.elim (motive_1:=λ_=>Int) v q id)) v q (λ_ _=>rfl) q
def Aj{v:V}{x:Bool}(h:v.uC =some x):v= .bool x:=(nO h).elim λq e=>e▸V.bool.elim (motive_1:=λv=>∀q,v= .bool (V.bool.elim (motive_1:=λ_=>Bool) v q id)) v q (λ_ _=>rfl) q
def uD{v:V}{x:Str}(h:v.pO =some x):v= .str x:=(nO h).elim λq e=>e▸V.str.elim (motive_1:=λv=>∀q,v= .str (V.str.elim (motive_1:=λ_=>Str) v q id)) v q (λ_ _=>rfl) q
def Fb{v:V}{x:List V}(h:v.sJ =some x):v= .lst x:=(nO h).elim λq e=>e▸V.lst.elim (motive_1:=λv=>∀q,v= .lst (V.lst.elim (motive_1:=λ_=>List V) v q id)) v q (λ_ _=>rfl) q
def Nc{v:V}{x:List V}(h:v.xk =some x):v= .tup x:=(nO h).elim λq e=>e▸V.tup.elim (motive_1:=λv=>∀q,v= .tup (V.tup.elim (motive_1:=λ_=>List V) v q id)) v q (λ_ _=>rfl) q
def xl{v:V}{x:Nat}(h:qG v=some x):v= .ref x:=(nO h).elim λq e=>e▸V.ref.elim (motive_1:=λv=>∀q,v= .ref (V.ref.elim (motive_1:=λ_=>Nat) v q id)) v q (λ_ _=>rfl) q
abbrev xm(o:bx):Option (List V):=if h:o.ctorIdx=0 then some (bx.list.elim (motive:=λ_=>List V) o h id)else none
def Nd{o:bx}{x:List V}(h:xm o=some x):o= .list x:=(nO h).elim λq e=>e▸bx.list.elim (motive:=λo=>∀q,o= .list (bx.list.elim (motive:=λ_=>List V) o q id)) o q (λ_ _=>rfl) q
def uE{v:V}(h:v.no=true):v= .none:=V.none.elim (motive_1:=λv=>v= .none) v (eq_of_beq h) rfl
def eName{e:Expr}(h:e.ctorIdx=23):∃x p,e= .Name x p:=Expr.Name.elim (motive_1:=λe=>∃x p,e= .Name x p) e h λx p=>⟨x,p,rfl⟩
def Ak{e:Expr}(h:e.ctorIdx=25):∃es k p,e= .Tuple es k p:=Expr.Tuple.elim (motive_1:=λe=>∃es k p,e= .Tuple es k p) e h λes k p=>⟨es,k,p,rfl⟩
def eList{e:Expr}(h:e.ctorIdx=24):∃es p,e= .List es p:=Expr.List.elim (motive_1:=λe=>∃es p,e= .List es p) e h λes p=>⟨es,p,rfl⟩
def Nf{e:Expr}(h:e.ctorIdx=26):∃lo hi st p,e= .Slice lo hi st p:=Expr.Slice.elim (motive_1:=λe=>∃lo hi st p,e= .Slice lo hi st p) e h λlo hi st p=>⟨lo,hi,st,p,rfl⟩
def Al{e:Expr}(h:e.ctorIdx=20):∃o n p,e= .Attribute o n p:=Expr.Attribute.elim (motive_1:=λe=>∃o n p,e= .Attribute o n p) e h λo n p=>⟨o,n,p,rfl⟩
def Ng{e:Expr}(h:e.ctorIdx=21):∃x i p,e= .Subscript x i p:=Expr.Subscript.elim (motive_1:=λe=>∃x i p,e= .Subscript x i p) e h λx i p=>⟨x,i,p,rfl⟩
def Nh{e:Expr}(h:e.ctorIdx=8):∃elt gens sc p,e= .ListComp elt gens sc p:=Expr.ListComp.elim (motive_1:=λe=>∃elt gens sc p,e= .ListComp elt gens sc p) e h λelt gens sc p=>⟨elt,gens,sc,p,rfl⟩
abbrev cq{β:Type}(v:V)(f:Int->M β):M β:=v.sI.elim au f
abbrev fX{β:Type}(v:V)(f:Str->M β):M β:=v.pO.elim au f
abbrev qH{β:Type}(v:V)(f:List V->M β):M β:=v.sJ.elim au f
def Fc{β:Type}(x:Int)(f:Int->M β):cq (.int x) f=f x:=rfl
def Fe{β:Type}(x:Str)(f:Str->M β):fX (.str x) f=f x:=rfl
def Ff{β:Type}(x:List V)(f:List V->M β):qH (.lst x) f=f x:=rfl
abbrev Fg(x y:Str):M V:=if cg x=true/\cg y=true then pure (.str (x++y))else au
abbrev Fh(a b:Int):M V:=if a.natAbs<2^64/\0<=b/\b<=64 then pure (.int (a*2^b.toNat))else au
abbrev fk(op:Operator)(u v:V):M V:=match op with
 | .Add=>(match u with
  | .int a=>cq v λb=>pure (.int (a+b))
  | .str x=>fX v λy=>Fg x y
  | .lst x=>qH v λy=>if x.length<=1000000/\y.length<=1000000 then pure (.lst (x++y))else au
  |_=>au)
 | .Sub=>cq u λa=>cq v λb=>pure (.int (a-b))
 | .FloorDiv=>cq u λa=>cq v λb=>if b≠0/\b.natAbs<1073741824 then pure (.int (a.fdiv b))else au
 | .Mod=>cq u λa=>cq v λb=>if b=0 then au else pure (.int (a.fmod b))
 | .Mult=>cq u λa=>cq v λb=>if a.natAbs<2^31/\b.natAbs<2^31 then pure (.int (a*b))else au
 | .Pow=>cq u λa=>cq v λb=>if a.natAbs<2^64/\0<=b/\b<=64 then pure (.int (a^b.toNat))else au
 | .LShift=>cq u λa=>cq v λb=>Fh a b
 | .RShift=>cq u λa=>cq v λb=>if 0<=b then pure (.int (a.fdiv (2^b.toNat)))else au
 | .BitAnd=>cq u λa=>cq v λb=>pure (.int (Builtin.bitAnd a b))
 | .BitOr=>cq u λa=>cq v λb=>pure (.int (Builtin.bitOr a b))
 | .BitXor=>cq u λa=>cq v λb=>pure (.int (Builtin.bitXor a b))
 |_=>au
abbrev kK(op:Operator)(u v:V):M V:=match op with
 | .Add=>(match u with
  | .int a=>cq v λb=>pure (.int (a+b))
  | .str x=>fX v λy=>Fg x y
  |_=>au)
 | .LShift=>cq u λa=>cq v λb=>Fh a b
 | .BitOr=>cq u λa=>cq v λb=>pure (.int (Builtin.bitOr a b))
 | .BitXor=>cq u λa=>cq v λb=>pure (.int (Builtin.bitXor a b))
 |_=>au
def aD.length{h:Heap}{φ:Ph}:∀{l:List V} {cs:List Value},aD h φ l cs->l.length=cs.length
 |[],_,r=>by delta aD at r;subst r;rfl
 |v::l,cs,r=>by show ck r λc q ay _ h2=>?_;subst ay;simp[aD.length h2]
def aD.append{h:Heap}{φ:Ph}:∀{l l':List V} {cs cZ:List Value},aD h φ l cs->aD h φ l' cZ->aD h φ (l++l') (cs++cZ)
 |[],_,_,_,r,r'=>by delta aD at r;subst r;show r'
 |v::l,l',cs,cZ,r,r'=>by
  show ck r λc q ay h1 h2=>?_;subst ay;show cF c _ rfl h1 (aD.append h2 r')
def aD.get{h:Heap}{φ:Ph}:∀{l:List V} {cs:List Value},aD h φ l cs->∀{i:Nat} {v:V},l[i]? =some v->∃c,cs[i]? =some c/\ao h φ v c
 |[],_,_,_,_,e=>by simp at e
 |v::l,cs,r,i,v',e=>by
  show ck r λc q ay h1 h2=>?_;subst ay;induction i with
  |zero=>simp at e;subst e;show aA c rfl h1
  |succ i=>simp at e;show aj (aD.get h2 e) λc' e' p=>?_;show aA c' (by show e') p
def aX.fresh{w:World}{φ:Ph}{O:Hp}{h:Heap}(r:aX w φ O h):φ.Out h.objs.size:=
 ⟨λq=>let⟨_,ho⟩:=r.live _ q;Nat.lt_irrefl _ (Heap.lt_size ho),λq=>let⟨_,ho⟩:=r.iU _ q;Nat.lt_irrefl _ (Heap.lt_size ho)⟩
def er{h:Heap}(o:Obj):∀a o',h.get? a=some o'->(h.push o).get? a=some o':=λ_ _ e=>Heap.get?_push_of_some _ e
def fj.push{h:Heap}{o:Obj}:fj h [h.objs.size]:=λa ha=>by
 have:a=h.objs.size:=by simpa using ha
 subst this;cases e:h.get? h.objs.size with
 |none=>rfl
 |some o=>show absurd (Heap.lt_size e) (Nat.lt_irrefl _)
def uF{l:List V}{cs:List Value}{h:Heap}(r:aX w φ O h)(q:aD h φ l cs):ao (h.push {cls:= .type "list",data:= .seq cs.toArray}) φ (.lst l) (.ref h.objs.size):=by
 show fC _ cs rfl r.fresh ⟨_,dT _ rfl,rfl,_,rfl⟩ ?_;show aD.mono (λa o e ho _=>⟨er _ a o e,ho⟩) (λ_ _ e=>e) l cs q
def Ni{l:List V}{cs:List Value}{h:Heap}(r:aX w φ O h)(q:aD h φ l cs):ao (h.push {cls:= .type "tuple",data:= .seq cs.toArray}) φ (.tup l) (.ref h.objs.size):=by
 show fC _ cs rfl r.fresh ⟨_,dT _ rfl,rfl,_,rfl⟩ ?_;show aD.mono (λa o e ho _=>⟨er _ a o e,ho⟩) (λ_ _ e=>e) l cs q
def fm{h:Heap}{i:Int}{t:Tok}:ao h φ (.int i) (.int i t):=by delta ao;show⟨t,rfl⟩
def jK{h:Heap}{x:Str}{t:Tok}:ao h φ (.str x) (.str x t):=by delta ao;show⟨t,rfl⟩
def Nj{h:Heap}{b:Bool}:ao h φ (.bool b) (.bool b):=by delta ao;rfl
def Am{h:Heap}:ao h φ .none .none:=by delta ao;rfl
def iX{h:Heap}{i:Int}{c:Value}(r:ao h φ (.int i) c):∃t,c= .int i t:=by delta ao at r;show r
def eU{h:Heap}{x:Str}{c:Value}(r:ao h φ (.str x) c):∃t,c= .str x t:=by delta ao at r;show r
def nP{h:Heap}{b:Bool}{c:Value}(r:ao h φ (.bool b) c):c= .bool b:=by delta ao at r;show r
def of_none{h:Heap}{c:Value}(r:ao h φ .none c):c= .none:=by delta ao at r;show r
def kL{h:Heap}{l:List V}{c:Value}(r:ao h φ (.lst l) c):∃a cs,c= .ref a/\φ.Out a/\h.IsList a cs.toArray/\aD h φ l cs:=by show r
def me{h:Heap}{l:List V}{c:Value}(r:ao h φ (.tup l) c):∃a cs,c= .ref a/\φ.Out a/\IsTup h a cs.toArray/\aD h φ l cs:=by show r
def fO{α:Type}{c:Prop} [Decidable c]{m:M α}{O:Hp}{r:α×Hp}(h:(if c then m else au) O=some r):c/\m O=some r:=by
 by_cases q:c
 ·rw[az q]at h;show⟨q,h⟩
 ·rw[aN q]at h;show jI h
def Nk{α:Type}{c:Prop} [Decidable c]{m:M α}{O:Hp}{r:α×Hp}(h:(if c then au else m) O=some r):¬c/\m O=some r:=by
 by_cases q:c
 ·rw[az q]at h;show jI h
 ·rw[aN q]at h;show⟨q,h⟩
def Nl{l b:Addr}{vs ws:List Value}{E:Value->Shared->Prop}{Q:Value->Shared->Prop}(hl:s.heap.IsList l vs.toArray)(hb:s.heap.IsList b ws.toArray)
  (h:Q (.ref s.heap.objs.size) {s with heap:=s.heap.push {cls:= .type "list",data:= .seq (vs++ws).toArray}}) (uG:vs.length+ws.length<=sizeLine):
  wpAny (Mo w) A (binaryOp .Add (.ref l) (.ref b)) Q E s:=by
 symm
 obtain⟨⟨cls,dd,data,sl⟩,ho,hc,n,hd⟩:=id hl;obtain⟨⟨aa9,Nm,data2,Nn⟩,Fi,uH,n2,hd2⟩:=id hb;simp only at hc hd uH hd2;subst hc hd uH hd2;left;show concat_meets (aA _ ho rfl) (aA _ Fi rfl) noFill_list_add seq_list_add PySem.F.slot_list_add PySem.F.entry_list_add (PySem.F.args_list_add_2 _ _) (list_addW l b vs.toArray ws.toArray n n2 dd Nm sl Nn (by show uG)) (cW ho Fi ?_);show(Eq.symm ((by simp:vs.toArray++ws.toArray=(vs++ws).toArray)))▸(h)
section
variable{α β:Type}{Y:List Addr}{h:Heap}{R:Heap->Ph->β->α->Prop}{T:Value->Sem α}{v:V}{c:Value}
def bc.uI{γ:Type}{t:Sem α}{o:Option γ}{f:γ->M β}(h:∀b,o=some b->bc Y w A φ O s t (f b) R):bc Y w A φ O s t (o.elim au f) R:=by
 induction o with
 |none=>show .fail
 |some b=>show h b rfl
def bc.cq{f:Int->M β}(p:ao h φ v c)(q:∀i t,bc Y w A φ O s (T (.int i t)) (f i) R):bc Y w A φ O s (T c) (cq v f) R:= .uI λi e=>by
 show aU (iX (Ai e▸p)) λt aF=>?_;subst aF;show q _ t
def bc.fX{f:Str->M β}(p:ao h φ v c)(q:∀x t,bc Y w A φ O s (T (.str x t)) (f x) R):bc Y w A φ O s (T c) (fX v f) R:= .uI λi e=>by
 show aU (eU (uD e▸p)) λt aF=>?_;subst aF;show q _ t
def bc.qH{f:List V->M β}(p:ao h φ v c)(q:∀l a cs,h.IsList a cs.toArray->aD h φ l cs->bc Y w A φ O s (T (.ref a)) (f l) R):bc Y w A φ O s (T c) (qH v f) R:= .uI λi e=>by
 show dg (kL (Fb e▸p)) λa cs ay _ h1 h2=>?_;subst ay;show q _ a cs h1 h2
def bc.iJ{T:Value->Value->Sem α}{f:Int->Int->M β}{u:V}{d:Value}(p:ao h φ u d)(p':ao h φ v c)(q:∀i j t t',bc Y w A φ O s (T (.int i t) (.int j t')) (f i j) R):bc Y w A φ O s (T d c) (Mine.cq u λa=>Mine.cq v (f a)) R:=
 .cq (T:=λd=>T d c) p λi t=> .cq (T:=T (.int i t)) p' λj t'=>q i j t t'
end
def Np(op:Operator)(a b:V)(ca cb:Value)(r:aX w φ O s.heap)(ha:ao s.heap φ a ca)(hb:ao s.heap φ b cb):cn w A φ O s (binaryOp op ca cb) (fk op a b) λh φ v c=>ao h φ v c:=by
 cases op with
 |Add=>
  cases a with
  |int a=>show aU (iX ha) λt aF=>?_;subst aF;show .cq (T:=binaryOp .Add _) hb λi t=> .one (PyProof.Rows.add_int (cC r fm))
  |str x=>show aU (eU ha) λt aF=>?_;subst aF;show .fX (T:=binaryOp .Add _) hb λy t=> .guard λh0=> .one (PyProof.Rows.add_str (λ_ _=>cC r jK) (jJ (by have:=md h0.1;have:=md h0.2;lia)))
  |lst l=>
   show dg (kL ha) λt cs ay _ h1 q1=>?_;subst ay;show .qH (T:=binaryOp .Add _) hb λl' a' ds h2 q2=> .guard λh0=> .one (Nl h1 h2 (done (tk:=s.toks) r (er _) (uF r (q1.append q2))) (jJ (by simp only[<-q1.length,<-q2.length];lia)))
  |_=>show .fail
 |Sub=>show .iJ (T:=binaryOp .Sub) ha hb λ_ _ _ _=> .one (PyProof.Rows.sub_int (cC r fm))
 |FloorDiv=>show .iJ (T:=binaryOp .FloorDiv) ha hb λ_ _ _ _=> .guard λh0=> .one (PyProof.Rows.floordiv_int h0.1 (cC r fm) (.inl (PyProof.noPylong_small h0.2)))
 |Mod=>show .iJ (T:=binaryOp .Mod) ha hb λ_ _ _ _=> .M9 λh0=> .one (PyProof.Rows.mod_int h0 (cC r fm))
 |Mult=>show .iJ (T:=binaryOp .Mult) ha hb λ_ _ _ _=> .guard λh0=> .one (PyProof.Rows.mul_int (cC r fm) (by show aI h0 λh1 h2=>?_;mul_fits))
 |Pow=>show .iJ (T:=binaryOp .Pow) ha hb λ_ _ _ _=> .guard λh0=> .one (PyProof.Rows.pow_int_small h0.2.1 `L h0.1 (cC r fm))
 |LShift=>show .iJ (T:=binaryOp .LShift) ha hb λ_ _ _ _=> .guard λh0=> .one (PyProof.Rows.lshift_int_small h0.2.1 `L h0.1 (cC r fm))
 |RShift=>show .iJ (T:=binaryOp .RShift) ha hb λ_ _ _ _=> .guard λh0=> .one (PyProof.Rows.rshift_int h0 (cC r fm))
 |BitAnd=>show .iJ (T:=binaryOp .BitAnd) ha hb λ_ _ _ _=> .one (PyProof.Rows.and_int (cC r fm))
 |BitOr=>show .iJ (T:=binaryOp .BitOr) ha hb λ_ _ _ _=> .one (PyProof.Rows.or_int (cC r fm))
 |BitXor=>show .iJ (T:=binaryOp .BitXor) ha hb λ_ _ _ _=> .one (PyProof.Rows.xor_int (cC r fm))
 |_=>show .fail
def Fj(op:Operator)(a b:V)(ca cb:Value)(r:aX w φ O s.heap)(ha:ao s.heap φ a ca)(hb:ao s.heap φ b cb):cn w A φ O s (inplaceOp op ca cb) (kK op a b) λh φ v c=>ao h φ v c:=by
 induction op with
 |Add=>
  cases a with
  |int a=>show aU (iX ha) λt aF=>?_;subst aF;show .cq (T:=inplaceOp .Add _) hb λi t=> .one (PyProof.Rows.iadd_int (cC r fm))
  |str x=>show aU (eU ha) λt aF=>?_;subst aF;show .fX (T:=inplaceOp .Add _) hb λy t=> .guard λh0=> .one (PyProof.Rows.iadd_str (λ_ _=>cC r jK) (jJ (by have:=md h0.1;have:=md h0.2;lia)))
  |_=>show .fail
 |LShift=>show .iJ (T:=inplaceOp .LShift) ha hb λ_ _ _ _=> .guard λh0=> .one (PyProof.Rows.ilshift_int_small h0.2.1 `L h0.1 (cC r fm))
 |BitOr=>show .iJ (T:=inplaceOp .BitOr) ha hb λ_ _ _ _=> .one (PyProof.Rows.ior_int (cC r fm))
 |BitXor=>show .iJ (T:=inplaceOp .BitXor) ha hb λ_ _ _ _=> .one (PyProof.Rows.ixor_int (cC r fm))
 |_=>show .fail
def Nq{l r:Expr}{ml mr:M V}(op:Operator)(pos:Pos)(hl:Ev K w A env J (eval l env) ml)(hr:Ev K w A env J (eval r env) mr):
  Ev K w A env J (eval (.BinOp l op r pos) env) (do let a<-ml;let b<-mr;fk op a b):=by
 intro φ O s n;show .bind (hl φ O s n) λba ag aw ca a aP aS pa=>?_;show .bind (.holding (hr ba ag aw (n.step aP aS))) λcB aH a8 cb b bu ct pb=>?_;show .standAt (.operate (Np op a b ca cb ct (pa.step bu) pb))
abbrev sL(op:UnaryOp)(v:V):M V:=match op with
 | .Invert=>cq v λa=>pure (.int (Builtin.bitNot a))
 | .USub=>cq v λa=>pure (.int (-a))
 |_=>au
def Nr(op:UnaryOp)(a:V)(ca:Value)(r:aX w φ O s.heap)(ha:ao s.heap φ a ca):cn w A φ O s (unaryOp op ca) (sL op a) λh φ v c=>ao h φ v c:=by
 induction op with
 |Invert=>show .cq (T:=unaryOp .Invert) ha λ_ _=> .one (PyProof.Rows.invert_int (cC r fm))
 |USub=>show .cq (T:=unaryOp .USub) ha λ_ _=> .one (PyProof.Rows.neg_int (cC r fm))
 |_=>show .fail
def Nt{x:Expr}{m:M V}(op:UnaryOp)(pos:Pos)(hx:Ev K w A env J (eval x env) m):Ev K w A env J (eval (.UnaryOp op x pos) env) (do let a<-m;sL op a):=by
 intro φ O s n;show .bind (hx φ O s n) λba ag aw ca a aP aS pa=>?_;show .standAt (.holding (Nr op a ca aS pa))
end
end Mine
namespace Mine
open PySem PySem.Spec PySem.Calls PyProof.Rows
open PySem.SeqAt (EqAt RcAt RcNeAt)
abbrev lE{α:Type}(f:α->α->Option Bool):List α->List α->Option Bool
 |[],l'=>if l'.isEmpty=true then some true else none
 |a::l,l'=>match l' with
  |[]=>none
  |b::l'=>(f a b).bind λx=>(lE f l l').map (x&&·)
abbrev dy:Nat->V->V->Option Bool
 |0,_,_=>none
 |n+1,a,b=>match a with
  | .none=>if b.no=true then some true else b.pO.map λ_=>false
  | .bool x=>b.uC.map (x==·)
  | .int x=>b.sI.map (x==·)
  | .str x=>if b.no=true then some false else b.pO.map (x==·)
  | .lst l=>b.sJ.bind λl'=>if l.length=l'.length then lE (dy n) l l' else some false
  | .tup l=>b.xk.bind λl'=>lE (dy n) l l'
  |_=>none
def Fm{c k r:Bool}{o:Option Bool}(h:(if c=true then some k else o)=some r):c=true/\k=r\/o=some r:=by
 induction c with
 |true=>show .inl ⟨rfl,bN h⟩
 |false=>show .inr h
def xn{n:Nat}{P:V->V->Bool->Prop}(h1:P .none .none true)(h2:∀x y,P (.bool x) (.bool y) (x==y))(h3:∀x y,P (.int x) (.int y) (x==y))(h4:∀x y,P (.str x) (.str y) (x==y))(h5:∀y,P .none (.str y) false)(h6:∀x,P (.str x) .none false)
  (h7:∀l l' b,(if l.length=l'.length then lE (dy n) l l' else some false)=some b->P (.lst l) (.lst l') b) (h8:∀l l' b,lE (dy n) l l'=some b->P (.tup l) (.tup l') b) {a b:V} {k:Bool} (e:dy (n+1) a b=some k):P a b k:=by
 cases a with
 |none=>
  rcases Fm e with⟨q,rfl⟩|e
  ·show(Eq.symm (uE q))▸(h1)
  ·show aj (eo e) λy q ay=>?_;subst ay
   show(uD q)▸(h5 y)
 |bool x=>show aj (eo e) λy q ay=>?_;subst ay;show(Aj q)▸(h2 x y)
 |int x=>show aj (eo e) λy q ay=>?_;subst ay;show(Ai q)▸(h3 x y)
 |str x=>
  rcases Fm e with⟨q,rfl⟩|e
  ·show(Eq.symm (uE q))▸(h6 x)
  ·show aj (eo e) λy q ay=>?_;subst ay
   show(Eq.symm (uD q))▸(h4 x y)
 |lst l=>show aj (jH e) λy q e=>?_;show(Fb q)▸(h7 l y k e)
 |tup l=>show aj (jH e) λy q e=>?_;show(Eq.symm (Nc q))▸(h8 l y k e)
 |_=>cases e
def uJ{α:Type}{f:α->α->Option Bool}(l:List α):∀{l':List α} {b:Bool},lE f l l'=some b->l.length=l'.length/\∃e:Nat->Bool,b=(List.range l.length).all e/\∀i x y,l[i]? =some x->l'[i]? =some y->f x y=some (e i):=by
 induction l with
 |nil=>
  intro l' b h;show aI (fi h) λh1 h=>?_;cases List.isEmpty_iff.mp h1;cases h;show⟨rfl,λ_=>true,rfl,λi x y e=>nomatch e⟩
 |cons a l ih=>
  intro l' b h;cases l' with
  |nil=>cases h
  |cons c l'=>
   show aj (jH h) λx h1 h=>?_;show aj (eo h) λy h2 ay=>?_;subst ay;obtain⟨hl,e,rfl,hf⟩:=ih h2;show⟨aJ (·+1) hl,λi=>match i with|0=>x|i+1=>e i,?_,λi p q h3 h4=>?_⟩
   ·rw[List.length_cons,List.range_succ_eq_map,List.all_cons,List.all_map]
    rfl
   ·induction i with
    |zero=>cases h3;cases h4;show h1
    |succ i=>show hf i p q h3 h4
def Nu{h:Heap}{φ:Ph}(n:Nat):∀(v v':V) (c:Value) (b:Bool),ao h φ v c->ao h φ v' c->dy n v v'=some b->b=true:=by
 induction n with
 |zero=>intro _ _ _ _ _ _ e;cases e
 |succ n ih=>
  intro v v' c b r r' e;have lists:∀{l l':List V} {cs:List Value} {b:Bool},aD h φ l cs->aD h φ l' cs->lE (dy n) l l'=some b->b=true:=λ{l l' cs b} r r' e=>by
   obtain⟨hl,f,rfl,hf⟩:=uJ l e;rw[List.all_eq_true];intro i hi;have hi:=List.mem_range.mp hi;show aj (r.get (eH hi:l[i]? =some l[i])) λc1 q1 p1=>?_;show aj (r'.get (eH (hl▸hi):l'[i]? =some l'[i])) λc2 q2 p2=>?_;show ih _ _ _ _ p1 (bN (q1.symm.trans q2)▸p2) (hf i _ _ (eH hi:l[i]? =some l[i]) (eH (hl▸hi):l'[i]? =some l'[i]))
  show xn (P:=λv v' b=>ao h φ v c->ao h φ v' c->b=true) (λ_ _=>rfl) (λx y r r'=>?_) (λx y r r'=>?_) (λx y r r'=>?_) (λy r r'=>?_) (λx r r'=>?_) (λl l' b e r r'=>?_) (λl l' b e r r'=>?_) e r r'
  ·cases(nP r).symm.trans (nP r');show beq_self_eq_true _
  ·show aU (iX r) λt q=>?_;show aU (iX r') λu q'=>?_;cases q.symm.trans q';show beq_self_eq_true _
  ·show aU (eU r) λt q=>?_;show aU (eU r') λu q'=>?_;cases q.symm.trans q';show beq_self_eq_true _
  ·show aU (eU r') λu q=>?_;cases(of_none r).symm.trans q
  ·show aU (eU r) λu q=>?_;cases(of_none r').symm.trans q
  ·obtain⟨a,cs,q1,_,⟨o,ho,_,m,hd⟩,q⟩:=kL r
   obtain⟨a',cZ,q2,_,⟨o',uB,_,m',ky⟩,q'⟩:=kL r';cases q1.symm.trans q2;cases ho.symm.trans uB;have:=aJ Array.toList (Data.seq.inj (hd.symm.trans ky)).1;rw[List.toList_toArray,List.toList_toArray]at this;rw[az (by simp only[q.length,q'.length,this])]at e;show lists q (this▸q') e
  ·obtain⟨a,cs,q1,_,⟨o,ho,_,m,hd⟩,q⟩:=me r
   obtain⟨a',cZ,q2,_,⟨o',uB,_,m',ky⟩,q'⟩:=me r';cases q1.symm.trans q2;cases ho.symm.trans uB;have:=aJ Array.toList (Data.seq.inj (hd.symm.trans ky)).1;rw[List.toList_toArray,List.toList_toArray]at this;show lists q (this▸q') e
section
variable{s:Shared}{φ:Ph}
def xo{n:Nat}(ih:∀(A:Around) (v v':V) (c c':Value) (b:Bool),A.units+n<cLine->ao s.heap φ v c->ao s.heap φ v' c'->dy n v v'=some b->EqAt A s c c' b){A:Around}(hu:A.units+(n+1)<cLine)
  {l l':List V} {cs cZ:List Value} {e:Nat->Bool} (q:aD s.heap φ l cs) (q':aD s.heap φ l' cZ) (hf:∀i x y,l[i]? =some x->l'[i]? =some y->dy n x y=some (e i)):
  ∀j (h1:j<cs.toArray.size) (h2:j<cZ.toArray.size),EqAt A.in1 s cs.toArray[j] cZ.toArray[j] (e j):=λj h1 h2=>by
 have hj:j<l.length:=by simp only[q.length];show h1
 have Fn:j<l'.length:=by simp only[q'.length];show h2
 show aj (q.get (eH hj:l[j]? =some l[j])) λc1 k1 p1=>?_;show aj (q'.get (eH Fn:l'[j]? =some l'[j])) λc2 k2 p2=>?_;rw[eH h1]at k1;cases k1;rw[eH h2]at k2;cases k2;show ih A.in1 _ _ _ _ _ (by simp only[Around.in1_units];lia) p1 p2 (hf j _ _ (eH hj:l[j]? =some l[j]) (eH Fn:l'[j]? =some l'[j]))
def Fo{n:Nat}(ih:∀(A:Around) (v v':V) (c c':Value) (b:Bool),A.units+n<cLine->ao s.heap φ v c->ao s.heap φ v' c'->dy n v v'=some b->EqAt A s c c' b){A:Around}(hu:A.units+(n+1)<cLine)
  {a a':Addr} {l l':List V} {cs cZ:List Value} {b:Bool} (h:s.heap.IsList a cs.toArray) (h':s.heap.IsList a' cZ.toArray) (q:aD s.heap φ l cs) (q':aD s.heap φ l' cZ)
  (e:(if l.length=l'.length then lE (dy n) l l' else some false)=some b):RcAt A s (.ref a) (.ref a') b:=by
 by_cases hl:l.length=l'.length
 ·rw[az hl]at e
  obtain⟨_,f,rfl,hf⟩:=uJ _ e;have:=RcAt.lists h h' (by simp only[List.size_toArray,<-q.length,<-q'.length,hl]) `L (xo ih hu q q' hf)
  rwa [List.size_toArray,<-q.length]at this
 ·rw[aN hl]at e
  cases e;show RcAt.lists_lengths h h' (by simp only[List.size_toArray,<-q.length,<-q'.length];simpa using hl) `L
def Fp{n:Nat}(ih:∀(A:Around) (v v':V) (c c':Value) (b:Bool),A.units+n<cLine->ao s.heap φ v c->ao s.heap φ v' c'->dy n v v'=some b->EqAt A s c c' b){A:Around}(hu:A.units+(n+1)<cLine)
  {a a':Addr} {l l':List V} {cs cZ:List Value} {b:Bool} (h:IsTup s.heap a cs.toArray) (h':IsTup s.heap a' cZ.toArray) (q:aD s.heap φ l cs) (q':aD s.heap φ l' cZ)
  (e:lE (dy n) l l'=some b):RcAt A s (.ref a) (.ref a') b:=by
 obtain⟨hl,f,rfl,hf⟩:=uJ _ e;have:=RcAt.tuples (A:=A) h h' `L (xo ih hu q q' hf);simpa only[List.size_toArray,(by simp only[<-q.length,<-q'.length,hl]:cs.length=cZ.length),Nat.min_self,beq_self_eq_true,Bool.and_true,<-q'.length,<-hl]using this
def xp(n:Nat):∀(A:Around) (v v':V) (c c':Value) (b:Bool),A.units+n<cLine->ao s.heap φ v c->ao s.heap φ v' c'->dy n v v'=some b->EqAt A s c c' b:=by
 induction n with
 |zero=>intro _ _ _ _ _ _ _ _ _ e;cases e
 |succ n ih=>
  intro A v v' c c' b hu r r' e;by_cases hc:c=c'
  ·subst hc
   cases Nu (n+1) v v' c b r r' e;show EqAt.same c
  show xn (P:=λv v' b=>ao s.heap φ v c->ao s.heap φ v' c'->EqAt A s c c' b) (λr r'=>?_) (λx y r r'=>?_) (λx y r r'=>?_) (λx y r r'=>?_) (λy r r'=>?_) (λx r r'=>?_) (λl l' b e r r'=>?_) (λl l' b e r r'=>?_) e r r'
  ·show absurd ((of_none r).trans (of_none r').symm) hc
  ·simp only[nP r,nP r'];show EqAt.bool_bool _ _
  ·show aU (iX r) λt q=>?_;show aU (iX r') λu q'=>?_;simp only[q,q'];show EqAt.int_int _ _ _ _
  ·show aU (eU r) λt q=>?_;show aU (eU r') λu q'=>?_;simp only[q,q'];show EqAt.str_str _ _ _ _
  ·show aU (eU r') λu q'=>?_;simp only[of_none r,q'];show EqAt.none_str _ _
  ·show aU (eU r) λu q'=>?_;simp only[of_none r',q'];show EqAt.str_none _ _
  ·show dg (kL r) λa cs q1 _ h1 q=>?_
   show dg (kL r') λa' cZ q2 _ jo q'=>?_;rw[q1,q2];show EqAt.of_refs (λz=>hc (by rw[q1,q2,z])) (Fo ih hu h1 jo q q' e)
  ·show dg (me r) λa cs q1 _ h1 q=>?_
   show dg (me r') λa' cZ q2 _ jo q'=>?_;rw[q1,q2];show EqAt.of_refs (λz=>hc (by rw[q1,q2,z])) (Fp ih hu h1 jo q q' e)
abbrev jL(v:V):M V:=λO=>(qG v).elim (some (v,O)) λi=>(O[i]?.bind xm).map λl=>(.lst l,O)
abbrev An(a b:V):M Bool:=do
 let a<-jL a
 let b<-jL b
 bJ (dy 8 a b)
abbrev pP(a b:V):Bool:=(a.sI.isSome&&b.sI.isSome)||(a.pO.isSome&&b.pO.isSome)||(a.sJ.isSome&&b.sJ.isSome)||(a.xk.isSome&&b.xk.isSome)
abbrev Fq(a b:V):M Bool:=do
 let a<-jL a
 let b<-jL b
 if pP a b=true then bJ ((dy 8 a b).map (!·))else au
abbrev V.Ao(v:V):Option Value:=if h:v.ctorIdx=4 then some (V.con.elim (motive_1:=λ_=>Value) v h id)else Option.none
def Fs{v:V}{x:Value}(h:v.Ao =some x):v= .con x:=(nO h).elim λq e=>e▸V.con.elim (motive_1:=λv=>∀q,v= .con (V.con.elim (motive_1:=λ_=>Value) v q id)) v q (λ_ _=>rfl) q
abbrev Ft(v:Value):Option String:=if h:v.ctorIdx=8 then some (Value.type.elim (motive:=λ_=>String) v h id)else none
def Nv{v:Value}{x:String}(h:Ft v=some x):v= .type x:=(nO h).elim λq e=>e▸Value.type.elim (motive:=λv=>∀q,v= .type (Value.type.elim (motive:=λ_=>String) v q id)) v q (λ_ _=>rfl) q
abbrev V.Ap(v:V):Option Bool:=if v.no=true then some true else if v.ctorIdx=4 then v.Ao.bind λc=>if c.ctorIdx=10\/c.ctorIdx=8 then some false else Option.none else some false
abbrev V.Aq(v:V):Option String:=v.Ao.bind Ft
def Fu{v:V}{x:String}(h:v.Aq =some x):v= .con (.type x):=by
 show aj (jH h) λc h1 h2=>?_;rw[Fs h1,Nv h2]
abbrev qI(a b:V):Option Bool:=if a.no=true then b.Ap else if b.no=true then a.Ap else
 if a.uC.isSome=true then a.uC.bind λx=>b.uC.map (x==·)else a.Aq.bind λx=>b.Aq.map (x==·)
abbrev xq(f:Int->Int->Bool)(a b:V):M Bool:=cq a λx=>cq b λy=>pure (f x y)
abbrev Ar(op:CmpOp)(a b:V):M Bool:=match op with
 | .Eq=>An a b
 | .NotEq=>Fq a b
 | .Lt=>xq (λa b=>decide (a<b)) a b
 | .LtE=>xq (λa b=>decide (a<=b)) a b
 | .Gt=>xq (λa b=>decide (b<a)) a b
 | .GtE=>xq (λa b=>decide (b<=a)) a b
 | .Is=>bJ (qI a b)
 | .IsNot=>bJ ((qI a b).map (!·))
 | .In=>fX a λx=>fX b λy=>pure (Txt.contains y x)
 |_=>au
variable{K:W.Frag}{w:World}{A:Around}{env:Env}{J:ab}{O:Hp}
abbrev mQ(h:Heap)(φ:Ph)(v:V)(c:Value):Prop:=ao h φ v c\/∃l a cs,v= .lst l/\c= .ref a/\h.IsList a cs.toArray/\aD h φ l cs
def sM(r:aX w φ O s.heap){v v':V}{c:Value}{aa:Hp}(q:ao s.heap φ v c)(e:jL v O=some (v',aa)):aa=O/\mQ s.heap φ v' c:=by
 replace e:(qG v).elim (some (v,O)) (λi=>(O[i]?.bind xm).map λl=>(V.lst l,O))=some (v',aa):=e
 generalize hv:qG v=o at e;induction o with
 |none=>
  show aI (dh (bN e)) λbY aF=>?_;subst bY;show⟨aF.symm,.inl q⟩
 |some i=>
  cases xl hv;show aj q λa aF hi=>?_;subst aF;show aj (eo e) λl e1 e=>?_;show aj (dj e1) λo hl hx=>?_;show aj (r.objs i a _ hi (hl.trans (aJ some (Nd hx)))) λcs h1 h2=>?_;show aI (dh e) λbY aF=>?_;subst bY;show⟨aF.symm,.inr (qB l a cs rfl rfl h1.isList h2)⟩
def xr{l:List V}{c:Value}(q:mQ s.heap φ (.lst l) c):∃a cs,c= .ref a/\s.heap.IsList a cs.toArray/\aD s.heap φ l cs:=by
 rcases q with q|⟨l,a,cs,h,rfl,h1,h2⟩
 ·show dg (kL q) λa cs ay _ h1 p=>?_;subst ay;show cF a cs rfl h1 p
 ·cases h;show cF a cs rfl h1 h2
def ir{v:V}{c:Value}(q:mQ s.heap φ v c)(h:v.sJ =none):ao s.heap φ v c:=by
 rcases q with q|⟨l,a,cs,rfl,_⟩
 ·show q
 ·cases h
def Nw{v v':V}{c c':Value}{b:Bool}{n:Nat}(hu:A.units+n<cLine)(q:mQ s.heap φ v c)(q':mQ s.heap φ v' c')(e:dy n v v'=some b):RcAt A s c c' b:=by
 induction n with
 |zero=>cases e
 |succ n=>
  show xn (P:=λv v' b=>mQ s.heap φ v c->mQ s.heap φ v' c'->RcAt A s c c' b) (λr r'=>?_) (λx y r r'=>?_) (λx y r r'=>?_) (λx y r r'=>?_) (λy r r'=>?_) (λx r r'=>?_) (λl l' b e r r'=>?_) (λl l' b e r r'=>?_) e q q'
  ·simp only[of_none (ir r rfl),of_none (ir r' rfl)];show RcAt.none_none
  ·simp only[nP (ir r rfl),nP (ir r' rfl)];show RcAt.bool_bool _ _
  ·show aU (iX (ir r rfl)) λt q=>?_;show aU (iX (ir r' rfl)) λu q'=>?_;simp only[q,q'];show RcAt.int_int _ _ _ _
  ·show aU (eU (ir r rfl)) λt q=>?_;show aU (eU (ir r' rfl)) λu q'=>?_;simp only[q,q'];show RcAt.str_str _ _ _ _
  ·show aU (eU (ir r' rfl)) λu q'=>?_;simp only[of_none (ir r rfl),q'];show RcAt.none_str _ _
  ·show aU (eU (ir r rfl)) λu q'=>?_;simp only[of_none (ir r' rfl),q'];show RcAt.str_none _ _
  ·show ck (xr r) λa cs q1 h1 p=>?_
   symm
   show ck (xr r') λa' cZ q2 jo p'=>?_;left;rw[q1,q2];show Fo (xp n) hu h1 jo p p' e
  ·show dg (me (ir r rfl)) λa cs q1 _ h1 p=>?_
   show dg (me (ir r' rfl)) λa' cZ q2 _ jo p'=>?_;rw[q1,q2];show Fp (xp n) hu h1 jo p p' e
def Nx{a b:V}{O aa:Hp}{r:Bool}(e:An a b O=some (r,aa)):∃a' b' ag,jL a O=some (a',ag)/\jL b ag=some (b',aa)/\dy 8 a' b'=some r:=by
 symm
 show br (cy e) λa' ag e1 e=>?_;show br (cy e) λb' aH e2 e=>?_;show aI (lD e) λe3 e4=>?_;left;dsimp only at e3 e4;subst e4;show pL a' b' ag e1 e2 e3
def Ny(hu:A.units+8<cLine)(r:aX w φ O s.heap){a b:V}{ca cb:Value}{aa:Hp}{k:Bool}(ha:ao s.heap φ a ca)(hb:ao s.heap φ b cb)(e:An a b O=some (k,aa)):aa=O/\RcAt A s ca cb k:=by
 show nK (Nx e) λa' b' ag e1 e2 e3=>?_;obtain rfl:=Eq.symm (sM r ha e1).1;obtain rfl:=Eq.symm (sM r hb e2).1;show⟨rfl,Nw hu (sM r ha e1).2 (sM r hb e2).2 e3⟩
def Nz{v v':V}{c c':Value}{b:Bool}{n:Nat}(hu:A.units+n<cLine)(ok:pP v v'=true)(q:mQ s.heap φ v c)(q':mQ s.heap φ v' c')(e:dy n v v'=some b):RcNeAt A s c c' (!b):=by
 induction n with
 |zero=>cases e
 |succ n=>
  show xn (P:=λv v' b=>pP v v'=true->mQ s.heap φ v c->mQ s.heap φ v' c'->RcNeAt A s c c' (!b)) (λk r r'=>nomatch k) (λx y k r r'=>nomatch k) (λx y k r r'=>?_) (λx y k r r'=>?_) (λy k r r'=>nomatch k) (λx k r r'=>nomatch k) (λl l' b e k r r'=>?_) (λl l' b e k r r'=>?_) e ok q q'
  ·show aU (iX (ir r rfl)) λt q=>?_;show aU (iX (ir r' rfl)) λu q'=>?_;simp only[q,q'];show λprog w E Q h=>PyProof.Rows.ne_int h
  ·show aU (eU (ir r rfl)) λt q=>?_;show aU (eU (ir r' rfl)) λu q'=>?_;simp only[q,q'];show λprog w E Q h=>PyProof.Rows.ne_str h
  ·show ck (xr r) λa cs q1 h1 q=>?_
   show ck (xr r') λa' cZ q2 h2 q'=>?_;simp only[q1,q2];by_cases hl:l.length=l'.length
   ·rw[az hl]at e
    obtain⟨_,f,rfl,hf⟩:=uJ _ e;have:=RcNeAt.lists h1 h2 (by simp only[List.size_toArray,List.size_toArray,<-q.length,<-q'.length,hl]) `L (xo (xp n) hu q q' hf)
    rwa [List.size_toArray,<-q.length]at this
   ·rw[aN hl]at e
    cases e;show RcNeAt.lists_lengths h1 h2 (by simp only[List.size_toArray,List.size_toArray,<-q.length,<-q'.length];simpa using hl) `L
  ·show dg (me (ir r rfl)) λa cs q1 _ h1 p=>?_
   show dg (me (ir r' rfl)) λa' cZ q2 _ jo p'=>?_;simp only[q1,q2];obtain⟨hl,f,rfl,hf⟩:=uJ _ e;have:=RcNeAt.tuples (A:=A) h1 jo `L (xo (xp n) hu p p' hf);simpa only[List.size_toArray,(by simp only[<-p.length,<-p'.length,hl]:cs.length=cZ.length),Nat.min_self,beq_self_eq_true,Bool.and_true,<-p'.length,<-hl]using this
def NA(hu:A.units+8<cLine)(r:aX w φ O s.heap){a b:V}{ca cb:Value}{aa:Hp}{k:Bool}(ha:ao s.heap φ a ca)(hb:ao s.heap φ b cb)(e:Fq a b O=some (k,aa)):aa=O/\RcNeAt A s ca cb k:=by
 show br (cy e) λa' ag e1 e=>?_;show br (cy e) λb' aH e2 e=>?_;show aI (fO e) λok e=>?_;show aI (lD e) λe3 e4=>?_;dsimp only at e3 e4;subst e4;show aj (eo e3) λaba e5 ay=>?_;subst ay;show aI (sM r ha e1) λbY q1=>?_;subst bY;show aI (sM r hb e2) λbY q2=>?_;subst bY;show⟨rfl,Nz hu ok q1 q2 e5⟩
def NB{v:V}(r:ao s.heap φ v .none):v.no=true\/v.ctorIdx=4:=by
 cases v with
 |none=>show .inl rfl
 |con d=>show .inr rfl
 |bool _=>show(nomatch nP r)
 |int _=>show aU (iX r) λ_ x=>(nomatch x)
 |str _=>show aU (eU r) λ_ x=>(nomatch x)
 |lst _=>show br (kL r) λ_ _ x _=>(nomatch x)
 |tup _=>show br (me r) λ_ _ x _=>(nomatch x)
 |dU _ _ _=>show zZ r λ_ _ _ _ x _=>(nomatch x)
 |dO _ _=>show br r λ_ _ x _=>(nomatch x)
 |fK _=>show br r λ_ _ x _=>(nomatch x)
 |ref _=>delta ao at r;show aj r λ_ x _=>(nomatch x)
def Fv{v:V}{c:Value}{k:Bool}(r:ao s.heap φ v c)(e:v.Ap =some k):c= .none/\k=true\/(∀p:Prop,c= .none->p)/\k=false:=by
 by_cases h0:v.no=true
 ·show .inl ⟨of_none (uE h0▸r),(bN ((az h0).symm.trans e)).symm⟩
 replace e:=(aN h0).symm.trans e
 by_cases h1:v.ctorIdx=4
 ·replace e:=(az h1).symm.trans e
  show aj (jH e) λd hd e1=>?_;show aI (fi e1) λhc e2=>?_;clear e1 e h1 h0;cases Fs hd;clear hd;subst r;show .inr ⟨λp q=>absurd hc (q▸by decide),(bN e2).symm⟩
 ·show .inr ⟨λp q=>absurd (NB (q▸r)) λo=>o.elim h0 h1,(bN ((aN h1).symm.trans e)).symm⟩
def Fw{a b:V}{ca cb:Value}{k:Bool}(ha:ao s.heap φ a ca)(hb:ao s.heap φ b cb)(e:qI a b=some k){E:Value->Shared->Prop}{Q:Bool->Shared->Prop}(q:Q k s):
  wpAny (Mo w) A (isSame ca cb) Q E s:=by
 unfold qI at e;by_cases an:a.no=true
 ·rw[az an]at e
  cases uE an;rw[of_none ha];rcases Fv hb e with⟨rfl,rfl⟩|⟨h,rfl⟩
  ·show wpAny_of_eq (rfl:isSame .none .none=pure true) q
  ·show wpAny_of_eq (show isSame .none cb=pure false by induction cb<;>first|show h _ rfl|rfl) q
 rw[aN an]at e;clear an;by_cases bn:b.no=true
 ·rw[az bn]at e
  cases uE bn;rw[of_none hb];rcases Fv ha e with⟨rfl,rfl⟩|⟨h,rfl⟩
  ·show wpAny_of_eq (rfl:isSame .none .none=pure true) q
  ·show wpAny_of_eq (show isSame ca .none=pure false by induction ca<;>first|show h _ rfl|rfl) q
 rw[aN bn]at e;clear bn;split at e
 ·show aj (jH e) λx e1 e=>?_
  show aj (eo e) λy e2 ay=>?_;subst ay;cases Aj e1;cases Aj e2;rw[nP ha,nP hb];show wpAny_of_eq (by induction x<;>induction y<;>rfl:isSame (.bool x) (.bool y)=pure (x==y)) q
 ·show aj (jH e) λx e1 e=>?_
  show aj (eo e) λy e2 ay=>?_;subst ay;cases Fu e1;cases Fu e2;rw[ha,hb];have:(Value.type x==Value.type y)=(x==y):=by
   by_cases jq:x=y
   ·subst jq;simp
   ·simp only[gm jq];show gm λz=>jq (Value.type.inj z)
  show wpAny_of_eq (rfl) (this▸q)
def Fx(op:CmpOp)(hu:A.units+8<cLine)(a b:V)(ca cb:Value)(r:aX w φ O s.heap)(ha:ao s.heap φ a ca)(hb:ao s.heap φ b cb):cn w A φ O s (compareOp op ca cb) (Ar op a b) λ_ _ k c=>c= .bool k:=by
 have fin:∀k,∃aB,Step φ s aB s/\aX w aB O s.heap/\(Value.bool k:Value)= .bool k:=λk=>bj φ (.refl ..) r rfl;induction op with
 |Eq=>intro k aa e;show aI (Ny hu r ha hb e) λbY h=>?_;subst bY;show h PG w _ _ (fin k)
 |NotEq=>intro k aa e;show aI (NA hu r ha hb e) λbY h=>?_;subst bY;show h PG w _ _ (fin k)
 |Lt=>show .iJ (T:=compareOp .Lt) ha hb λ_ _ _ _=> .one (PyProof.Rows.lt_int (fin _))
 |LtE=>show .iJ (T:=compareOp .LtE) ha hb λ_ _ _ _=> .one (PyProof.Rows.le_int (fin _))
 |Gt=>show .iJ (T:=compareOp .Gt) ha hb λ_ _ _ _=> .one (PyProof.Rows.gt_int (fin _))
 |GtE=>show .iJ (T:=compareOp .GtE) ha hb λ_ _ _ _=> .one (PyProof.Rows.ge_int (fin _))
 |Is=>
  intro k aa e;show aI (lD e) λe1 aF=>?_;subst aF;show ax (Fw ha hb e1 (aW (fin k)))
 |IsNot=>
  intro k aa e;show aI (lD e) λe1 aF=>?_;subst aF;show aj (eo e1) λk' e3 ay=>?_;subst ay;show ax (Fw ha hb e3 (aW (fin _)))
 |In=>show .fX (T:=λc=>compareOp .In c cb) ha λx t=> .fX (T:=compareOp .In _) hb λy u=> .one (SB.contains (fin _))
 |_=>show .fail
end
end Mine
namespace Mine
open PySem PySem.Spec PySem.Calls PyProof.Rows
inductive fo{α β:Type}(R:α->β->Prop):List α->List β->Prop
 |nil:fo R [] []
 |cons {a b l l'}:R a b->fo R l l'->fo R (a::l) (b::l')
abbrev mR:V->M Bool
 | .none=>pure false
 | .bool b=>pure b
 | .int i=>pure (i !=0)
 | .str x=>if cg x=true then pure ((x.length:Int) !=0)else au
 | .lst l=>if l.length<=1000000 then pure (!l.isEmpty)else au
 | .ref i=>λO=>match O[i]?with
  |some (.list l)=>if l.length<=1000000 then some (!l.isEmpty,O)else none
  |_=>none
 |_=>au
section
variable{K:W.Frag}{w:World}{A:Around}{env:Env}{J:ab}{φ:Ph}{O:Hp}{s:Shared}
def Fy{a:Addr}{l:List V}{cs:List Value}{Q:Bool->Shared->Prop}{E:Value->Shared->Prop}(hl:s.heap.IsList a cs.toArray)(q:aD s.heap φ l cs)(hz:l.length<=1000000)(h:Q (!l.isEmpty) {s with toks:=s.toks+1+1}):
  wpAny (Mo w) A (truthy (.ref a)) Q E s:=by
 show wpAny_truthy_list hl (by simp only[List.size_toArray,<-q.length];lia) ?_;have:cs.toArray.isEmpty=l.isEmpty:=by
  rw[List.isEmpty_toArray];have:=q.length;cases l<;>cases cs<;>simp_all
 simp only[this];show h
set_option tactic.hygienic true in
def NC{i:Nat}{O:Hp}{p:Bool×Hp}(e:mR (.ref i) O=some p):∃l,O[i]? =some (.list l)/\l.length<=1000000/\some (!l.isEmpty,O)=some p:=by
 replace e:(match O[i]?with|some (.list l)=>if l.length<=1000000 then some (!l.isEmpty,O)else none|_=>none)=some p:=e
 show aj (z5 e) λl hl e=>?_;show aA l hl (fi e)
def ND(v:V)(c:Value)(r:aX w φ O s.heap)(q:ao s.heap φ v c):cn w A φ O s (truthy c) (mR v) λ_ _ b a=>a=b:=by
 cases v with
 |none=>cases of_none q;show .one (truthy_none (bj φ (.refl ..) r rfl))
 |bool x=>cases nP q;show .one (wpAny_truthy_bool (bj φ (.refl ..) r rfl))
 |int i=>show aU (iX q) λt aF=>?_;subst aF;show .one (PyProof.Rows.truthy_int (bj φ (.refl ..) r rfl))
 |str x=>
  show aU (eU q) λt aF=>?_;subst aF;show .guard λh0=> .one (P.truthy_str (by have:=md h0;lia) (bj φ .toks r rfl))
 |lst l=>
  show dg (kL q) λa cs ay _ h1 p=>?_;subst ay;show .guard λh0=> .one (Fy h1 p h0 (bj φ .toks r rfl))
 |ref i=>
  show aj q λa aF hi=>?_;subst aF;intro b aa e;show bK (NC e) λl hl h0 e=>?_;show aj (r.objs i a _ hi hl) λcs h1 p=>?_;apply g4 (bN e);show Fy h1.isList p h0 (bj φ .toks r rfl)
 |_=>show .fail
noncomputable abbrev gp(K:W.Frag)(w:World)(A:Around)(env:Env)(J:ab)(t:Sem Bool)(m:M Bool):Prop:=
 ∀φ O s,bW K w env J φ O s->cn w A φ O s t m λ_ _ b a=>a=b
def Fz{e:Expr}{t:Sem Value}{m:M V}(h:Ev K w A env J t m):gp K w A env J (do let v<-t;standAt e.pos;holding [v] (truthy v)) (do let v<-m;mR v):=by
 intro φ O s n;show .bind (h φ O s n) λba ag aw c v aP aS p=>?_;show .standAt (.holding (ND v c aS p))
def NF{x:Expr}{pos:Pos}{t:Sem Value}{m:M Bool}(h:gp K w A env J (isTrue x env (eval x env)) m):gp K w A env J (isTrue (.UnaryOp .Not x pos) env t) (do let b<-m;pure (!b)):=by
 intro φ O s n;show .bind (h φ O s n) λba ag aw a b aP aS p=>?_;subst p;show .pure aS rfl
def NG{x y z:Expr}{pos:Pos}{t:Sem Value}{m₁ m₂ iY:M Bool}(fE:gp K w A env J (isTrue x env (eval x env)) m₁)(c0:gp K w A env J (isTrue y env (eval y env)) m₂)(g7:gp K w A env J (isTrue z env (eval z env)) iY):
  gp K w A env J (isTrue (.IfExp x y z pos) env t) (do let b<-m₁;if b=true then m₂ else iY):=by
 intro φ O s n;show .bind (fE φ O s n) λba ag aw a b aP aS p=>?_;subst p;induction a with
 |true=>show c0 ba ag aw (n.step aP aS)
 |false=>show g7 ba ag aw (n.step aP aS)
def NH{x y z:Expr}{pos:Pos}{m₁:M Bool}{m₂ iY:M V}(fE:gp K w A env J (isTrue x env (eval x env)) m₁)(c0:Ev K w A env J (eval y env) m₂)(g7:Ev K w A env J (eval z env) iY):
  Ev K w A env J (eval (.IfExp x y z pos) env) (do let b<-m₁;if b=true then m₂ else iY):=by
 intro φ O s n;show .bind (fE φ O s n) λba ag aw a b aP aS p=>?_;subst p;induction a with
 |true=>show c0 ba ag aw (n.step aP aS)
 |false=>show g7 ba ag aw (n.step aP aS)
abbrev eu:BoolOp->List (M Bool)->M Bool
 |op,[]=>pure (op== .And)
 | .And,m::r=>do let b<-m;if b=true then eu .And r else pure false
 | .Or,m::r=>do let b<-m;if b=true then pure true else eu .Or r
def NI{op:BoolOp}{es:List Expr}{ms:List (M Bool)}(q:fo (λe m=>gp K w A env J (isTrue e env (eval e env)) m) es ms):gp K w A env J (allTrue op es env) (eu op ms):=by
 induction q with
 |nil=>
  intro φ O s n;induction op<;>show .pure n.rel rfl
 |cons h q ih=>
  intro φ O s n;rw[arm_allTrue_cons];induction op with
  |And=>
   show .bind (h φ O s n) λba ag aw a b aP aS p=>?_;subst p;induction a with
   |true=>show ih ba ag aw (n.step aP aS)
   |false=>show .pure aS rfl
  |Or=>
   show .bind (h φ O s n) λba ag aw a b aP aS p=>?_;subst p;induction a with
   |true=>show .pure aS rfl
   |false=>show ih ba ag aw (n.step aP aS)
noncomputable abbrev uK(K:W.Frag)(w:World)(A:Around)(gC:CmpOp->V->V->M Bool):Prop:=
 ∀op a b ca cb φ O s,aX w φ O s.heap->cO K φ s.heap->ao s.heap φ a ca->ao s.heap φ b cb->cn w A φ O s (compareOp op ca cb) (gC op a b) λ_ _ k c=>c= .bool k
abbrev iK(gC:CmpOp->V->V->M Bool):V->List CmpOp->List (M V)->M Bool
 |a,[op],[m]=>do let b<-m;gC op a b
 |a,op::sN::c5,m::m'::ms=>do let b<-m;let c<-gC op a b;if c=true then iK gC b (sN::c5) (m'::ms)else pure false
 |_,_,_=>au
def FA{α β:Type}{vs ks:List Value}{t:Sem α}{m:M β}{R:Heap->Ph->β->α->Prop}(h:cn w A φ O s t m R):cn w A φ O s (do release vs ks;t) m R:=λb aa e=>ax (wpAny_release' (h b aa e))
def FC{α β:Type}{vs:List Value}{k:Bool}{f:Bool->Sem α}{m:M β}{R:Heap->Ph->β->α->Prop}(h:cn w A φ O s (f k) m R):cn w A φ O s (do let b<-holding vs (truthy (.bool k));f b) m R:=λb aa e=>
 ax (eM (wpAny_truthy_bool (h b aa e)))
def NJ{gC:CmpOp->V->V->M Bool}(hC:uK K w A gC){pos:Pos}{c5:List CmpOp}{ts:List (Sem Value)}{ms:List (M V)}(q:fo (Ev K w A env J) ts ms):∀(a:V) (ca:Value) φ O s,bW K w env J φ O s->ao s.heap φ a ca->
  cn w A φ O s (compareChain pos ca c5 ts) (iK gC a c5 ms) λ_ _ k c=>c= .bool k:=by
 induction q generalizing c5 with
 |nil=>intro a ca φ O s n p;cases c5 with
  |nil=>show .fail
  |cons op c5=>induction c5<;>show .fail
 | @cons t m ts ms h q ih=>
  intro a ca φ O s n p;cases c5 with
  |nil=>show .fail
  |cons op c5=>
   cases c5 with
   |nil=>
    symm
    induction q with
    |nil=>
     left;show .bind (.holding (h φ O s n)) λba ag aw cb b aP aS pb=>?_;show .standAt (.operate (hC op a b ca cb _ _ _ aS (n.base.step aP) (p.step aP) pb))
    |cons _ _=>left;show .fail
   |cons sN c5=>
    induction q with
    |nil=>show .fail
    |cons h' q=>
     show .bind (.holding (h φ O s n)) λba ag aw cb b aP aS pb=>?_;show .standAt (.bind (.holding (hC op a b ca cb _ _ _ aS (n.base.step aP) (p.step aP) pb)) λcB aH a8 cc k bu ct pk=>?_);subst pk;show FA (FC ?_);induction k with
     |true=>show ih b cb cB aH a8 ((n.step aP aS).step bu ct) (pb.step bu)
     |false=>show .pure ct rfl
def NL{gC:CmpOp->V->V->M Bool}(hC:uK K w A gC){pos:Pos}{c5:List CmpOp}{ts:List (Sem Value)}{ms:List (M V)}(q:fo (Ev K w A env J) ts ms):∀(a:V) (ca:Value) φ O s,bW K w env J φ O s->ao s.heap φ a ca->
  cn w A φ O s (testChain pos ca c5 ts) (iK gC a c5 ms) λ_ _ k c=>c=k:=by
 induction q generalizing c5 with
 |nil=>intro a ca φ O s n p;cases c5 with
  |nil=>show .fail
  |cons op c5=>induction c5<;>show .fail
 | @cons t m ts ms h q ih=>
  intro a ca φ O s n p;cases c5 with
  |nil=>show .fail
  |cons op c5=>
   cases c5 with
   |nil=>
    symm
    induction q with
    |nil=>
     left;show .bind (.holding (h φ O s n)) λba ag aw cb b aP aS pb=> .standAt λk aa e=>?_;show fN λQ hQ=>?_;show ax (bg (bc.operate (hC op a b ca cb _ _ _ aS (n.base.step aP) (p.step aP) pb) k aa e) (λc s' xt=>bK xt λaB x r q=>?_) λ_ _ x=>x);clear xt;subst q;show eM (wpAny_truthy_bool (hQ _ _ (bj aB x r rfl)))
    |cons _ _=>left;show .fail
   |cons sN c5=>
    induction q with
    |nil=>show .fail
    |cons h' q=>
     show .bind (.holding (h φ O s n)) λba ag aw cb b aP aS pb=>?_;show .standAt (.bind (.holding (hC op a b ca cb _ _ _ aS (n.base.step aP) (p.step aP) pb)) λcB aH a8 cc k bu ct pk=>?_);subst pk;show FA (FC ?_);induction k with
     |true=>show ih b cb cB aH a8 ((n.step aP aS).step bu ct) (pb.step bu)
     |false=>show .pure ct rfl
def NM{gC:CmpOp->V->V->M Bool}(hC:uK K w A gC){l:Expr}{c5:List CmpOp}{es:List Expr}{pos:Pos}{m:M V}{ms:List (M V)}(hm:lastMarks c5 es=false)(h:Ev K w A env J (eval l env) m)(hs:fo (Ev K w A env J) (evalEach es env) ms):
  Ev K w A env J (eval (.Compare l c5 es pos) env) (do let a<-m;let k<-iK gC a c5 ms;pure (.bool k)):=by
 intro φ O s n;simp only[arm_eval_Compare,markedEach_of_false _ _ _ hm];show .bind (h φ O s n) λba ag aw ca a aP aS p=>?_;intro v aa e
 symm
 show br (cy e) λk aH e1 e2=>?_;cases fh e2;left;show bg (NJ hC hs a ca ba ag aw (n.step aP aS) p k _ e1) (λc s' NN=>bK NN λaB x r q=>bj aB x r (by subst q;show Nj)) λ_ _ x=>x
def NO{gC:CmpOp->V->V->M Bool}(hC:uK K w A gC){l:Expr}{c5:List CmpOp}{es:List Expr}{pos:Pos}{t:Sem Value}{m:M V}{ms:List (M V)}(hm:lastMarks c5 es=false)(h:Ev K w A env J (eval l env) m)(hs:fo (Ev K w A env J) (evalEach es env) ms):
  gp K w A env J (isTrue (.Compare l c5 es pos) env t) (do let a<-m;iK gC a c5 ms):=by
 intro φ O s n;simp only[arm_isTrue_Compare,markedEach_of_false _ _ _ hm];show .bind (h φ O s n) λba ag aw ca a aP aS p=>NL hC hs a ca ba ag aw (n.step aP aS) p
abbrev dR:List (M V)->M (List V)
 |[]=>pure []
 |m::r=>do let v<-m;let l<-dR r;pure (v::l)
def uL{ts:List (Bool×Sem Value)}{ms:List (M V)}(q:fo (λt m=>t.1=false/\Ev K w A env J t.2 m) ts ms):∀φ O s,bW K w env J φ O s->cn w A φ O s (spliced ts) (dR ms) λh φ l cs=>aD h φ l cs:=by
 induction q with
 |nil=>intro φ O s n;show .pure n.rel (by delta aD;rfl)
 | @cons t m ts ms h q ih=>
  intro φ O s n l aa e;obtain⟨st,t⟩:=t;obtain⟨h0,h⟩:=h;dsimp only at h0 h;subst h0;show spliced_cons ?_
  symm
  show br (cy e) λv ag e1 e=>?_;show br (cy e) λl' aH e2 e=>?_;cases fh e;left;show bg (h φ O s n v ag e1) (λc aw As=>bK As λba aP aS p=>?_) λ_ _ x=>x;show bg (ih ba ag aw (n.step aP aS) l' _ e2) (λcs a8 NP=>bK NP λcB bu ct ps=>?_) λ_ _ x=>x;show bj cB (aP.trans bu) ct (by show cF c cs rfl (p.step bu) ps)
def NQ{pos:Pos}{ts:List (Bool×Sem Value)}{ms:List (M V)}(q:fo (λt m=>t.1=false/\Ev K w A env J t.2 m) ts ms):fo (λt m=>t.1=false/\Ev K w A env J t.2 m) (backTo pos ts) ms:=by
 induction q with
 |nil=>show .nil
 | @cons t m ts ms h q ih=>
  obtain⟨st,t⟩:=t;obtain⟨h0,h⟩:=h;dsimp only at h0 h;subst h0;show .cons ⟨rfl,h⟩ ih
def NR{ts:List (Bool×Sem Value)}{ms:List (M V)}{pos:Pos}(h:fo (λt m=>t.1=false/\Ev K w A env J t.2 m) ts ms):Ev K w A env J (do standAt pos;newList (<-spliced ts)) (do let l<-dR ms;if l.length<=1000000 then pure (.lst l)else au):=by
 intro φ O s n;show .standAt (.bind (uL h φ O s n) λba ag aw cs l aP aS p=>?_);intro v aa e;show aI (fO e) λhz e=>?_;cases fh e;show wpAny_newObj_type (done (tk:=aw.toks) aS (er _) (uF aS p)) (by change cs.toArray.size<=sizeLine;simp only[List.size_toArray,<-p.length];show jJ (by show a9 `A `D))
def NS{ts:List (Bool×Sem Value)}{ms:List (M V)}{pos:Pos}(h:fo (λt m=>t.1=false/\Ev K w A env J t.2 m) ts ms):Ev K w A env J (do standAt pos;newTuple (<-spliced ts)) (do let l<-dR ms;if l.length<=1000000 then pure (.tup l)else au):=by
 intro φ O s n;show .standAt (.bind (uL h φ O s n) λba ag aw cs l aP aS p=>?_);intro v aa e;show aI (fO e) λhz e=>?_;cases fh e;show wpAny_newObj_type (done (tk:=aw.toks) aS (er _) (Ni aS p)) (by change cs.toArray.size<=sizeLine;simp only[List.size_toArray,<-p.length];show jJ (by show a9 `A `D))
abbrev g8:V->Hp->Option (List V)
 | .lst l,_=>some l
 | .ref j,O=>match O[j]?with
  |some (.list l)=>some l
  |_=>none
 |_,_=>none
abbrev NT(x:Str)(i:Int):M V:=if 0<=i/\i<x.length/\cg x=true then pure (.str (Txt.item x i))else au
abbrev lF(l:List V)(i:Int):M V:=if 0<=i/\l.length<=1000000 then bJ l[i.toNat]?else au
abbrev getM(a:V)(x:Str):M V:=λO=>match a with
 | .ref j=>match O[j]?with
  |some (.dict l)=>(l.lookup x).map (·,O)
  |_=>none
 |_=>none
abbrev jM(a i:V):M V:=match i with
 | .int i=>match a with
  | .str x=>NT x i
  | .tup l=>lF l i
  |a=>λO=>match g8 a O with
   |some l=>lF l i O
   |none=>none
 | .str x=>getM a x
 |_=>au
abbrev uM:V->Option (Option Int)
 | .none=>some none
 | .int i=>some (some i)
 |_=>none
abbrev Au(l:List V)(lo hi:Option Int):M V:=lo.elim (hi.elim au λb=>if 0<=b/\l.length<=1000000 then pure (.lst (l.take b.toNat))else au) λb=>hi.elim (if 0<=b/\l.length<=1000000 then pure (.lst (l.drop b.toNat))else au) λ_=>au
abbrev xu(a:V)(f:List V->M V):M V:=λO=>(g8 a O).elim none λl=>f l O
abbrev sO(a:V)(lo hi:Option Int):M V:=if h:a.ctorIdx=3 then V.str.elim (motive_1:=λ_=>M V) a h λx=>if cg x=true then pure (.str (Txt.slice x lo hi))else au else xu a λl=>Au l lo hi
abbrev nQ(a lo hi:V):M V:=(uM lo).elim au λlo=>(uM hi).elim au λhi=>sO a lo hi
def aD.take{h:Heap}{φ:Ph}:∀{l:List V} {cs:List Value},aD h φ l cs->∀n,aD h φ (l.take n) (cs.take n)
 |_,_,_,0=>by delta aD;rfl
 |[],_,r,n+1=>by delta aD at r;subst r;show(by rfl:aD h φ [] [])
 |v::l,_,r,n+1=>by
  show ck r λc q ay h1 h2=>?_;subst ay;show cF c _ rfl h1 (h2.take n)
def aD.drop{h:Heap}{φ:Ph}:∀{l:List V} {cs:List Value},aD h φ l cs->∀n,aD h φ (l.drop n) (cs.drop n)
 |_,_,r,0=>by show r
 |[],_,r,n+1=>by delta aD at r;subst r;show(by delta aD;rfl:aD h φ [] [])
 |v::l,_,r,n+1=>by
  show ck r λc q ay h1 h2=>?_;subst ay;show h2.drop n
set_option tactic.hygienic true in
def NU(slice:Expr)(o i:Value):subscripted slice false o i=operate [i,o] (getItem o i)\/subscripted slice false o i=operate [o,i] (getItem o i):=by
 show Expr.casesOn (motive_1:=λe=>subscripted e false o i=operate [i,o] (getItem o i)\/subscripted e false o i=operate [o,i] (getItem o i)) slice ?_ ?_ ?_ ?_ ?_ ?_ ?_ ?_ ?_ ?_ ?_ ?_ ?_ ?_ ?_ ?_ ?_ ?_ ?_ ?_ ?_ ?_ ?_ ?_ ?_ ?_ ?_<;>intros<;>first|show .inr rfl|(rename_i c _;show Option.casesOn (motive:=λc=>subscripted (.Slice _ _ c _) false o i=operate [i,o] (getItem o i)\/subscripted (.Slice _ _ c _) false o i=operate [o,i] (getItem o i)) c (.inl rfl) λ_=> .inr rfl)
def qJ{value slice:Expr}{o i:Value}{T id:String}{Q:Value->Shared->Prop}{E:Value->Shared->Prop}(hT:s.TypeIs o T)(hl:typeLookup (.type T) "__getitem__"=pure (some (.builtin id)))
  (h:wpAny (Mo w) A (getItem o i) Q E s):wpAny (Mo w) A (do let r<-subscripted slice (<-getitemInPython o) o i;letTemporaryGo value o r;pure r) Q E s:=by
 show ax ?_;rw[getitemInPython_of_ne hT.not_modules];show ax (wpAny_specialOf hT hl ?_);have fin:wpAny (Mo w) A (subscripted slice false o i) (λr cN=>wpAny (Mo w) A (letTemporaryGo value o r>>=λ_=>pure r) Q E cN) E s:=by
  rcases NU slice o i with e|e<;>rw[e]<;>
   show wpAny_operating (bg h (λr cN g7=>ax (wpAny_letTemporaryGo (aW g7))) λ_ _ x=>x)
 first
  |show aW (ax fin)
  |show ax (aW (ax fin))
  |show ax fin
def NV{a:Addr}{l:List V}{cs:List Value}{i:Int}{u:Tok}{v:V}{value slice:Expr}{Q E:Value->Shared->Prop}(h1:s.heap.IsList a cs.toArray)(p:aD s.heap φ l cs)(h0:0<=i/\l.length<=1000000)(e:l[i.toNat]? =some v)
  (q:∀c,ao s.heap φ v c->Q c s):wpAny (Mo w) A (do let r<-subscripted slice (<-getitemInPython (.ref a)) (.ref a) (.int i u);letTemporaryGo value (.ref a) r;pure r) Q E s:=by
 show aj (p.get e) λc e' pc=>?_;have bR:=(cQ e).1;show qJ h1.typeIs slot_list_getitem.lookup (wpAny_getItem_list h1 h0.1 (by have:=h0.2;lia) (by simpa using e') (q c pc))
def cO.Av{K:W.Frag}{h:Heap}(b:cO K φ h){a:Addr}(ha:a∈φ.m):(a==sysModules)=false:=by
 rw[beq_eq_false_iff_ne];rintro rfl;show b.Aa.1.1 ha
set_option tactic.hygienic true in
def Aw{v:V}{c:Value}{l:List V}(r:aX w φ O s.heap)(q:ao s.heap φ v c)(e:g8 v O=some l):∃a cs,c= .ref a/\s.heap.IsList a cs.toArray/\aD s.heap φ l cs:=by
 cases v with
 |lst l'=>cases e;show dg (kL q) λa cs h1 _ h2 h3=>?_;show cF a cs h1 h2 h3
 |ref j=>
  show aj q λa aF hj=>?_;subst aF;show aj (z5 e) λl' hl e=>?_;rw[<-bN e];show aj (r.objs _ a _ hj hl) λcs h1 p=>?_;show cF a cs rfl h1.isList p
 |_=>cases e
set_option tactic.hygienic true in
def bc.FD{α β:Type}{Y:List Addr}{t:Sem α}{o:Option β}{R:Heap->Ph->β->α->Prop}(h:∀b,o=some b->bc Y w A φ O s t (Pure.pure b:M β) R):bc Y w A φ O s t (bJ o) R:=by
 induction o with
 |none=>show .fail
 |some b=>show h b rfl
def item_list{value slice:Expr}{a:V}{ca:Value}{i:Int}{u:Tok}(r:aX w φ O s.heap)(ha:ao s.heap φ a ca):
  cn w A φ O s (do let r<-subscripted slice (<-getitemInPython ca) ca (.int i u);letTemporaryGo value ca r;pure r) ((λO=>match g8 a O with|some l=>lF l i O|none=>none:M V)) λh φ v c=>ao h φ v c:=by
 intro v aa e;dsimp only at e;generalize hl:g8 a O=o at e;induction o with
 |none=>cases e
 |some l=>
  show ck (Aw r ha hl) λb cs ay h1 p=>?_;subst ay;show(bc.guard λh0=> .FD λv e1=> .one (NV h1 p h0 e1 λc pc=>cC r pc):cn w A φ O s _ (lF l i) λh φ v c=>ao h φ v c) v aa e
def get_some{a:V}{x:Str}{O:Hp}{p:V×Hp}(e:getM a x O=some p):∃j l,a= .ref j/\O[j]? =some (.dict l)/\l.lookup x=some p.1/\O=p.2:=by
 cases a<;>first|show fD e|(
  show aj (MV e) λl hl e=>?_;show aj (eo e) λv' e1 e2=>?_;show fC _ l rfl hl (e2▸e1) (e2▸rfl))
def NW{value slice:Expr}(a i:V)(ca ci:Value)(r:aX w φ O s.heap)(ha:ao s.heap φ a ca)(hi:ao s.heap φ i ci):
  cn w A φ O s (do let r<-subscripted slice (<-getitemInPython ca) ca ci;letTemporaryGo value ca r;pure r) (jM a i) λh φ v c=>ao h φ v c:=by
 cases i with
 |int i=>
  show aU (iX hi) λu aF=>?_;subst aF;clear hi;cases a with
  |str x=>
   show aU (eU ha) λt aF=>?_;subst aF;show .guard λh0=> .one ?_;have hs:=md h0.2.2;have k1:fitsSsize i=true:=fitsSsize_of (N:=9223372036854775808) `L `L (Int.le_refl _);show ck (SB.item (prog:=PG) (w:=w) (A:=A) (E:=λ_ _=>False) (s:=s) (t:=t) (u:=u) (Q:=λv s'=>∃aB,Step φ s aB s'/\aX w aB O s'.heap/\ao s'.heap aB (.str (Txt.item x i)) v) k1 (charAt_isSome `L h0.2.1) (cC r jK)) λT id hl hT hg=>?_;show qJ hT hl hg
  |tup l=>
   show dg (me ha) λt cs ay _ h1 p=>?_;subst ay;show .guard λh0=> .FD λv e1=> .one ?_;show aj (p.get e1) λc e' pc=>?_;have bR:=(cQ e').1;have hl:=p.length;have:=h0.2;have k3:=seqIndex_of (k:=i) (n:=cs.toArray.size) h0.1 (by rw[List.size_toArray];lia);show qJ h1.typeIs slot_tuple_getitem.lookup (getItem_tuple h1 `L `L k3 (by simpa using e') (cC r pc))
  |_=>show item_list r ha
 |str x=>
  show aU (eU hi) λu aF=>?_;subst aF;intro v aa e;show dg (get_some e) λj l ea hl e1 e2=>?_;subst ea e2;show aj ha λb aF hj=>?_;subst aF;show bK (r.objs _ b _ hj hl) λf h1 _ h3=>?_;have:=h3 x;rw[e1]at this;show aj this λc e3 pc=>?_;show qJ h1.typeIs slot_dict_getitem.lookup (wpAny_getItem_of (strKind_is PG w x u) h1.mapOf e3 (cC r pc))
 |_=>show .fail
def FE{x i:Expr}{pos:Pos}{m m':M V}(hx:Ev K w A env J (eval x env) m)(hi:Ev K w A env J (eval i env) m'):
  Ev K w A env J (eval (.Subscript x i pos) env) (do let a<-m;let b<-m';jM a b):=by
 intro φ O s n;show .bind (hx φ O s n) λba ag aw ca a aP aS pa=>?_;show .bind (.holding (hi ba ag aw (n.step aP aS))) λcB aH a8 cb b bu ct pb=>?_;show .standAt (NW a b ca cb ct (pa.step bu) pb)
def slice_list{a sl:Addr}{l:List V}{cs:List Value}{b:Int}{u:Tok}{value slice:Expr}(r:aX w φ O s.heap)(h1:s.heap.IsList a cs.toArray)(p:aD s.heap φ l cs)(h0:0<=b/\l.length<=1000000)
  (hs:s.heap.IsSliceOf sl .none (.int b u) .none):
  wpAny (Mo w) A (do let r<-subscripted slice (<-getitemInPython (.ref a)) (.ref a) (.ref sl);letTemporaryGo value (.ref a) r;pure r)
   (λc s'=>∃aB,Step φ s aB s'/\aX w aB O s'.heap/\ao s'.heap aB (.lst (l.take b.toNat)) c) (λ_ _=>False) s:=by
 show qJ h1.typeIs slot_list_getitem.lookup (wpAny_getItem_list_slice h1 hs .none (.int b u) .none `S ?_ (jJ (by simp only[List.size_toArray,<-p.length];have:=h0.2;show a9 `A `D)));have e:slicePick cs.toArray none (some b) none=(cs.take b.toNat).toArray:=by
  have:=slicePick_upto' cs.toArray b.toNat
  rw[Int.toNat_of_nonneg h0.1]at this;simpa using this
 show(e)▸(done (tk:=s.toks) r (er _) (uF r (p.take _)))
def NX{a sl:Addr}{l:List V}{cs:List Value}{b:Int}{u:Tok}{value slice:Expr}(r:aX w φ O s.heap)(h1:s.heap.IsList a cs.toArray)(p:aD s.heap φ l cs)(h0:0<=b/\l.length<=1000000)
  (hs:s.heap.IsSliceOf sl (.int b u) .none .none):
  wpAny (Mo w) A (do let r<-subscripted slice (<-getitemInPython (.ref a)) (.ref a) (.ref sl);letTemporaryGo value (.ref a) r;pure r)
   (λc s'=>∃aB,Step φ s aB s'/\aX w aB O s'.heap/\ao s'.heap aB (.lst (l.drop b.toNat)) c) (λ_ _=>False) s:=by
 show qJ h1.typeIs slot_list_getitem.lookup (wpAny_getItem_list_slice h1 hs (.int b u) .none .none `S ?_ (jJ (by simp only[List.size_toArray,<-p.length];have:=h0.2;show a9 `A `D)));have e:slicePick cs.toArray (some b) none none=(cs.drop b.toNat).toArray:=by
  have:=slicePick_from' cs.toArray b.toNat
  rw[Int.toNat_of_nonneg h0.1]at this;simpa using this
 show(e)▸(done (tk:=s.toks) r (er _) (uF r (p.drop _)))
def FF{v:V}{c:Value}{h:Heap}{o:Option Int}(r:ao h φ v c)(e:uM v=some o):∃p:Option (Int×Tok),c=partValue p/\p.map (·.1)=o:=by
 cases v with
 |none=>cases e;cases of_none r;show aA none rfl rfl
 |int i=>cases e;show aU (iX r) λt aF=>?_;subst aF;show aA (some (i,t)) rfl rfl
 |_=>cases e
def bc.xu{α:Type}{Y:List Addr}{t:Sem α}{a:V}{f:List V->M V}{R:Heap->Ph->V->α->Prop}(h:∀l,g8 a O=some l->bc Y w A φ O s t (f l) R):bc Y w A φ O s t (xu a f) R:=by
 intro v aa e
 replace e:(g8 a O).elim none (λl=>f l O)=some (v,aa):=e
 generalize hl:g8 a O=o at e;induction o with
 |none=>cases e
 |some l=>show h l hl v aa e
def NY{v:V}(h:v.ctorIdx=3):∃x,v= .str x:=V.str.elim (motive_1:=λv=>∃x,v= .str x) v h λx=>⟨x,rfl⟩
def NZ{value slice:Expr}{sl:Addr}(a lo hi:V)(ca cl ch:Value)(r:aX w φ O s.heap)(ha:ao s.heap φ a ca)(hl:ao s.heap φ lo cl)(hh:ao s.heap φ hi ch)(hs:s.heap.get? sl=some {cls:= .type "slice",data:= .fields #[cl,ch,.none]}):
  cn w A φ O s (do let r<-subscripted slice (<-getitemInPython ca) ca (.ref sl);letTemporaryGo value ca r;pure r) (nQ a lo hi) λh φ v c=>ao h φ v c:=by
 show .uI λlo' el=> .uI λnR eh=>?_;show aj (FF hl el) λpl aF FG=>?_;subst aF;show aj (FF hh eh) λph aF FH=>?_;subst aF;clear hl hh el eh;by_cases q:a.ctorIdx=3
 ·obtain⟨x,rfl⟩:=NY q
  show aU (eU ha) λt aF=>?_;subst aF FG FH;show bc.guard λh0=> .one (qJ (typeIs_str _ _ _) F.slot_str_getitem.lookup (wpAny_getItem_str_slice (l:=pl) (u:=ph) (st:=none) (bj _ hs rfl rfl) rfl
      (post_val_or_str ⟨a9 (Txt.slice_le _ _ _) (jJ (by have:=md h0;show a9 `A `D)),λt' k=>cC r jK⟩)))
 ·delta sO
  rw[dif_neg q];show .xu λl fP=>?_;show ck (Aw r ha fP) λa' cs ay h1 p=>?_;subst ay;clear ha fP q;subst FG FH;induction pl with
  |none=>
   induction ph with
   |none=>show .fail
   |some q=>show bc.guard λh0=> .one (slice_list r h1 p h0 (bj _ hs rfl rfl))
  |some q'=>
   induction ph with
   |none=>show bc.guard λh0=> .one (NX r h1 p h0 (bj _ hs rfl rfl))
   |some q=>show .fail
def Ax{a:V}{l:List V}{b:Int}(q:a.ctorIdx≠3)(h:g8 a O=some l)(hb:0<=b/\l.length<=1000000):nQ a .none (.int b) O=some (.lst (l.take b.toNat),O):=by
 change sO a none (some b) O=_;delta sO;rw[dif_neg q];show(aJ (λo=>o.elim none λl=>Au l none (some b) O) h).trans (congrFun (az hb) O)
def N0{a:V}{l:List V}{b:Int}(q:a.ctorIdx≠3)(h:g8 a O=some l)(hb:0<=b/\l.length<=1000000):nQ a (.int b) .none O=some (.lst (l.drop b.toNat),O):=by
 change sO a (some b) none O=_;delta sO;rw[dif_neg q];show(aJ (λo=>o.elim none λl=>Au l (some b) none O) h).trans (congrFun (az hb) O)
def FJ{x:Str}{lo hi:V}{l h:Option Int}(e:uM lo=some l)(e':uM hi=some h)(hx:cg x=true):nQ (.str x) lo hi O=some (.str (Txt.slice x l h),O):=by
 delta nQ;rw[e,e'];show congrFun (az hx:(if cg x=true then pure (.str (Txt.slice x l h))else au:M V)=_) O
def N1{x:Expr}{lo hi:Option Expr}{pos p:Pos}{m ml mh:M V}(hx:Ev K w A env J (eval x env) m)(hl:Ev K w A env J (valueOrNone (evalOpt lo env)) ml)(hh:Ev K w A env J (valueOrNone (evalOpt hi env)) mh):
  Ev K w A env J (eval (.Subscript x (.Slice lo hi none p) pos) env) (do let a<-m;let l<-ml;let h<-mh;nQ a l h):=by
 intro φ O s n;show .bind (hx φ O s n) λba ag aw ca a aP aS pa=>?_;intro v aa e;show br (cy e) λl aH e1 e=>?_;show br (cy e) λh cI e2 e=>?_;show ax (eM (ax (bg (hl ba ag aw (n.step aP aS) l aH e1) (λcl a8 N2=>bK N2 λcB bu ct pl=>?_) λ_ _ x=>x)));show ax (eM (bg (hh cB aH a8 ((n.step aP aS).step bu ct) h cI e2) (λch cN Ay=>bK Ay λkM c9 g9 ph=>?_) λ_ _ x=>x));show ax (eM (aW ?_));show wpAny_newObj_type ?_;have fc:Step kM cN kM {cN with heap:=cN.heap.push {cls:= .type "slice",data:= .fields [cl,ch,.none].toArray}}:=a0.heap (tk:=cN.toks) (er _);have mS:=g9.keeps (er {cls:= .type "slice",data:= .fields [cl,ch,.none].toArray});show ax (wpAny_standAt ?_);have:=NZ (A:=A) (value:=x) (slice:= .Slice lo hi none p) (sl:=cN.heap.objs.size) (s:={cN with heap:=cN.heap.push {cls:= .type "slice",data:= .fields [cl,ch,.none].toArray}}) a l h ca cl ch mS
  (((pa.step bu).step c9).step fc) ((pl.step c9).step fc) (ph.step fc) (dT _ rfl) v aa e
 show bg this (λc s' uN=>bK uN λaB x' r' p'=>bj aB (((bu.trans c9).trans fc).trans x') r' p') λ_ _ x=>x
abbrev hH(h:Heap)(φ:Ph)(aC:List (Str×V))(bo:List (Str×Value)):Prop:=aC.map (·.1)=bo.map (·.1)/\aD h φ (aC.map (·.2)) (bo.map (·.2))
noncomputable abbrev aG:=V->List V->List (Str×V)->M V
abbrev kN(Y:List Addr)(w:World)(φ:Ph)(s:Shared)(v:V)(aa:Hp)(r:Result)(s':Shared):Prop:=∃c aB,r= .ok (.ret c)/\a0 Y φ s aB s'/\aX w aB aa s'.heap/\ao s'.heap aB v c
abbrev jN(K:W.Frag):V->Bool
 | .dO (.ref g) _=>W.fnIn K g
 |_=>false
structure gO(K:W.Frag)(w:World)(A:Around)(F:aG):Prop where
 calls:∀f vs aC cf cs bo φ O s,aX w φ O s.heap->cO K φ s.heap->ao s.heap φ f cf->aD s.heap φ vs cs->hH s.heap φ aC bo->cn w A φ O s (call cf cs bo) (F f vs aC) λh φ v c=>ao h φ v c
 code:∀f vs cf cs φ O s,jN K f=true->aX w φ O s.heap->cO K φ s.heap->ao s.heap φ f cf->aD s.heap φ vs cs->∀v aa,F f vs [] O=some (v,aa)->codeAny (Mo w) A (.call cf ⟨cs,[]⟩) (kN [] w φ s v aa) s
variable{F:aG}
def gO.call(hF:gO K w A F){f:V}{vs:List V}{aC:List (Str×V)}{cf:Value}{cs:List Value}{bo:List (Str×Value)}(r:aX w φ O s.heap)(b:cO K φ s.heap)(pf:ao s.heap φ f cf)(pv:aD s.heap φ vs cs)(pk:hH s.heap φ aC bo):
  cn w A φ O s (PySem.call cf cs bo) (F f vs aC) λh φ v c=>ao h φ v c:=hF.calls f vs aC cf cs bo φ O s r b pf pv pk
abbrev gq(K:W.Frag):V->Bool
 | .con (.builtin _)=>true
 | .con (.type _)=>true
 | .con (.ref a)=>W.keepIn K (.ref a)
 | .dO (.ref g) _=>W.fnIn K g
 | .fK _=>true
 |_=>false
def FK{f:V}{cf:Value}(hk:gq K f=true)(h:Heap)(X:K.In h)(p:ao h φ f cf):∃k,(k=Keeper.frame\/k=Keeper.machine\/k=Keeper.boundFrame)/\W.Looks (Mo w) h (keeperOf cf) k:=by
 cases f with
 |con d=>
  cases p;induction cf with
  |builtin i=>show aA .machine (.inr (.inl rfl)) (W.Looks.of_pure rfl)
  |type T=>show aA .machine (.inr (.inl rfl)) (W.Looks.of_pure rfl)
  |ref a=>show W.keeps_K (show W.keepIn K (.ref a)=true from hk) h X
  |_=>cases hk
 |dO g s=>
  show dg p λa d ay _ ho _=>?_;subst ay
  symm
  induction g with
  |ref g=>
   left;change W.fnIn K g=true at hk;show sE (E1 hk) λ_ _ _ _ e=>?_;show aA .boundFrame (.inr (.inr rfl)) ((W.Looks.ld (part:=none) ho).andThen ((W.Looks.ld (part:=none) (X _ _ e)).andThen .now))
  |_=>cases hk
 |fK l=>
  symm
  show dg (p) λa cs ay _ Ae _=>?_;subst ay;show sE (Ae) λo fd _ _ q=>?_;left;show aA .frame (.inl rfl) ((W.Looks.ld (part:=none) q.get).andThen ?_);show(q.data)▸(.now)
 |_=>cases hk
abbrev jr(e:Expr):Bool:=e.ctorIdx !=22
def sP{args:List Expr}(h:args.all jr=true):starEach args env=args.map λe=>(false,eval e env):=by
 induction args with
 |nil=>rfl
 |cons e r ih=>
  show aI (fb h) λh1 h2=>?_;simp only[List.map_cons,<-ih h2];clear h h2 ih;cases e<;>first|rfl|show Bool.noConfusion h1
def xw{α β γ:Type}{R:β->γ->Prop}{f:α->β}{g:α->γ}:∀{l:List α},(∀a∈l,R (f a) (g a))->fo R (l.map f) (l.map g)
 |[],_=> .nil
 |a::l,h=> .cons (h a (.head _)) (xw λb hb=>h b (.tail _ hb))
def uO{args:List Expr}{ev:Expr->M V}{pos:Pos}(hs:args.all jr=true)(h:∀e∈args,Ev K w A env J (eval e env) (ev e)):
  fo (λt m=>t.1=false/\Ev K w A env J t.2 m) (backTo pos (starEach args env)) (args.map ev):=by
 show NQ ?_;simp only[sP hs];show xw (R:=λ(t:Bool×Sem Value) (m:M V)=>t.1=false/\Ev K w A env J t.2 m) (f:=λe=>(false,eval e env)) (g:=ev) λa ha=>⟨rfl,h a ha⟩
def N3{ts:List (Sem Value)}{ms:List (M V)}(q:fo (Ev K w A env J) ts ms):∀φ O s,bW K w env J φ O s->cn w A φ O s (evalAll ts) (dR ms) λh φ l cs=>aD h φ l cs:=by
 induction q with
 |nil=>intro φ O s n;show .pure n.rel (by delta aD;rfl)
 |cons h q ih=>
  intro φ O s n l aa e;show fN λQ hQ=>?_;show wpAny_evalAll_cons ?_
  symm
  show br (cy e) λv ag e1 e=>?_;show br (cy e) λl' aH e2 e=>?_;cases fh e;left;show bg (h φ O s n v ag e1) (λc aw hx=>bK hx λba aP aS p=>?_) λ_ _ x=>x;show bg (ih ba ag aw (n.step aP aS) l' _ e2) (λcs a8 hx=>bK hx λcB bu ct ps=>?_) λ_ _ x=>x;show hQ _ _ (bj cB (aP.trans bu) ct (by show cF c cs rfl (p.step bu) ps))
abbrev uP(k:Keyword):Bool:=k.arg.isSome
def FL{bL:List Keyword}{pos:Pos}(h:bL.all uP=true):(backToKw pos (keywordEach bL env)).all (·.1.isSome)=true/\(backToKw pos (keywordEach bL env)).any (·.1.isNone)=false/\
  (backToKw pos (keywordEach bL env)).filterMap (·.1)=bL.filterMap (·.arg)/\(backToKw pos (keywordEach bL env)).map (·.2)=bL.map (λk=>do let v<-eval k.value env;standAt pos;pure v):=by
 induction bL with
 |nil=>show kr rfl rfl rfl rfl
 |cons k r ih=>
  obtain⟨n,v,p⟩:=k;induction n with
  |none=>show nomatch h
  |some n=>
   show((rfl:backToKw pos (keywordEach (⟨some n,v,p⟩::r) env)=(some n,do let v<-eval v env;standAt pos;pure v)::backToKw pos (keywordEach r env)))▸(kr (ih h).1 (ih h).2.1 (aJ (n::·) (ih h).2.2.1) (aJ (_::·) (ih h).2.2.2))
def FN{k:Keyword}{m:M V}{pos:Pos}(h:Ev K w A env J (eval k.value env) m):Ev K w A env J (do let v<-eval k.value env;standAt pos;pure v) m:=λφ O s n v aa e=>
 ax (bg (h φ O s n v aa e) (λ_ _ q=>ax (wpAny_standAt (aW q))) λ_ _ x=>x)
def aD.Az{h:Heap}{φ:Ph}:∀{ns:List Str} {l:List V} {cs:List Value},aD h φ l cs->hH h φ (ns.zip l) (ns.zip cs)
 |[],_,_,_=>⟨rfl,by delta aD;rfl⟩
 |_::_,[],_,r=>by delta aD at r;subst r;show⟨rfl,by delta aD;rfl⟩
 |n::ns,v::l,_,r=>by
  show ck r λc q ay h1 h2=>?_;subst ay;show⟨by simp[(aD.Az (ns:=ns) h2).1],by show cF c _ rfl h1 (aD.Az (ns:=ns) h2).2⟩
abbrev kz(F:aG)(f:V)(first:List V)(ms:List (M V))(ns:List Str)(km:List (M V)):M V:=do
 let vs<-dR ms
 let ks<-dR km
 F f (first++vs) (ns.zip ks)
def FO(hF:gO K w A F){f:V}{first:List V}{cf:Value}{AA:List Value}{args:List Expr}{bL:List Keyword}{ev:Expr->M V}{pos:Pos}(hk:gq K f=true)(hs:args.all jr=true)(iu:bL.all uP=true)
  (ha:∀e∈args,Ev K w A env J (eval e env) (ev e)) (hb:∀k∈bL,Ev K w A env J (eval k.value env) (ev k.value)) (n:bW K w env J φ O s) (pf:ao s.heap φ f cf) (p1:aD s.heap φ first AA):
  cn w A φ O s (callWith pos cf AA (backTo pos (starEach args env)) (backToKw pos (keywordEach bL env))) (kz F f first (args.map ev) (bL.filterMap (·.arg)) (bL.map λk=>ev k.value)) λh φ v c=>ao h φ v c:=by
 intro v aa e;show br (cy e) λvs ag e1 e=>?_;show br (cy e) λks aH e2 e=>?_;show nJ (FL (env:=env) (pos:=pos) iu) λk1 k2 k3 k4=>?_;have plain:∀{l:List Expr},l.all jr=true->(backTo pos (starEach l env)).any (·.1)=false:=by
  intro l hl;rw[sP hl];induction l with
  |nil=>rfl
  |cons a l ih=>show ih (fb hl).2
 have ae:∀ba aw,Step φ s ba aw->aX w ba ag aw.heap->∀cs,aD aw.heap ba vs cs->∀bo cB a8,Step ba aw cB a8->aX w cB aH a8.heap->aD a8.heap cB ks bo->
   (∃φ,K.In a8.heap/\ao a8.heap φ f cf)/\wpAny (Mo w) A (call cf (AA++cs) (((backToKw pos (keywordEach bL env)).filterMap (·.1)).zip bo)) (λa s'=>∃aB,Step φ s aB s'/\aX w aB aa s'.heap/\ao s'.heap aB v a) (λ_ _=>False) a8:=by
  intro ba aw aP aS cs pc bo cB a8 bu ct pk;show⟨(aA cB (((n.step aP aS).step bu ct).base.k) (((pf.step aP).step bu))),?_⟩;rw[k3];show bg (gO.call hF ct ((n.step aP aS).step bu ct).base ((pf.step aP).step bu) (((p1.step aP).step bu).append (pc.step bu)) (aD.Az pk) v aa e) (λc s' N4=>bK N4 λaB x' r' q=>bj aB ((aP.trans bu).trans x') r' q) λ_ _ x=>x
 have kw:=λba aw (aP:Step φ s ba aw) (aS:aX w ba ag aw.heap) cs (pc:aD aw.heap ba vs cs)=>
  bg (N3 (K:=K) (A:=A) (ts:=(backToKw pos (keywordEach bL env)).map (·.2)) (ms:=bL.map λk=>ev k.value)
   (by rw[k4];show xw (R:=Ev K w A env J) (f:=λk:Keyword=>(do let v<-eval k.value env;standAt pos;pure v)) (g:=λk=>ev k.value) λk hk=>FN (hb k hk)) ba ag aw (n.step aP aS) ks aH e2)
   (λbo a8 N5=>bK N5 λcB bu ct pk=>ae ba aw aP aS cs pc bo cB a8 bu ct pk) λ_ _ (x:False)=>x
 show W.callWith_of (P:=λh=>∃φ,K.In h/\ao h φ f cf) (by simp only[plain hs,k2];rfl) (λh N6=>aj N6 λφ X p=>FK hk h X p) ?_;induction args with
 |nil=>
  show evalArgs_kw_nil k1 ?_
  symm
  cases fh (show(pure []:M (List V)) O=_ from e1);left;show kw φ s (Step.refl ..) n.rel [] (by delta aD;rfl)
 |cons a l=>
  have he:backTo pos (starEach (a::l) env)=(false,eval a env)::backTo pos (starEach l env):=by
   simp only[sP hs,sP (fb (hs)).2];rfl
  have sp:=uL (uO (pos:=pos) hs ha) φ O s n vs ag e1;rw[he]at sp|-;show evalArgs_kw k1 (bg sp (λcs aw As=>bK As λba aP aS pc=>?_) λ_ _ x=>x);show kw ba aw aP aS cs pc
abbrev AB(e:Expr):Bool:=e.ctorIdx !=20
def N7(hF:gO K w A F){f:Expr}{args:List Expr}{bL:List Keyword}{ev:Expr->M V}{pos:Pos}(hp:AB f=true)(hs:args.all jr=true)(iu:bL.all uP=true)
  (hf:Ev K w A env J (eval f env) (ev f)) (ha:∀e∈args,Ev K w A env J (eval e env) (ev e)) (hb:∀k∈bL,Ev K w A env J (eval k.value env) (ev k.value)):
  Ev K w A env J (eval (.Call f args bL pos) env) (do let v<-ev f;if gq K v=true then kz F v [] (args.map ev) (bL.filterMap (·.arg)) (bL.map λk=>ev k.value)else au):=by
 intro φ O s n;have he:eval (.Call f args bL pos) env=(do callWith pos (<-eval f env) [] (backTo pos (starEach args env)) (backToKw pos (keywordEach bL env))):=by
  cases f<;>first|rfl|show absurd hp g0
 simp only[he];show .bind (hf φ O s n) λba ag aw cf v aP aS pf=>?_;intro u aa e;show aI (fO e) λhk e=>?_;show FO hF hk hs iu ha hb (n.step aP aS) pf (by delta aD;rfl) u aa e
noncomputable abbrev AD(K:W.Frag)(w:World)(A:Around)(G:V->Str->M (V×List V)):Prop:=
 ∀a name ca φ O s pl,aX w φ O s.heap->cO K φ s.heap->ao s.heap φ a ca->cn w A φ O s (getMethod ca name pl) (G a name) λh φ v c=>ao h φ v.1 c.1/\aD h φ v.2 c.2
abbrev uQ(o:Expr):Bool:=if h:o.ctorIdx=16 then Expr.Call.elim (motive_1:=λ_=>Bool) o h λf args bL _=>!(f.ctorIdx==23&&(args.isEmpty&&bL.isEmpty))else true
abbrev FP(args:List Expr)(bL:List Keyword):Bool:=args.length+bL.length+(if bL.isEmpty then 0 else 1)<30
set_option tactic.hygienic true in
def FQ{o:Expr}{name:Str}{t:Sem Value}(hp:uQ o=true):attributeBase o name env t=t:=by
 cases(o)<;>first|rfl|skip
 rename_i f args bL p;cases(f)<;>first|rfl|skip
 cases(args)<;>first|rfl|skip
 cases(bL)<;>first|rfl|show mN hp
def N8(hF:gO K w A F){G:V->Str->M (V×List V)}(hG:AD K w A G){o:Expr}{name:Str}{args:List Expr}{bL:List Keyword}{ev:Expr->M V}{apos pos:Pos}(hp:uQ o=true)(hl:(apos.endLine==pos.line)=true)(FR:FP args bL=true)
  (hs:args.all jr=true) (iu:bL.all uP=true)
  (hf:Ev K w A env J (eval o env) (ev o)) (ha:∀e∈args,Ev K w A env J (eval e env) (ev e)) (hb:∀k∈bL,Ev K w A env J (eval k.value env) (ev k.value)):
  Ev K w A env J (eval (.Call (.Attribute o name apos) args bL pos) env) (do let v<-ev o;let fx<-G v name;if gq K fx.1=true then kz F fx.1 fx.2 (args.map ev) (bL.filterMap (·.arg)) (bL.map λk=>ev k.value)else au):=by
 intro φ O s n;simp only[arm_eval_Call];simp only[FQ hp];show .bind (hf φ O s n) λba ag aw ca a aP aS pa=> .standAt ?_;unfold methodCall;show nJ (FL (env:=env) (pos:=pos) iu) λk1 k2 k3 k4=>?_;have AE:methodCallForm (args.length+bL.length) (backTo pos (starEach args env)) (backToKw pos (keywordEach bL env))=true:=by
  unfold methodCallForm;rw[k1,sP hs];have h1:(backTo pos (args.map λe=>(false,eval e env))).all (λx=>!x.1)=true:=by
   unfold backTo;rw[List.all_map,List.all_map];show List.all_eq_true.mpr λ_ _=>rfl
  have h2:(backToKw pos (keywordEach bL env)).isEmpty=bL.isEmpty:=by
   induction bL with
   |nil=>rfl
   |cons k l=>obtain⟨x,y,z⟩:=k;rfl
  rw[h1,h2];show FR
 rw[AE];rw[(by unfold methodCallPos;rw[hl];rfl:methodCallPos true o env apos pos=pure pos)];show .bind (.holding (hG a name ca ba ag aw _ aS (n.step aP aS).base pa)) λcB aH a8 fx gx bu ct pg=>?_;intro u aa e;show aI (fO e) λhk e=>?_;show FO hF hk hs iu ha hb ((n.step aP aS).step bu ct) pg.1 pg.2 u aa e
set_option genSizeOf false in
inductive It where
 |items (l:List V)
 |live (j k:Nat)
 |ref (j:Nat)
abbrev It.own:It->Bool
 | .ref _=>false
 |_=>true
abbrev kO(x:Str):List V:=x.cps.toList.map λc=> .str ⟨#[c]⟩
abbrev mU(a:Int)(n:Nat)(c:Int):List V:=(List.range n).map λ(k:Nat)=> .int (a+(k:Int)*c)
def FT(a:Int)(n:Nat)(c:Int):mU a (n+1) c= .int a::mU (a+c) n c:=by
 unfold mU;simp only[List.range_succ_eq_map,List.map_cons,List.map_map];show congr (aJ List.cons `S) (List.map_congr_left λk _=>?_);simp only[Function.comp,Nat.succ_eq_add_one,Int.natCast_add,Int.natCast_one,Int.add_mul,Int.one_mul];show aJ V.int `L
abbrev gP(h:Heap)(φ:Ph)(i:Addr):It->Prop
 | .items l=>(∃(a:Addr) (cs:List Value) (k:Nat),h.IsListIter i a k/\φ.Out a/\h.IsList a cs.toArray/\aD h φ l (cs.drop k))\/
   (∃(x left step:Int),IsRangeIter h i x left step/\0<=left/\l=mU x left.toNat step)\/
   (∃(ty:String) (x:Str) (t:Tok) (k:Nat),(ty="str_ascii_iterator"\/ty="str_iterator")/\h.IsStrIter i ty x t k/\l=(kO x).drop k)
 | .live j k=>∃a,φ.m[j]? =some a/\h.IsListIter i a k
 | .ref j=>φ.m[j]? =some i
def aD.head{h:Heap}{φ:Ph}{v:V}{l:List V}{cs:List Value}{k:Nat}(r:aD h φ (v::l) (cs.drop k)):∃c,cs[k]? =some c/\ao h φ v c/\aD h φ l (cs.drop (k+1)):=by
 symm
 show ck r λc q e h1 h2=>?_;have hk:k<cs.length:=by
  show Or.elim (Nat.lt_or_ge k cs.length) (λh=>?_) λh=>?_
  ·show h
  ·rw[List.drop_eq_nil_of_le h]at e;cases e
 rw[List.drop_eq_getElem_cons hk]at e;show aI (List.cons.inj e) λbY aF=>?_;subst bY;subst aF;left;show bj _ (eH hk) h1 h2
def aD.N9{h:Heap}{φ:Ph}{cs:List Value}{k:Nat}(r:aD h φ [] (cs.drop k)):cs[k]? =none:=by
 show List.getElem?_eq_none (List.drop_eq_nil_iff.mp r)
variable{i:Addr}
def aX.qK{h h':Heap}(r:aX w φ O h)(hi:i∈φ.x)(k:∀b o,b≠i->h.get? b=some o->h'.get? b=some o)(live:∃o,h'.get? i=some o):aX w φ O h':=by
 show r.gA (λa o e q=>k a o ?_ e) λa ha=>?_
 ·rintro rfl
  rcases q with q|q
  ·show r.apart _ q hi
  ·show q.1.2 hi
 ·by_cases h:a=i
  ·show h▸live
  ·show aU (r.iU a ha) λo e=>?_;show⟨o,k a o h e⟩
def qL{h h':Heap}(hi:i∈φ.x)(k:∀b o,b≠i->h.get? b=some o->h'.get? b=some o):iH φ φ h h':=λa o e ho _=>⟨k a o (by rintro rfl;show ho.2 hi) e,ho⟩
def a0.but{Y:List Addr}{h':Heap}{tk:Nat}(hi:i∈Y)(k:∀b o,b≠i->s.heap.get? b=some o->h'.get? b=some o)(live:∃o,h'.get? i=some o):a0 Y φ s φ {s with heap:=h',toks:=tk}:=
 ⟨(aA ([]) φ.um.symm (λ_ h=>(nomatch h))),λa o e _ hy=>k a o (by rintro rfl;show hy hi) e,λa o e=>by
  by_cases h:a=i
  ·show h▸live
  ·show⟨o,k a o h e⟩,rfl,rfl⟩
abbrev mV(O:Hp)(j k:Nat):Option (Option (V×It)):=match O[j]?with
 |some (.list l)=>match l[k]?with
  |some v=>some (some (v,.live j (k+1)))
  |none=>some none
 |_=>none
abbrev nS(O:Hp):It->Option (Option (V×It))
 | .items []=>some none
 | .items (v::l)=>some (some (v,.items l))
 | .live j k=>mV O j k
 | .ref _=>none
def toNat_pos{x:Int}(h:0<x):∃n,x.toNat=n+1/\(x-1).toNat=n:=⟨(x-1).toNat,by lia,rfl⟩
abbrev Oa(φ:Ph)(s:Shared)(i:Addr)(Q:Option Value->Shared->Prop)(o:Option (V×It)):Prop:=
 (∀v cX,o=some (v,cX)->∀c h' tk,(∀b o,b≠i->s.heap.get? b=some o->h'.get? b=some o)->(∃o,h'.get? i=some o)->ao h' φ v c->gP h' φ i cX->cX.own=true->Q (some c) {s with heap:=h',toks:=tk})/\
  (o=none->∀h' tk,(∀b o,b≠i->s.heap.get? b=some o->h'.get? b=some o)->Q none {s with heap:=h',toks:=tk})
set_option tactic.hygienic true in
def FU(hh:A.handled=none){it:It}(r:aX w φ O s.heap)(hi:i∈φ.x)(p:gP s.heap φ i it){o:Option (V×It)}(e:nS O it=some o){Q:Option Value->Shared->Prop}{E:Value->Shared->Prop}
  (h:Oa φ s i Q o):wpAny (Mo w) A (pyNext (.ref i)) Q E s:=by
 have rep:∀{h'},(∀b o,b≠i->s.heap.get? b=some o->h'.get? b=some o)->∀{v c},ao s.heap φ v c->ao h' φ v c:=λk _ _ q=>ao.mono (qL hi k) (λ_ _ e=>e) _ _ q;have xj:∀{h'},(∀b o,b≠i->s.heap.get? b=some o->h'.get? b=some o)->∀{v c},aD s.heap φ v c->aD h' φ v c:=λk _ _ q=>aD.mono (qL hi k) (λ_ _ e=>e) _ _ q;cases it with
 |items l=>
  rcases p with⟨a,cs,k,h1,h2,h3,h4⟩|⟨x,left,step,h1,h2,h3⟩|⟨ty,x,t,k,h1,h2,h3⟩
  ·have ne:a≠i:=by rintro rfl;show h2.2 hi
   cases l with
   |nil=>cases e;show wpAny_pyNext_list_end hh h1 h3 (by simpa using h4.N9) λh' k=>h.2 rfl h' s.toks λb o hb=>k b o hb
   |cons v l=>
    symm
    cases e;show bK h4.head λc h5 h6 h7=>?_;left;show wpAny_pyNext_list_item h1 h3 (x:=c) (by simpa using h5) λh' eV jO=>?_;have k:=λb o (hb:b≠i)=>jO.extBut b o hb;show h.1 v _ rfl c h' s.toks k (let⟨o,ho,_⟩:=eV;⟨o,ho⟩) (rep k h6) (.inl ⟨a,cs,_,eV,h2,h3.extBut jO.extBut ne,xj k h7⟩) rfl
  ·cases l with
   |nil=>
    cases e;have:left<=0:=by
     rcases Int.lt_or_le 0 left with h|h
     ·obtain⟨n,hn,_⟩:=toNat_pos (x:=left) `A
      rw[hn,FT]at h3;cases h3
     ·show h
    show wpAny_pyNext_range_end hh h1 this λh' k=>h.2 rfl h' s.toks λb o hb=>k b o hb
   |cons v l=>
    cases e;have hl:0<left:=by
     rcases Int.lt_or_le 0 left with h|h
     ·show h
     ·rw[show left.toNat=0 by lia]at h3;cases h3
    obtain⟨n,hn,qC⟩:=toNat_pos (x:=left) `A;simp only[hn,FT]at h3;show aI (List.cons.inj h3) λbY aF=>?_;subst bY;subst aF;show wpAny_pyNext_range_item h1 hl λh' eV jO=>?_;have k:=λb o (hb:b≠i)=>jO.extBut b o hb;show h.1 _ _ rfl _ h' _ k ⟨_,eV⟩ fm (.inr (.inl ⟨_,_,_,eV,by lia,by rw[qC]⟩)) rfl
  ·have texts:∀(ty:String),s.heap.IsStrIter i ty x t k->(∀{Q:Option Value->Shared->Prop} {c:Nat},x.cps[k]? =some c->(∀h',h'.IsStrIter i ty x t (k+1)->Heap.SameBut i s.heap h'->Q (some (.str ⟨#[c]⟩ s.toks)) {s with heap:=h',toks:=s.toks+1})->wpAny (Mo w) A (pyNext (.ref i)) Q E s)->
     (∀{Q:Option Value->Shared->Prop},x.cps[k]? =none->(∀h',Heap.ExtBut i s.heap h'->Q none {s with heap:=h'})->wpAny (Mo w) A (pyNext (.ref i)) Q E s)->(ty="str_ascii_iterator"\/ty="str_iterator")->wpAny (Mo w) A (pyNext (.ref i)) Q E s:=by
    intro ty _ item end_ iL;cases l with
    |nil=>
     symm
     cases e;left;have hk:x.cps[k]? =none:=by
      have:(kO x).length<=k:=List.drop_eq_nil_iff.mp h3.symm;unfold kO at this;simp only[bq,Array.length_toList]at this;show Array.getElem?_eq_none this
     show end_ hk λh' k=>h.2 rfl h' s.toks λb o hb=>k b o hb
    |cons v l=>
     cases e;have hk:k<(kO x).length:=by
      rcases Nat.lt_or_ge k (kO x).length with h|h
      ·show h
      ·simp only[List.drop_eq_nil_of_le h]at h3;cases h3
     simp only[List.drop_eq_getElem_cons hk]at h3;show aI (List.cons.inj h3) λbY aF=>?_;subst bY;subst aF;have AG:k<x.cps.size:=by unfold kO at hk;rwa [bq,Array.length_toList]at hk
     show item (c:=x.cps[k]) (by simp[AG]) λh' eV jO=>?_;have kk:=λb o (hb:b≠i)=>jO.extBut b o hb;show h.1 _ _ rfl _ h' _ kk (let⟨o,ho,_⟩:=eV;⟨o,ho⟩) ?_ (.inr (.inr ⟨ty,x,t,_,iL,eV,rfl⟩)) rfl;have e:(kO x)[k]= .str ⟨#[x.cps[k]]⟩:=by simp[kO]
     rw[e];show jK
   rcases h1 with rfl|rfl
   ·show texts _ h2 (λe q=>wpAny_pyNext_ascii_item h2 e q) (λe q=>wpAny_pyNext_ascii_end hh h2 e q) (.inl rfl)
   ·show texts _ h2 (λe q=>wpAny_pyNext_wide_item h2 e q) (λe q=>wpAny_pyNext_wide_end hh h2 e q) (.inr rfl)
 |live j k=>
  show aj p λa h1 h2=>?_;show aj (z5 e) λl hl e=>?_;show aj (r.objs j a _ h1 hl) λcs h3 h4=>?_;have h3:=h3.isList;generalize hv:l[k]? =q at e;induction q with
  |some v=>
   cases bN e;show aj (h4.get hv) λc h5 h6=>?_;show wpAny_pyNext_list_item h2 h3 (x:=c) (by simpa using h5) λh' eV jO=>?_;have kk:=λb o (hb:b≠i)=>jO.extBut b o hb;show h.1 v _ rfl c h' s.toks kk (let⟨o,ho,_⟩:=eV;⟨o,ho⟩) (rep kk h6) ⟨a,h1,eV⟩ rfl
  |none=>
   cases bN e;have:cs[k]? =none:=List.getElem?_eq_none (by rw[<-h4.length];show List.getElem?_eq_none_iff.mp hv);show wpAny_pyNext_list_end hh h2 h3 (by simpa using this) λh' k=>h.2 rfl h' s.toks λb o hb=>k b o hb
 |ref j=>cases e
abbrev ey(v:V):M It:=λO=>match v with
 | .lst l=>some (.items l,O)
 | .str x=>some (.items (kO x),O)
 | .dU a b c=>if Builtin.Range.small a b c=true then some (.items (mU a (Builtin.Range.rangeSize a b c).toNat c),O)else none
 | .ref j=>match O[j]?with
  |some (.list _)=>some (.live j 0,O)
  |some (.iq ..)=>some (.ref j,O)
  |_=>none
 |_=>none
def xx:Slot "callable_iterator" "__iter__" "callable_iterator.__iter__":=
 .of (owner:="callable_iterator") (n:="__iter__") (by kernel_rfl) (by decide+kernel) (by decide+kernel) (by decide+kernel)
  (by first|show .inl (by decide+kernel)|show .inr (by decide+kernel)) (by kernel_rfl)
def FV:entryFor table "callable_iterator.__iter__"=some Builtin.«dict_keyiterator.__iter__»:=
 entryFor_alias (id':="dict_keyiterator.__iter__") (by kernel_rfl) rfl (by decide+kernel) (by kernel_rfl)
def FW(a:Value):argsOk "callable_iterator.__iter__" ⟨[a],[]⟩:=by kernel_rfl
def xy:Slot "callable_iterator" "__next__" "callable_iterator.__next__":=
 .of (owner:="callable_iterator") (n:="__next__") (by kernel_rfl) (by decide+kernel) (by decide+kernel) (by decide+kernel)
  (by first|show .inl (by decide+kernel)|show .inr (by decide+kernel)) (by kernel_rfl)
def Ob:entryFor table "callable_iterator.__next__"=some Builtin.«callable_iterator.__next__»:=entryFor_of_tree (by kernel_rfl)
def Oc(a:Value):argsOk "callable_iterator.__next__" ⟨[a],[]⟩:=by kernel_rfl
variable{aa:Hp}
def Od{M:Model}{f:Value}{pos:List Value}{Q:Value->Shared->Prop}{E:Value->Shared->Prop}
  (hc:codeAny M A (.call f ⟨pos,[]⟩) (λr s'=>match r with| .ok (.ret v)=>Q v s'| .ok _=>False| .error e=>E e s') s):
  wpAny M A (callBorrowed f pos) Q E s:=λΓ p Oe=>by
 have e:Sem.wp M Γ (callBorrowed f pos) (λv _ s'=>Q v s') (λe _ s'=>E e s') p s=wpCode M (Γ.enter (.call f ⟨pos,[]⟩) none p) (λr s'=>match r with| .ok (.ret v)=>Q v s'| .ok _=>False| .error e=>E e s') p s:=by
  unfold callBorrowed;rw[Sem.wp];congr 1;funext r s';induction r with
  |error e=>rfl
  |ok f=>induction f<;>rfl
 rw[e];show hc _ p rfl (Oe.enter _ none p (by intro x;cases x))
abbrev FX(φ:Ph)(i:Addr):It->Ph
 | .ref _=>φ
 |_=>⟨φ.m,i::φ.x⟩
def AH{φ:Ph}{i:Addr}{it:It}(h:it.own=true):FX φ i it=⟨φ.m,i::φ.x⟩:=by
 induction it<;>first|rfl|cases h
def Of{j:Nat}{O:Hp}{p:It×Hp}(e:ey (.ref j) O=some p):(∃l,O[j]? =some (.list l)/\(It.live j 0,O)=p)\/∃f x b,O[j]? =some (.iq f x b)/\(It.ref j,O)=p:=by
 replace e:(match O[j]?with|some (.list _)=>some (It.live j 0,O)|some (.iq ..)=>some (It.ref j,O)|_=>none)=some p:=e
 generalize O[j]? =o at e|-;induction o with
 |none=>cases e
 |some o=>
  induction o<;>first|cases e|skip
  ·show .inl (aA _ rfl rfl)
  ·show .inr (l9 _ _ _ rfl rfl)
abbrev Og(φ:Ph)(O:Hp)(s:Shared)(Q:Value->Shared->Prop)(it:It)(aa:Hp):Prop:=
 ∀i h' tk,aa=O->(it.own=true->s.heap.get? i=none/\∃o,h'.get? i=some o)->(∀b o,s.heap.get? b=some o->h'.get? b=some o)->gP h' (FX φ i it) i it->Q (.ref i) {s with heap:=h',toks:=tk}
def AI{v:V}{c:Value}{it:It}(r:aX w φ O s.heap)(p:ao s.heap φ v c)(e:ey v O=some (it,aa)){Q E:Value->Shared->Prop}
  (h:Og φ O s Q it aa):wpAny (Mo w) A (pyIter c) Q E s:=by
 have fresh:s.heap.get? s.heap.objs.size=none:=fj.push (o:={cls:= .none}) _ `S;have out:∀{a o},s.heap.get? a=some o->φ.Out a->Ph.Out ⟨φ.m,s.heap.objs.size::φ.x⟩ a:=λe ho=>⟨ho.1,λq=>(cj q).elim (λq=>by subst q;rw[fresh]at e;cases e) ho.2⟩;cases v with
 |lst l=>
  revert h;apply g4 (bN e);intro h;clear e;show dg (kL p) λa cs ay h1 h2 h3=>?_;subst ay;show wpAny_pyIter_list h2 (h _ _ s.toks rfl (λ_=>⟨fresh,_,dT _ rfl⟩) (er _) (.inl (qB a cs 0 (bj _ (dT _ rfl) rfl rfl) (let⟨o,e,_⟩:=h2;out e h1) (h2.push _) ?_)));show(λq=>aD.mono (λa o e ho _=>⟨er _ a o e,out e ho⟩) (λ_ _ e=>e) _ _ q:∀{l cs o},aD s.heap φ l cs->aD (s.heap.push o) ⟨φ.m,s.heap.objs.size::φ.x⟩ l cs) h3
 |str x=>
  revert h;apply g4 (bN e);intro h;clear e;show aU (eU p) λt aF=>?_;subst aF;cases ha:x.cps.all (·<128)
  ·show wpAny_pyIter_wide ha (h _ _ s.toks rfl (λ_=>⟨fresh,_,dT _ rfl⟩) (er _) (.inr (.inr (oM _ x t 0 (.inr rfl) (bj _ (dT _ rfl) rfl rfl) rfl))))
  ·show wpAny_pyIter_ascii ha (h _ _ s.toks rfl (λ_=>⟨fresh,_,dT _ rfl⟩) (er _) (.inr (.inr (oM _ x t 0 (.inl rfl) (bj _ (dT _ rfl) rfl rfl) rfl))))
 |dU a b c=>
  show aI (fi e) λhs e=>?_
  ·revert h;apply g4 (bN e);intro h
   clear e;show z0 p λq t u v dW h1 h2=>?_;subst dW;show wpAny_pyIter_range h2 hs (h _ _ s.toks rfl (λ_=>⟨fresh,_,dT _ rfl⟩) (er _) (.inr (.inl (pL a (Builtin.Range.rangeSize a b c) c (dT _ rfl) ?_ rfl))));unfold Builtin.Range.rangeSize;split<;>split<;>first|decide|(show Int.add_nonneg (Int.ediv_nonneg ?_ ?_) `D<;>lia)
 |ref j=>
  show aj p λa aF hj=>?_;subst aF;show Or.elim (Of e) (λq=>?_) λq=>?_
  ·show aj q λl bB e=>?_
   revert h;apply g4 e;intro h;clear e q;show aj (r.objs j a _ hj bB) λcs h2 h3=>?_;show wpAny_pyIter_list h2.isList (h _ _ s.toks rfl (λ_=>⟨fresh,_,dT _ rfl⟩) (er _) (aA a hj (bj _ (dT _ rfl) rfl rfl)))
  ·show pK q λf x b bB e=>?_
   revert h;apply g4 e;intro h;clear e q fresh out;show br (r.objs j a _ hj bB) λc _ h1 h2=>?_;have hT:s.TypeIs (.ref a) "callable_iterator":=aA _ h1 rfl;show wpAny_pyIter_slot hT xx (wpAny_call_entry xx hT FV ?_ (FW _));show aW ⟨_,rfl,"callable_iterator",_,hT,xy.lookup,h a s.heap s.toks rfl (λq=>by cases q) (λ_ _ e=>e) hj⟩
 |_=>cases e
def Oh{it:It}(r:aX w φ O s.heap)(p:gP s.heap φ i it)(hc:∀j,it= .ref j->∃f x b,O[j]? =some (.iq f x b)){Q E:Value->Shared->Prop}(h:Q (.ref i) s):wpAny (Mo w) A (pyIter (.ref i)) Q E s:=by
 induction it with
 |items l=>
  symm
  rcases p with⟨a,cs,k,h1,h2,h3,h4⟩|⟨x,left,step,h1,h2,h3⟩|⟨ty,x,t,k,h1,h2,h3⟩
  ·left
   show wpAny_pyIter_listiter h1 h
  ·left
   show wpAny_pyIter_rangeiter h1 h
  ·left
   rcases h1 with rfl|rfl
   ·show wpAny_pyIter_striter_ascii h2 h
   ·show wpAny_pyIter_striter_wide h2 h
 |live j k=>show aj p λa h1 h2=>?_;show wpAny_pyIter_listiter h2 h
 |ref j=>
  show jG (hc j rfl) λf x b bB=>?_;show br (r.objs j i _ p bB) λc _ h1 h2=>?_;have hT:s.TypeIs (.ref i) "callable_iterator":=aA _ h1 rfl;show wpAny_pyIter_slot hT xx (wpAny_call_entry xx hT FV ?_ (FW _));show aW ⟨_,rfl,"callable_iterator",_,hT,xy.lookup,h⟩
def Oi{l:List Addr}(hn:l.Nodup){i j:Nat}(hi:i<l.length)(hj:j<l.length)(e:l[i]=l[j]):i=j:=by
 have p:=List.pairwise_iff_getElem.mp hn;rcases Nat.lt_trichotomy i j with h|h|h
 ·show absurd e (p i j hi hj h)
 ·show h
 ·show absurd e.symm (p j i hj hi h)
def mW{h h':Heap}{a:Addr}(ha:a∈φ.m)(k:∀b o,b≠a->h.get? b=some o->h'.get? b=some o):iH φ φ h h':=λb o e ho _=>⟨k b o (by rintro rfl;show ho.1 ha) e,ho⟩
def aX.setAt{h h':Heap}{j:Nat}{a:Addr}{ob:bx}(r:aX w φ O h)(hj:φ.m[j]? =some a)(k:∀b o,b≠a->h.get? b=some o->h'.get? b=some o)(live:∃o,h'.get? a=some o)(hz:∃AJ,O[j]? =some AJ/\(uq AJ=true->uq ob=true))(q:nM w h' φ ob a):
  aX w φ (O.set j ob) h':=by
 have keep:=λb Oj=>aU Oj λo e=>by
  by_cases hb:b=a
  ·show hb▸live
  ·show⟨o,k b o hb e⟩
 show⟨by simp only[r.len,List.length_set],r.nodup,λb hb=>keep b (r.live b hb),λb hb=>keep b (r.iU b hb),r.apart,λn b AK e1 e2=>?_,?_⟩
 rotate_left
 ·show aj r.zero λo h1 h2=>?_
  show aj hz λAJ h3 h4=>?_;by_cases FY:j=0
  ·subst FY
   rw[h1]at h3;cases h3;show aA ob (List.getElem?_set_self (cQ h1).1) (h4 h2)
  ·show aA o (by rw[List.getElem?_set_ne FY];show h1) h2
 by_cases hn:n=j
 ·subst hn
  rw[hj]at e1;cases e1;rw[List.getElem?_set_self (by simp only[<-r.len];show(cQ hj).1:n<O.length)]at e2;cases e2;show q
 ·rw[List.getElem?_set_ne (λe=>hn e.symm)]at e2
  have hb:b≠a:=by
   rintro rfl;obtain⟨h1,h2⟩:=cQ e1;obtain⟨h3,h4⟩:=cQ hj;show hn (Oi r.nodup h1 h3 (h2.trans h4.symm))
  show(r.objs n b AK e1 e2).gA (λo=>k b o hb) (mW (gZ hj:a∈φ.m) k) λ_ _ e=>e
def a0.at{Y:List Addr}{a:Addr}{h':Heap}{tk:Nat}(ha:a∈φ.m)(k:∀b o,b≠a->s.heap.get? b=some o->h'.get? b=some o)(live:∃o,h'.get? a=some o):a0 Y φ s φ {s with heap:=h',toks:=tk}:=
 ⟨(aA ([]) φ.um.symm (λ_ h=>(nomatch h))),λb o e hb _=>k b o (by rintro rfl;show hb ha) e,λb o e=>by
  by_cases h:b=a
  ·show h▸live
  ·show⟨o,k b o h e⟩,rfl,rfl⟩
def aX.push{h h':Heap}{ob:bx}{a:Addr}(r:aX w φ O h)(ha:h.get? a=none)(k:∀b o,h.get? b=some o->h'.get? b=some o)(live:∃o,h'.get? a=some o)(q:nM w h' (φ.grow [a]) ob a):
  aX w (φ.grow [a]) (O++[ob]) h':=by
 have nm:a∉φ.m:=λq=>by show aU (r.live a q) λo e=>?_;rw[ha]at e;cases e
 have nx:a∉φ.x:=λq=>by show aU (r.iU a q) λo e=>?_;rw[ha]at e;cases e
 have hs:iH φ (φ.grow [a]) h h':=λb o e ho _=>⟨k b o e,uo (λc hc=>by show(aJ _ (fW hc)).trans ha) e ho⟩;show⟨by simp[Ph.grow,r.len],?_,λb hb=>?_,λb hb=>let⟨o,e⟩:=r.iU b hb;⟨o,k b o e⟩,λb hb=>?_,λn b AK e1 e2=>?_,let⟨o,h1,h2⟩:=r.zero;⟨o,by rw[il (cQ h1).1];show h1,h2⟩⟩
 ·change(φ.m++[a]).Nodup
  rw[List.nodup_append];show⟨r.nodup,by simp,λx hx y hy=>by simp only[fW hy];rintro rfl;show nm hx⟩
 ·rcases gN hb with hb|hb
  ·show aU (r.live b hb) λo e=>?_;show⟨o,k b o e⟩
  ·show(fW hb)▸(live)
 ·rcases gN hb with hb|hb
  ·show r.apart b hb
  ·show(Eq.symm (fW hb))▸(nx)
 ·have e1:(φ.m++[a])[n]? =some b:=e1
  rcases Nat.lt_trichotomy n φ.m.length with h|h|h
  ·rw[il h]at e1
   rw[il (r.len▸h)]at e2;show(r.objs n b AK e1 e2).gA (k b) hs λ_ _ e=>pM e
  ·subst h
   rw[iT (Nat.le_refl _)]at e1;rw[r.len,iT (Nat.le_refl _)]at e2;simp at e1 e2;subst e1 e2;show q
  ·rw[List.getElem?_eq_none (by simp;assumption)]at e1;cases e1
def a0.grown{Y:List Addr}{a:Addr}{h':Heap}{tk:Nat}(ha:s.heap.get? a=none)(k:∀b o,s.heap.get? b=some o->h'.get? b=some o):a0 Y φ s (φ.grow [a]) {s with heap:=h',toks:=tk}:=
 ⟨(aA ([a]) rfl (λc hc=>by show(aJ _ (fW hc)).trans ha)),λb o e _ _=>k b o e,λb o e=>⟨o,k b o e⟩,rfl,rfl⟩
def sQ{a:Addr}(r:aX w φ O s.heap):(φ.grow [a]).m[O.length]? =some a:=by
 change(φ.m++[a])[O.length]? =some a;rw[<-r.len,iT (Nat.le_refl _)];simp
def borrows{f:V}{c:Value}(hf:jN K f=true){h:Heap}(X:K.In h)(p:ao h φ f c):W.Looks (Mo w) h (borrowsExactly c) true:=by
 cases f with
 |dO g s=>
  induction g with
  |ref g=>
   show dg p λa d ay _ ho _=>?_;subst ay;change W.fnIn K g=true at hf;show sE (E1 hf) λ_ _ _ _ e=>?_;show(W.Looks.ld (part:=none) ho).andThen ((W.Looks.ld (part:=none) (X _ _ e)).andThen .now)
  |_=>cases hf
 |_=>cases hf
def Ol{f:V}{c:Value}{h:Heap}(hf:jN K f=true)(p:ao h φ f c):∃a,c= .ref a:=by
 cases f with
 |dO g s=>show br p λa d ay _=>?_;subst ay;show⟨a,rfl⟩
 |_=>cases hf
abbrev FZ:bx->Option (V×Str×Bool)
 | .iq f x l=>some (f,x,l)
 |_=>none
abbrev xA(O:Hp)(j:Nat):Option (V×Str×Bool):=O[j]?.bind FZ
def F0{O:Hp}{j:Nat}{q:V×Str×Bool}(h:xA O j=some q):O[j]? =some (.iq q.1 q.2.1 q.2.2):=by
 show aj (dj h) λo ho h=>?_;rw[ho];induction o<;>first|show fD h|(rw[<-bN h])
def uR{O:Hp}{j:Nat}{f:V}{x:Str}{l:Bool}(h:O[j]? =some (.iq f x l)):xA O j=some (f,x,l):=aJ (λo=>Option.bind o FZ) h
abbrev qM(K:W.Frag)(F:aG)(j:Nat):M (Option (V×It)):=λO=>(xA O j).bind λq=>if q.2.2=true then(if jN K q.1=true then(F q.1 [] [] O).bind λp=>p.1.pO.bind λy=>(xA p.2 j).bind λr=>
  if r.2.2=true then(if jN K r.1=true then(if r.2.1=y then some (none,p.2.set j (.iq r.1 r.2.1 false))else some (some (.str y,.ref j),p.2))else none)else none else none)else some (none,O)
def F1{α:Type}{P:α->Shared->Prop}{Q:Option Value->Shared->Prop}{E:Value->Shared->Prop}(hh:A.handled=none)(h:∀h',(∀b o,s.heap.get? b=some o->h'.get? b=some o)->Q none {s with heap:=h'}):
  wpAny (Mo w) A.in1 (Builtin.SmallTypes.stopIteration:Sem α) P (λe s'=>wpAny (Mo w) A (do if<-isInstance e (.type "StopIteration")then pure none else throw e:Sem (Option Value)) Q E s') s:=by
 show ax ?_;show ax (wpAny_newObj_type ?_ (by size_fits));show ax (m:=firstArgMember _ _) (wpAny_of_eq (a:=Value.none) (by first|rfl|(rfl)) ?_);show wpAny_newObj_type ?_ (by size_fits);rw[raiseNew];show ax (wpAny_handled ?_);rw[show A.in1.handled=none from hh];show ax (aW (wpAny_throw ?_));show ax (wpAny_isInstance (T:="StopIteration") (b:=true) (aA _ (dT _ rfl) rfl) isSubtype_stop ?_);show aW (h _ λb o e=>Heap.get?_push_of_some _ (Heap.get?_push_of_some _ e))
abbrev F2(vs:Array Value):Obj:={cls:= .type "callable_iterator",data:= .fields vs}
def Om{c u v:Value}{Q:Unit->Shared->Prop}{E:Value->Shared->Prop}{f:V}(hf:jN K f=true)(X:K.In s.heap)(p:ao s.heap φ f c)(h1:s.heap.get? i=some (F2 #[c,u,v]))
  (h:∀h',h'.get? i=some (F2 #[.none,.none,.bool true])->Heap.SameBut i s.heap h'->Q () {s with heap:=h'}):
  wpAny (Mo w) A (do slotLetsGo "callable_iterator.__next__" (<-field (.ref i) 0) (λ| .builtin "callable_iterator.__next__" x=>x.pos.head? ==some (.ref i)|_=>false);setField (.ref i) 0 .none;setField (.ref i) 1 .none;setField (.ref i) 2 (.bool true)) Q E s:=by
 show ax (wpAny_field h1 rfl (x:=c) rfl ?_);show aU (Ol hf p) λa aF=>?_;subst aF;show ax (ax ((borrows (w:=w) hf X p).here ?_));show aW ?_;show ax (wpAny_setField_rec h1 `S λfE Oo oO=>?_);show ax (wpAny_setField_rec Oo `S λc0 uS Oq=>?_);show(wpAny_setField_rec uS `S λg7 Ot Ou=>?_);show h g7 Ot ((oO.trans Oq).trans Ou)
def F3{F:aG}{j:Nat}{o:Option (V×It)}{aa:Hp}(e:qM K F j O=some (o,aa)):(∃f x,O[j]? =some (.iq f x false)/\o=none/\aa=O)\/
  ∃f x y ag f' x',O[j]? =some (.iq f x true)/\jN K f=true/\F f [] [] O=some (.str y,ag)/\ag[j]? =some (.iq f' x' true)/\jN K f'=true/\((x'=y/\o=none/\aa=ag.set j (.iq f' x' false))\/(x'≠y/\o=some (.str y,.ref j)/\aa=ag)):=by
 show aj (dj e) λq hq e=>?_
 replace hq:=F0 hq
 by_cases hl:q.2.2=true
 ·rw[hl]at hq
  show aI (fi ((az hl).symm.trans e)) λhb e=>?_;show aj (dj e) λp hp e=>?_;show aj (dj e) λy hy e=>?_;show aj (dj e) λr hr e=>?_;show aI (fi e) λfP e=>?_;show aI (fi e) λnU e=>?_
  replace hr:=F0 hr
  rw[fP]at hr;show .inr (MQ q.1 q.2.1 y p.2 r.1 r.2.1 hq hb (hp.trans (aJ (λv=>some (v,p.2)) (uD hy))) hr nU ?_);by_cases jq:r.2.1=y
  ·show aI (dh (bN ((az jq).symm.trans e))) λe1 e2=>?_
   show .inl ⟨jq,e1.symm,e2.symm⟩
  ·show aI (dh (bN ((aN jq).symm.trans e))) λe1 e2=>?_
   show .inr ⟨jq,e1.symm,e2.symm⟩
 ·show aI (dh (bN ((aN hl).symm.trans e))) λe1 e2=>?_
  show .inl (cF q.1 q.2.1 (hq.trans (aJ (λl=>some (bx.iq q.1 q.2.1 l)) (Bool.eq_false_iff.mpr hl))) e1.symm e2.symm)
noncomputable abbrev Ov(j:Nat)(h:Heap)(aB:Ph)(b:Option (V×It))(a:Option Value):Prop:=match b,a with
 |none,none=>True
 |some (v,it),some c=>ao h aB v c/\it= .ref j
 |_,_=>False
def Ow{F:aG}(hh:A.handled=none)(hF:gO K w A.in1 F){j:Nat}(r:aX w φ O s.heap)(b:cO K φ s.heap)(p:φ.m[j]? =some i):cn w A φ O s (pyNext (.ref i)) (qM K F j) (Ov j):=by
 intro o aa e;have inv:=F3 e;clear e;show fN λQ hQ=>?_;have hT:s.TypeIs (.ref i) "callable_iterator":=by
  rcases inv with⟨f,x,bB,_⟩|⟨f,x,y,ag,f',x',bB,_⟩<;>(show br (r.objs j i _ p bB) λc t₀ h1 _=>?_;show aA _ h1 rfl)
 show ax (wpAny_attempt (wpAny_callSpecial?_slot (name:=Str.ofString "__next__") hT xy
  (wpAny_call_entry xy hT Ob ?_ (Oc _))))
 symm
 rcases inv with⟨f,x,bB,rfl,rfl⟩|⟨f,x,y,ag,f',x',bB,F4,e1,F5,Ox,Oy⟩
 ·left
  show br (r.objs j i _ p bB) λc t₀ h1 h2=>?_;show ax (m:=field (.ref i) 2) (wpAny_field h1 rfl (x:= .bool true) rfl (ax (wpAny_rule (ax ?_))));show F1 hh λh' k=>hQ _ _ (bj φ (.heap k) (r.keeps k) trivial)
 ·left
  show br (r.objs j i _ p bB) λc t₀ h1 h2=>?_;show ax (m:=field (.ref i) 2) (wpAny_field h1 rfl (x:= .bool false) rfl (ax (wpAny_field h1 rfl (x:=c) rfl ?_)));show ax (wpAny_attempt (ax ((borrows (w:=w) F4 b.k (h2 rfl)).here (E9 rfl ?_))));show Od (codeAny_mono (hF.code f [] c [] φ O s F4 r b (h2 rfl) (by delta aD;rfl) (.str y) ag e1) λrr aw q=>?_);show dg q λcv ba hr aP aS dz=>?_;subst hr;have p':=aP.get j i p;show br (aS.objs j i _ p' F5) λc' pQ h3 h4=>?_;show aU (eU dz) λt aF=>?_;subst aF;show ax (m:=field (.ref i) 2) (wpAny_field h3 rfl (x:= .bool false) rfl (ax (wpAny_field h3 rfl (x:= .str x' pQ) rfl (ax (eM (wpAny_eqBool_str ?_))))))
  symm
  rcases Oy with⟨jq,rfl,rfl⟩|⟨jq,rfl,rfl⟩
  ·left
   show qF (aJ _ (decide_eq_true jq)) (ax (wpAny_rule (ax (Om Ox (b.step aP).k (h4 rfl) (u:= .str x' pQ) (v:= .bool false) h3 λh' e' b'=>?_))));show F1 hh λh'' k=>hQ _ _ ?_;show bj ba (aP.trans (.at (gZ p') (λd o hd ed=>k d o (b'.extBut d o hd ed)) ⟨_,k _ _ e'⟩)) (aS.setAt p' (λd o hd ed=>k d o (b'.extBut d o hd ed)) ⟨_,k _ _ e'⟩ (aA _ F5 (zk rfl)) (c8 .none 0 (k _ _ e') (λz=>by cases z))) trivial
  ·left
   show E9 (aJ _ (decide_eq_false jq)) (aW (aA _ rfl (aW (hQ _ _ (dw ba aP aS jK rfl)))))
abbrev dX(sc:Scope)(env:Env):Prop:=∀x,env.kindOf x=sc.names.lookup x\/(sc.names.lookup x=some .free/\env.kindOf x=some .cell)
structure Own(Y:List Addr)(sc:Scope)(env:Env)(φ:Ph):Prop where
 sub:∀a∈Y,a∈φ.x
 jP:dX sc env
 loc:env.locals∈Y
 cell:∀x a,sc.names.lookup x=some .cell->env.cells.lookup x=some a->a∈Y
def a0.x{Y:List Addr}{φ aB:Ph}{s s':Shared}(h:a0 Y φ s aB s'):aB.x=φ.x:=by show aj h.grow λψ aF _=>?_;subst aF;rfl
def Own.step{Y Z:List Addr}{sc:Scope}{env:Env}{φ aB:Ph}{s s':Shared}(o:Own Y sc env φ)(x:a0 Z φ s aB s'):Own Y sc env aB:=⟨λa ha=>x.x▸o.sub a ha,o.jP,o.loc,o.cell⟩
abbrev AL(K:W.Frag)(sc:Scope)(J:ab)(x:Str):M V:=if(x==("__debug__":Str))=true then pure (.bool true)else Af K J x (sc.names.lookup x)
variable{Y:List Addr}{sc:Scope}
def Oz(hl:dX sc env)(x:Str)(pos:Pos):Ev K w A env J (eval (.Name x pos) env) (AL K sc J x):=by
 intro φ O s n b aa e;show Na x pos φ O s n b aa ?_;unfold AL at e;unfold Ag;by_cases hd:(x==("__debug__":Str))=true
 ·rw[az hd]at e|-;show e
 ·rw[aN hd]at e|-
  rcases hl x with h|⟨h1,h2⟩
  ·have h:env.scope.names.lookup x=sc.names.lookup x:=h
   rw[h];show e
  ·have h2:env.scope.names.lookup x=some .cell:=h2
   rw[h1]at e;rw[h2];show(Nk (show(if(x==("__classdict__":Str))=true then au else bJ (J.lookup x):M V) O=_ from e)).2
abbrev cR(sc:Scope)(x:Str):Bool:=sc.names.lookup x==some .local||sc.names.lookup x==some .cell
abbrev F6(e:Expr):Option Str:=if h:e.ctorIdx=23 then some (Expr.Name.elim (motive_1:=λ_=>Str) e h λx _=>x)else none
def OA{e:Expr}{x:Str}(h:F6 e=some x):∃p,e= .Name x p:=(nO h).elim λq e'=>by
 show fg (eName q) λy p hr=>?_;subst hr;show⟨p,aJ (Expr.Name · p) e'⟩
abbrev namesOf:List Expr->Option (List Str)
 |[]=>some []
 |e::r=>(F6 e).bind λx=>(namesOf r).map (x::·)
def AM{e:Expr}{es:List Expr}{ns:List Str}(h:namesOf (e::es)=some ns):∃x p nV,e= .Name x p/\ns=x::nV/\namesOf es=some nV:=by
 show aj (jH h) λx h1 h=>?_;show aj (eo h) λnV h2 ay=>?_;subst ay;show aU (OA h1) λp aF=>?_;subst aF;show pL x p nV rfl rfl h2
abbrev bindAll:List Str->List V->ab->ab
 |[],_,J=>J
 |n::ns,vs,J=>match vs with
  |[]=>J
  |v::vs=>bindAll ns vs ((n,v)::J)
abbrev qN(sc:Scope)(es:List Expr)(vs:List V)(J:ab):Option ab:=(namesOf es).bind λns=>if ns.all (cR sc)=true/\ns.length=vs.length then some (bindAll ns vs J)else none
def OB{es:List Expr}{vs:List V}{J aO:ab}{sc:Scope}(h:qN sc es vs J=some aO):∃ns,namesOf es=some ns/\ns.all (cR sc)=true/\ns.length=vs.length/\bindAll ns vs J=aO:=by
 show aj (jH h) λns h1 h=>?_;show aI (fi h) λh2 h=>?_;show dw ns h1 h2.1 h2.2 (bN h)
abbrev pN(sc:Scope)(t:Expr)(v:V)(J:ab):Option ab:=if h:t.ctorIdx=23 then Expr.Name.elim (motive_1:=λ_=>Option ab) t h λx _=>if cR sc x=true then some ((x,v)::J)else none
 else if h:t.ctorIdx=25 then Expr.Tuple.elim (motive_1:=λ_=>Option ab) t h λes _ _=>match v with
  | .tup vs=>qN sc es vs J
  |_=>none
 else none
def uT{h:Heap}{a b:Addr}{v m}(hc:h.IsCell a v)(hn:h.Ns b m):a≠b:=by
 rintro rfl;show aj hc λo e d=>?_;show nK hn λo' es ep e' d' _=>?_;rw[e]at e';cases e';rw[d]at d';cases d'
def lookup_cons_self{x:Str}{v:V}{J:ab}:((x,v)::J).lookup x=some v:=by simp
def uU{x y:Str}{v:V}{J:ab}(h:y≠x):((x,v)::J).lookup y=J.lookup y:=by
 simp only[di,gm h]
def F7{x:Str}{v:V}{c:Value}(n:bW K w env J φ O s)(o:Own Y sc env φ)(p:ao s.heap φ v c)(hx:cR sc x=true):
  wpAny (Mo w) A (storeName env x c) (λ_ s'=>a0 Y φ s φ s'/\bW K w env ((x,v)::J) φ O s') (λ_ _=>False) s:=by
 have hk:env.kindOf x=sc.names.lookup x:=by
  rcases o.jP x with h|⟨h,_⟩
  ·show h
  ·unfold cR at hx;rw[h]at hx;simp at hx
 show aj n.fits.ns λm hm hr=>?_;rcases Bool.or_eq_true_iff.mp hx with h|h
 ·have hl:=hk.trans (dN h)
  show wpAny_storeName_local hl hm (λh' hn hs=>?_) (by rw[n.fits.kind];rfl);have kk:=λb ob (hb:b≠env.locals)=>hs.extBut b ob hb;have live:∃ob,h'.get? env.locals=some ob:=let⟨ob,_,_,e,_⟩:=hn;⟨ob,e⟩;have rep:∀{v c},ao s.heap φ v c->ao h' φ v c:=λq=>ao.mono (qL (o.sub _ o.loc) kk) (λ_ _ e=>e) _ _ q;show⟨(.but o.loc kk live),n.rel.qK (o.sub _ o.loc) kk live,n.base.fL (.but o.loc kk live) o.sub,n.fits.kind,n.fits.glob,n.fits.nL,n.fits.loc,(aA _ hn (λy v' e k=>?_)),λy v' e k=>?_,n.fits.has,λy a e=>?_,n.fits.inj⟩
  ·by_cases hy:y=x
   ·obtain rfl:=Eq.symm hy
    rw[lookup_cons_self]at e;cases e;show aA c (az rfl) (rep p)
   ·rw[uU hy]at e
    show aj (hr y v' e k) λc' h1 h2=>?_;show aA c' ((aN hy).symm▸h1) (rep h2)
  ·have hy:y≠x:=by rintro rfl;rw[hl]at k;rcases k with k|k<;>cases k
   rw[uU hy]at e;show ck (n.fits.cells y v' e k) λa c' h1 h2 h3=>?_;show cF a c' h1 (h2.sameBut hs (uT h2 hm)) (rep h3)
  ·obtain⟨h1,v',h2⟩:=n.fits.all y a e
   show⟨h1,v',h2.sameBut hs (uT h2 hm)⟩
 ·have hl:=hk.trans (dN h)
  show aU (n.fits.has x (.inl hl)) λa ha=>?_;obtain⟨_,abb,hv⟩:=n.fits.all x a ha;show wpAny_storeName_cell n.fits.kind hl ha hv λh' hc hs=>?_;have kk:=λb ob (hb:b≠a)=>hs.extBut b ob hb;have live:∃ob,h'.get? a=some ob:=let⟨ob,e,_⟩:=hc;⟨ob,e⟩;have rep:∀{v c},ao s.heap φ v c->ao h' φ v c:=λq=>ao.mono (qL (o.sub _ (o.cell x a (dN h) ha:a∈Y):a∈φ.x) kk) (λ_ _ e=>e) _ _ q;show⟨(.but (tk:=s.toks) (o.cell x a (dN h) ha:a∈Y) kk live:a0 Y φ s φ {s with heap:=h'}),n.rel.qK (o.sub _ (o.cell x a (dN h) ha:a∈Y):a∈φ.x) kk live,n.base.fL (.but (tk:=s.toks) (o.cell x a (dN h) ha:a∈Y) kk live:a0 Y φ s φ {s with heap:=h'}) o.sub,n.fits.kind,n.fits.glob,n.fits.nL,n.fits.loc,(aA m (hm.sameBut hs (uT hv hm).symm) (λy v' e k=>?_)),λy v' e k=>?_,n.fits.has,λy b e=>?_,n.fits.inj⟩
  ·have hy:y≠x:=by rintro rfl;rw[hl]at k;cases k
   rw[uU hy]at e;show aj (hr y v' e k) λc' h1 h2=>?_;show aA c' h1 (rep h2)
  ·by_cases hy:y=x
   ·obtain rfl:=Eq.symm hy
    rw[lookup_cons_self]at e;cases e;show cF a c ha hc (rep p)
   ·rw[uU hy]at e
    show ck (n.fits.cells y v' e k) λb c' h1 h2 h3=>?_;show cF b c' h1 (h2.sameBut hs (by rintro rfl;show hy (n.fits.inj _ _ _ h1 ha))) (rep h3)
  ·obtain⟨h1,v',h2⟩:=n.fits.all y b e
   by_cases hb:b=a
   ·obtain rfl:=Eq.symm hb;show⟨h1,_,hc⟩
   ·show⟨h1,v',h2.sameBut hs hb⟩
def pR{x:Str}{v:V}{c:Value}(n:bW K w env J φ O s)(o:Own Y sc env φ)(p:ao s.heap φ v c)(hx:cR sc x=true):
  wpAny (Mo w) A (bindName env x c) (λ_ s'=>a0 Y φ s φ s'/\bW K w env ((x,v)::J) φ O s') (λ_ _=>False) s:=wpAny_bindName (F7 n o p hx)
def AN{es:List Expr}:∀{ns:List Str},namesOf es=some ns->es.length=ns.length/\(assignEach es env).length=es.length/\(assignEach es env).findIdx? (·.1)=none:=by
 induction es with
 |nil=>intro ns h;cases h;show cW rfl rfl rfl
 |cons e es ih=>
  intro ns h;show nK (AM h) λx p nV eW dW hn=>?_;subst eW;subst dW;rw[show assignEach (.Name x p::es) env=(false,assign (.Name x p) env)::assignEach es env from rfl];show cW (aJ (·+1) (ih hn).1) (aJ (·+1) (ih hn).2.1) ?_;rw[List.findIdx?_cons];simp only[Bool.false_eq_true,if_false,(ih hn).2.2,Option.map_none]
def OC{es:List Expr}:∀{ns:List Str} {vs:List V} {cs:List Value} {J:ab} {s:Shared},bW K w env J φ O s->Own Y sc env φ->aD s.heap φ vs cs->namesOf es=some ns->ns.all (cR sc)=true->ns.length=vs.length->
  wpAny (Mo w) A (assignInOrder ((assignEach es env).map (·.2)) cs) (λ_ s'=>a0 Y φ s φ s'/\bW K w env (bindAll ns vs J) φ O s') (λ_ _=>False) s:=by
 induction es with
 |nil=>
  intro ns vs cs J s n o p h _ hl;cases h;cases List.eq_nil_of_length_eq_zero hl.symm;show aW ⟨.refl ..,n⟩
 |cons e es ih=>
  intro ns vs cs J s n o p h hk hl;show nK (AM h) λx px nV eW dW hn=>?_;subst eW;subst dW;induction vs with
  |nil=>cases hl
  |cons v vs=>
   show ck p λc q ay p1 p2=>?_;subst ay;simp only[List.all_cons,Bool.and_eq_true]at hk;show ax (eM (ax (wpAny_standAt (bg (pR n o p1 hk.1) (λ_ aw fE=>?_) λ_ _ x=>x))));show bg (ih fE.2 o (p2.fL fE.1 o.sub) hn hk.2 (Nat.succ.inj hl)) (λ_ a8 c0=>⟨fE.1.trans c0.1,c0.2⟩) λ_ _ x=>x
def abc{v:V}(h:v.ctorIdx=5):∃l,v= .tup l:=V.tup.elim (motive_1:=λv=>∃l,v= .tup l) v h λl=>⟨l,rfl⟩
def AO(hh:A.handled=none){t:Expr}{v:V}{c:Value}{aO:ab}(n:bW K w env J φ O s)(o:Own Y sc env φ)(p:ao s.heap φ v c)(e:pN sc t v J=some aO):
  wpAny (Mo w) A (assign t env c) (λ_ s'=>a0 Y φ s φ s'/\bW K w env aO φ O s') (λ_ _=>False) s:=by
 by_cases q:t.ctorIdx=23
 ·show fg (eName q) λx px hr=>?_;subst hr
  show aI (fi e) λhx e=>?_;cases bN e;show ax (wpAny_standAt (pR n o p hx))
 by_cases q':t.ctorIdx=25
 ·show jG (Ak q') λes k pos hr=>?_;subst hr
  cases v with
  |tup vs=>
   show ku (OB e) λns e1 e2 e3 dW=>?_;subst dW;show dg (me p) λa cs ay _ h1 h2=>?_;subst ay;show assign_Tuple_tuple hh h1 (by simp only[(AN (env:=env) e1).2.1,(AN (env:=env) e1).1,e3,List.size_toArray,h2.length]) (AN (env:=env) e1).2.2 λh' he=>?_;have kk:=λb ob q=>he b ob (Nat.ne_of_lt (Heap.lt_size q)) q;show bg (OC (n.step (a0.heap (Y:=[]) (tk:=s.toks) kk) (n.rel.keeps kk):bW K w env J φ O {s with heap:=h'}) o (h2.fL (a0.heap (tk:=s.toks) kk:a0 Y φ s φ {s with heap:=h'}) o.sub) e1 e2 e3) (λ_ a8 q=>⟨(a0.heap (tk:=s.toks) kk:a0 Y φ s φ {s with heap:=h'}).trans q.1,q.2⟩) λ_ _ x=>x
  |_=>show fD e
 delta pN at e;rw[dif_neg q,dif_neg q']at e;show fD e
structure F8(lo:Nat)(N:List Str)(cl:List (Str×Addr))(h:Heap)(cs:List (Str×Addr)):Prop where
 at_:∀x a,cs.lookup x=some a->(cl.lookup x=some a/\a<lo)\/(lo<=a/\a<h.objs.size/\h.IsCell a none/\x∈N)
 inj:∀x y a,lo<=a->cs.lookup x=some a->cs.lookup y=some a->x=y
def xB{lo:Nat}{cl:List (Str×Addr)}:∀(names:List (Str×NameKind)) (N:List Str) (h:Heap) (aq:List (Str×Addr)),lo<=h.objs.size->F8 lo N cl h aq->(∀x∈names,x.2= .cell->x.1∈N)->
  F8 lo N cl (pushCells h names) (cellsFrom h.objs.size names aq)
 |[],_,_,_,_,c,_=>c
 |(n,k)::r,N,h,aq,hl,c,hN=>by
  unfold pushCells cellsFrom;split
  ·rename_i hk
   have:=xB (lo:=lo) (cl:=cl) r N (h.push {cls:= .type "cell",data:= .cell none}) ((n,h.objs.size)::aq) (by simp only[Heap.size_push];show Nat.le_succ_of_le `A) ⟨λx a e=>?_,λx y a ha e1 e2=>?_⟩ λx hx=>hN x (.tail _ hx)
   ·rwa [Heap.size_push]at this
   ·simp only[di]at e
    split at e
    ·rename_i OD
     cases e;show .inr (kr hl (by simp only[Heap.size_push];show Nat.lt_succ_self _) (aA _ (dT _ rfl) rfl) (by simp only[dN OD];show hN _ (.head _) (dN hk)))
    ·rcases c.at_ x a e with h1|⟨h1,h2,h3,h4⟩
     ·show .inl h1
     ·show .inr (kr h1 (by simp only[Heap.size_push];show Nat.lt_succ_of_lt h2) (h3.keeps (er _)) h4)
   ·have lt:∀z,aq.lookup z=some h.objs.size->False:=λz e=>by
     rcases c.at_ z _ e with h1|⟨_,h2,_⟩
     ·show absurd h1.2 (Nat.not_lt.mpr hl)
     ·show Nat.lt_irrefl _ h2
    simp only[di]at e1 e2;by_cases q1:(x==n)=true<;>by_cases q2:(y==n)=true
    ·simp only[dN q1,dN q2]
    ·rw[q1]at e1;rw[Bool.eq_false_iff.mpr q2]at e2;cases e1;show(lt _ e2).elim
    ·rw[q2]at e2;rw[Bool.eq_false_iff.mpr q1]at e1;cases e2;show(lt _ e1).elim
    ·rw[Bool.eq_false_iff.mpr q1]at e1;rw[Bool.eq_false_iff.mpr q2]at e2;show c.inj x y a ha e1 e2
  ·show xB r N h aq hl c λx hx=>hN x (.tail _ hx)
def xC:∀(names:List (Str×NameKind)) (m:Nat) (aq:List (Str×Addr)) (x:Str),((x,NameKind.cell)∈names\/∃a,aq.lookup x=some a)->∃a,(cellsFrom m names aq).lookup x=some a
 |[],_,_,_,.inr h=>h
 |(n,k)::r,m,aq,x,h=>by
  unfold cellsFrom;split
  ·show xC r (m+1) _ x ?_
   rcases h with h|⟨a,h⟩
   ·rcases cj h with h|h
    ·cases h;show .inr ⟨m,by simp⟩
    ·show .inl h
   ·simp only[di]
    by_cases hx:(x==n)=true
    ·rw[hx];show .inr ⟨m,rfl⟩
    ·rw[Bool.eq_false_iff.mpr hx];show .inr ⟨a,h⟩
  ·rename_i hk
   show xC r m aq x ?_;rcases h with h|h
   ·rcases cj h with h|h
    ·cases h;show absurd rfl hk
    ·show .inl h
   ·show .inr h
def xD:∀(names:List (Str×NameKind)) (m:Nat) (aq:List (Str×Addr)) (x:Str),(∀k∈names,k.1=x->k.2≠ .cell)->(cellsFrom m names aq).lookup x=aq.lookup x
 |[],_,_,_,_=>rfl
 |(n,k)::r,m,aq,x,h=>by
  unfold cellsFrom;split
  ·rename_i hk
   simp only[xD r (m+1) _ x λk hk=>h k (.tail _ hk),di];have:(x==n)=false:=by
    rw[beq_eq_false_iff_ne];rintro rfl;show h _ (.head _) rfl (dN hk)
   rw[this]
  ·show xD r m aq x λk hk=>h k (.tail _ hk)
def xE:∀(names:List (Str×NameKind)) (h:Heap),h.objs.size<=(pushCells h names).objs.size/\∀b,h.objs.size<=b->b<(pushCells h names).objs.size->∃o,(pushCells h names).get? b=some o
 |[],h=>⟨Nat.le_refl _,λb h1 h2=>by delta pushCells at h2;lia⟩
 |(n,k)::r,h=>by
  unfold pushCells;split
  ·show aI (xE r (h.push {cls:= .type "cell",data:= .cell none})) λh1 h2=>?_
   rw[Heap.size_push]at h1 h2;show⟨by show Nat.le_of_lt `A,λb hb nU=>?_⟩;by_cases e:b=h.objs.size
   ·subst e;show⟨_,pushCells_keeps r _ _ _ (dT _ rfl)⟩
   ·show h2 b `L nU
  ·show xE r h
abbrev fF(env:Env):List (Str×NameKind)->List (Str×Addr)->List (Str×Addr)
 |[],aq=>aq
 |(n,k)::r,aq=>if k== .free then fF env r ((n,(env.cells.lookup n).getD 0)::aq)else fF env r aq
def AP(f:Str×NameKind->List (Str×Addr)->Sem (ForInStep (List (Str×Addr))))(hf:∀n k cs,f (n,k) cs=if k== .free then(do let a<-cellOf env n;pure (.yield ((n,a)::cs)))else pure (.yield cs)):
  ∀(names:List (Str×NameKind)) (aq:List (Str×Addr)),(∀x∈names,x.2= .free->∃a,env.cells.lookup x.1=some a)->forIn names aq f=(pure (fF env names aq):Sem _)
 |[],aq,_=>by rfl
 |(n,k)::r,aq,h=>by
  rw[List.forIn_cons,hf];by_cases hk:(k==NameKind.free)=true
  ·rw[az hk,show fF env ((n,k)::r) aq=_ from az hk]
   show aU (h _ (.head _) (dN hk)) λa ha=>?_;rw[(by unfold cellOf;rw[ha]:cellOf env n=pure a),ha];show AP f hf r _ λx hx=>h x (.tail _ hx)
  ·rw[aN hk,show fF env ((n,k)::r) aq=_ from aN hk]
   show AP f hf r _ λx hx=>h x (.tail _ hx)
def F9(h:∀x∈sc.names,x.2= .free->∃a,env.cells.lookup x.1=some a):closureFor sc env=pure (fF env sc.names []):=by
 unfold closureFor;have:=AP (env:=env) (λ(x:Str×NameKind) cs=>if x.2== .free then(do let a<-cellOf env x.1;pure (.yield ((x.1,a)::cs)))else pure (.yield cs)) (λ_ _ _=>rfl) sc.names [] h;rw[bind_pure];show Eq.trans ?_ this;congr 1
def AQ:∀{names:List (Str×NameKind)} {aq:List (Str×Addr)},(∀x∈names,x.2= .free->∃a,env.cells.lookup x.1=some a)->(∀x a,aq.lookup x=some a->env.cells.lookup x=some a)->∀x a,(fF env names aq).lookup x=some a->env.cells.lookup x=some a
 |[],_,_,h,x,a,e=>h x a e
 |(n,k)::r,aq,hn,h,x,a,e=>by
  by_cases hk:(k==NameKind.free)=true
  ·rw[show fF env ((n,k)::r) aq=_ from az hk]at e
   show aU (hn _ (.head _) (dN hk)) λb hb=>?_;show AQ (λx hx=>hn x (.tail _ hx)) (λy c e=>?_) x a e;simp only[di]at e;split at e
   ·rename_i hy;rw[hb]at e;cases e;show(dN hy)▸(hb)
   ·show h y c e
  ·rw[show fF env ((n,k)::r) aq=_ from aN hk]at e
   show AQ (λx hx=>hn x (.tail _ hx)) h x a e
def uV:∀{names:List (Str×NameKind)} {aq:List (Str×Addr)} {x:Str},((x,NameKind.free)∈names\/∃a,aq.lookup x=some a)->∃a,(fF env names aq).lookup x=some a
 |[],_,_,.inr h=>h
 |(n,k)::r,aq,x,h=>by
  by_cases hk:(k==NameKind.free)=true
  ·rw[show fF env ((n,k)::r) aq=_ from az hk]
   show uV ?_;rcases h with h|⟨a,h⟩
   ·rcases cj h with h|h
    ·cases h;show .inr ⟨_,by simp;rfl⟩
    ·show .inl h
   ·simp only[di]
    by_cases hx:(x==n)=true
    ·rw[hx];show .inr ⟨_,rfl⟩
    ·rw[Bool.eq_false_iff.mpr hx];show .inr ⟨a,h⟩
  ·rw[show fF env ((n,k)::r) aq=_ from aN hk]
   show uV ?_;rcases h with h|h
   ·rcases cj h with h|h
    ·cases h;show absurd rfl hk
    ·show .inl h
   ·show .inr h
def AR:∀{names:List (Str×NameKind)} {aq:List (Str×Addr)} {x:Str} {a:Addr},(fF env names aq).lookup x=some a->(x,NameKind.free)∈names\/aq.lookup x=some a
 |[],_,_,_,e=> .inr e
 |(n,k)::r,aq,x,a,e=>by
  by_cases hk:(k==NameKind.free)=true
  ·rw[show fF env ((n,k)::r) aq=_ from az hk]at e
   rcases AR e with h|h
   ·show .inl (.tail _ h)
   ·simp only[di]at h
    by_cases hx:(x==n)=true
    ·rw[dN hx,<-dN hk];show .inl (.head _)
    ·rw[Bool.eq_false_iff.mpr hx]at h;show .inr h
  ·rw[show fF env ((n,k)::r) aq=_ from aN hk]at e
   rcases AR e with h|h
   ·show .inl (.tail _ h)
   ·show .inr h
def AS:∀{names:List (Str×NameKind)} {x:Str},
  (names.map λ(n,k)=>if(k==NameKind.free&&env.scope.kind== .function&&env.kindOf n==some .cell)then(n,NameKind.cell)else(n,k)).lookup x=
   (names.lookup x).map λk=>if(k==NameKind.free&&env.scope.kind== .function&&env.kindOf x==some .cell)then NameKind.cell else k
 |[],_=>rfl
 |(n,k)::r,x=>by
  rw[List.map_cons];by_cases hx:x=n
  ·subst hx
   by_cases hc:(k==NameKind.free&&env.scope.kind== .function&&env.kindOf x==some .cell)=true
   ·simp only[hc,if_true,di,beq_self_eq_true,Option.map_some]
   ·simp only[hc,if_false,di,beq_self_eq_true,Option.map_some,Bool.false_eq_true]
  ·by_cases hc:(k==NameKind.free&&env.scope.kind== .function&&env.kindOf n==some .cell)=true
   ·simp only[hc,if_true,di,(gm hx:(x==n)=false)];show(AS (names:=r) (x:=x))
   ·simp only[hc,if_false,di,(gm hx:(x==n)=false),Bool.false_eq_true];show(AS (names:=r) (x:=x))
def AU{e:Env}(he:e.scope=relabel sc env):dX sc e:=λx=>by
 have h:e.kindOf x=(sc.names.lookup x).map λk=>if(k==NameKind.free&&env.scope.kind== .function&&env.kindOf x==some .cell)then NameKind.cell else k:=by
  change e.scope.names.lookup x=_;simp only[he];show AS
 cases hk:sc.names.lookup x with
 |none=>simp only[hk]at h;show .inl h
 |some k=>
  simp only[hk,Option.map_some]at h;split at h
  ·rename_i hc
   have:k= .free:=dN (fb (fb hc).1).1;subst this;show .inr ⟨rfl,h⟩
  ·show .inl h
abbrev iZ{S:Type}(body:V->S->M S):Nat->It->S->M S
 |0,_,_=>au
 |n+1,it,st=>λO=>match nS O it with
  |some none=>some (st,O)
  |some (some (v,cX))=>(do let gD<-body v st;iZ body n cX gD) O
  |none=>none
abbrev mX:It->Nat
 | .items l=>l.length+1
 |_=>100000
abbrev kP:List (M Bool)->M Bool
 |[]=>pure true
 |m::r=>do let b<-m;if b=true then kP r else pure false
set_option genInjectivity false in
set_option genSizeOf false in
structure i0 where
 sc:Scope
 ev:ab->Expr->M V
 b0:ab->Expr->M Bool
 elt:Expr
abbrev mf(c:i0):List Comprehension->Comprehension->V->ab×List V->M (ab×List V)
 |gs,g,v,(J,aq)=>do
  let a6<-bJ (pN c.sc g.target v J)
  let ok<-kP (g.ifs.map (c.b0 a6))
  if ok=true then match gs with
   |[]=>do
    let x<-c.ev a6 c.elt
    if aq.length<1000000 then pure (a6,aq++[x])else au
   |g'::pS=>do
    let xs<-c.ev a6 g'.iter
    let it<-ey xs
    if it.own=true then iZ (mf c pS g') (mX it) it (a6,aq)else au
  else pure (a6,aq)
variable{X m:List Addr}
def bW.nW{h':Heap}{tk:Nat}(n:bW K w env J ⟨m,i::X⟩ O s)(hi:i∉X)(hl:env.locals≠i)(hc:∀x a,env.cells.lookup x=some a->a≠i)(k:∀b o,b≠i->s.heap.get? b=some o->h'.get? b=some o):
  bW K w env J ⟨m,X⟩ O {s with heap:=h',toks:=tk}:=by
 have hs:iH ⟨m,i::X⟩ ⟨m,X⟩ s.heap h':=λa o e ho _=>cW (k a o (by rintro rfl;show ho.2 (.head _)) e) ho.1 (λq=>ho.2 (.tail _ q));have im:i∉m:=λq=>n.rel.apart i q (.head _);have off:∀a,Ph.Out ⟨m,i::X⟩ a->Ph.Out ⟨m,X⟩ a/\a≠i:=λa ho=>⟨⟨ho.1,λq=>ho.2 (.tail _ q)⟩,by rintro rfl;show ho.2 (.head _)⟩;have ns:∀{a mm},s.heap.Ns a mm->a≠i->h'.Ns a mm:=λAV ha=>pK AV λo es ep e r=>l9 o es ep (k _ _ ha e) r;show⟨⟨n.rel.len,n.rel.nodup,λa ha=>?_,λa ha=>?_,λa ha q=>n.rel.apart a ha (.tail _ q),λj a ob e1 e2=>?_,n.rel.zero⟩,?_,?_⟩
 ·show aU (n.rel.live a ha) λo e=>?_
  show⟨o,k a o (by rintro rfl;show im ha) e⟩
 ·show aU (n.rel.iU a (.tail _ ha)) λo e=>?_
  show⟨o,k a o (by rintro rfl;show hi ha) e⟩
 ·show(n.rel.objs j a ob e1 e2).gA (λo e=>k a o (by rintro rfl;show im (gZ e1)) e) hs (λ_ _ e=>e:∀(j:Nat) (a:Addr),(⟨m,i::X⟩:Ph).m[j]? =some a->(⟨m,X⟩:Ph).m[j]? =some a)
 ·obtain⟨b1,b2,⟨mg,b3⟩,⟨mc,b4,uW⟩,b5,⟨mb,b6,uX⟩,b7,b8,⟨b9,o9,oP⟩,qO⟩:=n.base
  show⟨λa o e=>k a o (off a (b2 a o e)).2 (b1 a o e),λa o e=>(off a (b2 a o e)).1,⟨mg,ns b3 (off _ b8).2⟩,(aA mc (ns b4 (off _ b5).2) uW),(off _ b5).1,(aA mb (ns b6 (off _ b7).2) uX),(off _ b7).1,(off _ b8).1,
   ⟨(off _ b9).1,o9,k _ _ (off _ b9).2 oP⟩,qO⟩
 ·obtain⟨f1,f2,f3,f4,⟨mm,f5,f6⟩,f7,f8,f9,oQ⟩:=n.fits
  show⟨f1,f2,f3,f4,(aA mm (ns f5 hl) (λx v e kk=>?_)),λx v e kk=>?_,f8,λx a e=>?_,oQ⟩
  ·show aj (f6 x v e kk) λc h1 h2=>?_;show aA c h1 ((λq=>ao.mono hs (λ_ _ e=>e:∀(j:Nat) (a:Addr),(⟨m,i::X⟩:Ph).m[j]? =some a->(⟨m,X⟩:Ph).m[j]? =some a) _ _ q:∀{v c},ao s.heap ⟨m,i::X⟩ v c->ao h' ⟨m,X⟩ v c) h2)
  ·obtain⟨a,c,h1,⟨o,h2,qP⟩,h3⟩:=f7 x v e kk
   show cF a c h1 (aA o (k a o (hc x a h1) h2) qP) ((λq=>ao.mono hs (λ_ _ e=>e:∀(j:Nat) (a:Addr),(⟨m,i::X⟩:Ph).m[j]? =some a->(⟨m,X⟩:Ph).m[j]? =some a) _ _ q:∀{v c},ao s.heap ⟨m,i::X⟩ v c->ao h' ⟨m,X⟩ v c) h3)
  ·obtain⟨h1,v,o,h2,qP⟩:=f9 x a e
   show⟨h1,v,o,k a o (hc x a e) h2,qP⟩
def a0.nW{Y:List Addr}{eX:List Addr}{dr:Shared}{h':Heap}{tk:Nat}(x:a0 (i::Y) ⟨eX,i::X⟩ dr ⟨m,i::X⟩ s)(hi:dr.heap.get? i=none)(k:∀b o,b≠i->s.heap.get? b=some o->h'.get? b=some o):
  a0 Y ⟨eX,X⟩ dr ⟨m,X⟩ {s with heap:=h',toks:=tk}:=by
 show aj x.grow λψ e hn=>?_;have ne:∀a o,dr.heap.get? a=some o->a≠i:=λa o e'=>by rintro rfl;rw[hi]at e';cases e'
 show⟨(aA ψ ?_ hn),λa o e1 h1 h2=>?_,λa o e1=>?_,x.gens,x.os⟩
 ·have:m=eX++ψ:=aJ Ph.m e
  subst this;rfl
 ·show k a o (ne a o e1) (x.keep a o e1 h1 λq=>(cj q).elim (ne a o e1) h2)
 ·show aU (x.old a o e1) λo' e'=>?_
  show⟨o',k a o' (ne a o e1) e'⟩
def Ga{t:Expr}{it:It}{c:Value}{Q:Unit->Shared->Prop}{E:Value->Shared->Prop}(ho:it.own=true\/(∃o vs,s.heap.get? i=some o/\o.cls= .type "callable_iterator"/\o.data= .fields vs))(p:gP s.heap φ i it)(h:Q () s):wpAny (Mo w) A (letOwnedTupleGo t (.ref i) c) Q E s:=by
 have main:∀(T:String) (o:Obj) (vs:Array Value),s.heap.get? i=some o->o.cls= .type T->o.data= .fields vs->(["enumerate","zip","dict_itemiterator","dict_reverseitemiterator","odict_iterator","itertools.zip_longest","itertools.pairwise"].contains T)=false->
   wpAny (Mo w) A (letOwnedTupleGo t (.ref i) c) Q E s:=by
  intro T o vs h1 h2 h3 h4;cases t<;>first|show aW h|skip
  all_goals
   induction c<;>first|show aW h|skip
   show ax (wpAny_load h1 ?_);rw[h2,h3];dsimp only;show(Eq.symm (h4))▸(aW h)
 have fin:(∃T,(∃o vs,s.heap.get? i=some o/\o.cls= .type T/\o.data= .fields vs)/\(["enumerate","zip","dict_itemiterator","dict_reverseitemiterator","odict_iterator","itertools.zip_longest","itertools.pairwise"].contains T)=false):=by
  rcases ho with ho|ho
  ·induction it with
   |items l=>
    symm
    rcases p with⟨a,cs,k,⟨o,h1,h2,h3⟩,_⟩|⟨x,left,step,h1,_⟩|⟨ty,x,t,k,iL,⟨o,h1,h2,h3⟩,_⟩
    ·left
     show aA _ (cF o _ h1 h2 h3) (by decide+kernel)
    ·left
     show aA ("range_iterator") (cF _ _ h1 rfl rfl) (by decide+kernel)
    ·left
     rcases iL with rfl|rfl
     ·show aA _ (cF o _ h1 h2 h3) (by decide+kernel)
     ·show aA _ (cF o _ h1 h2 h3) (by decide+kernel)
   |live j k=>obtain⟨a,_,⟨o,h1,h2,h3⟩⟩:=p;show aA _ (cF o _ h1 h2 h3) (by decide+kernel)
   |ref j=>cases ho
  ·show ck ho λo vs h1 h2 h3=>?_;show aA _ (cF o vs h1 h2 h3) (by decide+kernel)
 obtain⟨T,⟨o,vs,h1,h2,h3⟩,h4⟩:=fin;show main T o vs h1 h2 h3 h4
def OE{cs:List Expr}{ms:List (M Bool)}(q:fo (λc m=>gp K w A env J (isTrue c env (eval c env)) m) cs ms):∀φ O s,bW K w env J φ O s->
  cn w A φ O s (forIn cs true λc r=>if r=true then do let ok<-isTrue c env (eval c env);pure (ForInStep.yield ok)else pure (ForInStep.yield r)) (kP ms) λ_ _ b a=>a=b:=by
 induction q with
 |nil=>intro φ O s n;show .pure n.rel rfl
 | @cons c m cs ms h q ih=>
  intro φ O s n b aa e;show br (cy e) λoO ag e1 e=>?_;rw[List.forIn_cons];show ax (ax (bg (h φ O s n oO ag e1) (λk aw uN=>bK uN λba aP aS dz=>?_) λ_ _ x=>x));subst dz;show aW ?_;induction k with
  |true=>
   show bg (ih ba ag aw (n.step aP aS) b aa e) (λk a8 uy=>bK uy λcB bu ct sR=>bj cB (aP.trans bu) ct sR) λ_ _ x=>x
  |false=>
   symm
   cases fh (e);left;have aV:∀(l:List Expr) {Q:Bool->Shared->Prop} {E:Value->Shared->Prop} {s:Shared},Q false s->
     wpAny (Mo w) A (forIn l false λc r=>if r=true then do let ok<-isTrue c env (eval c env);pure (ForInStep.yield ok)else pure (ForInStep.yield r)) Q E s:=by
    intro l;induction l with
    |nil=>intro Q E s h;show aW h
    |cons a l ih=>intro Q E s h;rw[List.forIn_cons];show ax (aW (ih h))
   show aV cs (bj ba aP aS rfl)
abbrev lG(e:Expr):Bool:=e.ctorIdx !=7
def xF{e:Expr}{env:Env}(h:lG e=true)(x:Value):foldedSetIterable e env x=pure x:=by
 cases e<;>first|rfl|show absurd h g0
structure Apart(env:Env)(i:Addr):Prop where
 loc:env.locals≠i
 cell:∀x a,env.cells.lookup x=some a->a≠i
variable{D:Addr}
def bW.qK{h':Heap}{tk:Nat}{d:Addr}(n:bW K w env J φ O s)(hd:d∈φ.x)(ap:Apart env d)(k:∀b o,b≠d->s.heap.get? b=some o->h'.get? b=some o)(live:∃o,h'.get? d=some o):
  bW K w env J φ O {s with heap:=h',toks:=tk}:=by
 show⟨n.rel.qK hd k live,n.base.fL (.but (.head _) k live:a0 [d] φ s φ {s with heap:=h',toks:=tk}) (λa ha=>fW ha▸hd:∀a∈[d],a∈φ.x),n.fits.fL (.but (.head _) k live:a0 [d] φ s φ {s with heap:=h',toks:=tk}) (λa ha=>fW ha▸hd:∀a∈[d],a∈φ.x) (λq=>ap.loc (fW q)) λx a e q=>ap.cell x a e (fW q)⟩
def a0.xG{aB:Ph}{s':Shared}{d:Addr}{cs:Array Value}(x:a0 Y φ s aB s')(h1:d∉φ.m)(h2:d∉Y)(hl:s.heap.IsList d cs):s'.heap.IsList d cs:=let⟨o,e,r⟩:=hl;⟨o,x.keep d o e h1 h2,r⟩
def gP.fL{aB:Ph}{s':Shared}{it:It}(x:a0 Y φ s aB s')(hY:∀a∈Y,a∈φ.x)(ho:it.own=true->i∉φ.m/\i∉Y)(p:gP s.heap φ i it):gP s'.heap aB i it:=by
 induction it with
 |items l=>
  show aI (ho rfl) λo1 o2=>?_
  symm
  rcases p with⟨a,cs,k,⟨o,h1,jo⟩,h2,⟨o',h3,AW,n,uY⟩,h4⟩|⟨y,left,step,h1,h2⟩|⟨ty,y,t,k,iL,⟨o,h1,jo⟩,h2⟩
  ·left
   show aI ((x.gA hY) a o' h3 h2 (by simp only[ma,uY])) λk1 k2=>?_;show .inl (qB a cs k (aA o (x.keep i o h1 o1 o2) jo) k2 ⟨o',k1,AW,n,uY⟩ (h4.fL x hY))
  ·left
   show .inr (.inl (l9 y left step (x.keep i _ h1 o1 o2) h2))
  ·left
   show .inr (.inr (oM ty y t k iL (aA o (x.keep i o h1 o1 o2) jo) h2))
 |live j k=>
  symm
  show aj (p) λa h1 uA=>?_;show aj (uA) λo h2 qP=>?_;left;show aA a (x.get _ _ h1) (aA o (x.keep i o h2 (ho rfl).1 (ho rfl).2) qP)
 |ref j=>show x.get _ _ p
abbrev CompPost(K:W.Frag)(w:World)(env:Env)(Y X:List Addr)(D:Addr)(eX:List Addr)(dr:Shared)(aO:ab)(qQ:List V)(aa:Hp)(r:Result)(s':Shared):Prop:=
 r= .ok .next/\∃m',a0 (D::Y) ⟨eX,X⟩ dr ⟨m',X⟩ s'/\bW K w env aO ⟨m',X⟩ aa s'/\∃cZ,s'.heap.IsList D cZ.toArray/\aD s'.heap ⟨m',X⟩ qQ cZ
def Gb{R:Result->Shared->Prop}{elt:Expr}{gens:List Comprehension}{scope:Scope}{pos:Pos}{k:Nat}{g:Comprehension}{aq:Value}{it:It}(hg:gens[k]? =some g)(ha:g.is_async=0)(r:aX w φ O s.heap)(ho:it.own=true)(p:gP s.heap φ i it)
  (h:codeAny (Mo w) A (.compLoop (.ListComp elt gens scope pos) k (.ref i) aq env) R s):codeAny (Mo w) A (.compStart (.ListComp elt gens scope pos) k (.ref i) aq env) R s:=by
 have sS:∀{Q E:Value->Shared->Prop},Q (.ref i) s->wpAny (Mo w) A (pyIter (.ref i)) Q E s:=λq=>Oh r p (λj e=>by subst e;cases ho) q;have lH:(clausesOf (.ListComp elt gens scope pos))[k]? =some g:=hg;show codeAny_of_tree ?_;show fN λQ hQ=>?_;show wpAny_notedAt ?_;unfold compStart;simp only[lH,Option.elim_some,ha,bne_self_eq_false,Bool.false_eq_true,if_false];show ax (wpAny_askSetting (wpAny_ite ?_));split
 ·first
   |show ax (aW (hQ _ _ (aW (hQ _ _ (And.intro) rfl h))))
   |show aW (hQ _ _ (And.intro rfl h))
 ·first
   |show ax (wpAny_rule (ax (wpAny_standAt (ax (sS (aW (hQ _ _ (And.intro rfl h))))))))
   |(show ax (wpAny_rule ?_);show ax (wpAny_standAt (ax (sS (aW (hQ _ _ (And.intro rfl h)))))))
def aD.nW{X m:List Addr}{l:List V}{cs:List Value}{h':Heap}(r:aD s.heap ⟨m,i::X⟩ l cs)(k:∀b o,b≠i->s.heap.get? b=some o->h'.get? b=some o):aD h' ⟨m,X⟩ l cs:=
 aD.mono (φ:=⟨m,i::X⟩) (aB:=⟨m,X⟩) (λa o e ho _=>cW (k a o (by rintro rfl;show ho.2 (.head _)) e) ho.1 (λq=>ho.2 (.tail _ q))) (λ_ _ e=>e) l cs r
abbrev uZ(c:i0)(gs:List Comprehension)(a6:ab)(aq:List V):M (ab×List V):=match gs with
 |[]=>do
  let x<-c.ev a6 c.elt
  if aq.length<1000000 then pure (a6,aq++[x])else au
 |g'::pS=>do
  let xs<-c.ev a6 g'.iter
  let it<-ey xs
  if it.own=true then iZ (mf c pS g') (mX it) it (a6,aq)else au
def Gd(c:i0)(gs:List Comprehension)(g:Comprehension)(v:V)(J:ab)(aq:List V):mf c gs g v (J,aq)=(do
  let a6<-bJ (pN c.sc g.target v J)
  let ok<-kP (g.ifs.map (c.b0 a6))
  if ok=true then uZ c gs a6 aq else pure (a6,aq)):=by
 induction gs<;>rfl
abbrev AX(c:i0)(gens:List Comprehension)(scope:Scope)(pos:Pos)(k:Nat)(it aq:Value)(env:Env)(o:Option Comprehension):Sem PySem.Fin:=
 match o with
 |some g'=>do
  let x<-eval g'.iter env
  standAt g'.iter.pos
  if(g'.is_async !=0)=true then do
    let x<-foldedIterable g'.iter x
    let __do_lift<-holding [x] (if(g'.is_async !=0)=true then asyncIter x else pyIter x)
    let _<-runOwn (Code.compStart (c.elt.ListComp gens scope pos) (k+1) __do_lift aq env) env
    again (Code.compLoop (c.elt.ListComp gens scope pos) k it aq env)
   else do
    let x<-foldedSetIterable g'.iter env x
    let __do_lift<-holding [x] (if(g'.is_async !=0)=true then asyncIter x else pyIter x)
    let _<-runOwn (Code.compStart (c.elt.ListComp gens scope pos) (k+1) __do_lift aq env) env
    again (Code.compLoop (c.elt.ListComp gens scope pos) k it aq env)
 |none=>(eval c.elt env>>=λx=>call (Value.builtin "list.append") [aq,x]>>=λ_=>pure ())>>=λ_=>again (Code.compLoop (c.elt.ListComp gens scope pos) k it aq env)
abbrev Ge(c:i0)(gens:List Comprehension)(scope:Scope)(pos:Pos)(k:Nat)(it aq:Value)(env:Env):Sem PySem.Fin:=AX c gens scope pos k it aq env (gens[k+1]?)
abbrev AY(K:W.Frag)(w:World)(A:Around)(env:Env)(Y:List Addr)(D:Addr)(c:i0)(gens:List Comprehension)(scope:Scope)(pos:Pos)(gs:List Comprehension)(k:Nat):Prop:=
 ∀(X:List Addr) (i:Addr),(∀a∈Y,a∈X)->D∈X->Apart env i->∀(a6:ab) (aq:List V) (m:List Addr) (O:Hp) (s:Shared) (cs:List Value) (cV:ab) (u6:List V) (aH:Hp),bW K w env a6 ⟨m,X⟩ O s->s.heap.IsList D cs.toArray->aD s.heap ⟨m,X⟩ aq cs->
  uZ c gs a6 aq O=some ((cV,u6),aH)->
  wpAny (Mo w) A (Ge c gens scope pos k (.ref i) (.ref D) env) (λfin s'=>fin= .again (.compLoop (.ListComp c.elt gens scope pos) k (.ref i) (.ref D) env)/\∃m',a0 (D::Y) ⟨m,X⟩ s ⟨m',X⟩ s'/\bW K w env cV ⟨m',X⟩ aH s'/\
   ∃cZ,s'.heap.IsList D cZ.toArray/\aD s'.heap ⟨m',X⟩ u6 cZ) (λ_ _=>False) s
def lI{α:Type}{M:Model}{A:Around}{t t':Sem α}{Q:α->Shared->Prop}{E:Value->Shared->Prop}{s:Shared}(e:t=t')(h:wpAny M A t' Q E s):wpAny M A t Q E s:=e▸h
def AZ{α γ:Type}{R:α->γ->Prop}{g:α->γ}:∀{l:List α},(∀a∈l,R a (g a))->fo R l (l.map g)
 |[],_=> .nil
 |a::l,h=> .cons (h a (.head _)) (AZ λb hb=>h b (.tail _ hb))
def qR{p:Ph}{X:List Addr}(h:p.x=X):∃m,p=⟨m,X⟩:=h▸⟨p.m,rfl⟩
def A0{α:Type}{M:Model}{A:Around}{c:Prop} [Decidable c]{t t':Sem α}{Q:α->Shared->Prop}{E:Value->Shared->Prop}{s:Shared}(e:¬c)(h:wpAny M A t' Q E s):wpAny M A (if c then t else t') Q E s:=(aN e).symm▸h
abbrev A1(c:i0)(gens:List Comprehension)(scope:Scope)(pos:Pos)(k:Nat)(g:Comprehension)(it aq:Value)(env:Env):Option Value->Sem PySem.Fin
 |none=>pure (.done .next)
 |some v=>do
  letOwnedTupleGo g.target it v
  assign g.target env v
  let ok<-forIn g.ifs true λc r=>if r=true then do let ok<-isTrue c env (eval c env);pure (ForInStep.yield ok)else pure (ForInStep.yield r)
  if ok=true then Ge c gens scope pos k it aq env else again (Code.compLoop (c.elt.ListComp gens scope pos) k it aq env)
abbrev OF(c:i0)(gens:List Comprehension)(scope:Scope)(pos:Pos)(k:Nat)(it aq:Value)(env:Env)(o:Option Comprehension):Sem PySem.Fin:=do
 let some g:=o|unsupported "internal:comprehension-depth"
 standAt (if(g.is_async !=0)=true then pos else g.iter.pos)
 let o<-if(g.is_async !=0)=true then asyncNext it else pyNext it
 A1 c gens scope pos k g it aq env o
def OG{c:i0}{gens:List Comprehension}{scope:Scope}{pos:Pos}{k:Nat}{g:Comprehension}{it aq:Value}{Q:PySem.Fin->Shared->Prop}{E:Value->Shared->Prop}(hg:gens[k]? =some g)(ha:g.is_async=0)
  (h:wpAny (Mo w) A (pyNext it) (λo s=>wpAny (Mo w) A (A1 c gens scope pos k g it aq env o) Q E s) E s):wpAny (Mo w) A (compTurn (.ListComp c.elt gens scope pos) k it aq env) Q E s:=by
 show lI ((show _=OF c gens scope pos k it aq env (gens[k]?) by kernel_rfl).trans (aJ _ hg)) ?_;clear hg;obtain⟨_,_,_,a⟩:=g
 replace ha:a=0:=ha
 subst ha;show ax (wpAny_standAt (ax h))
def jQ{α β:Type}{o:Option α}{f:α->M β}{O:Hp}{p:β×Hp}(h:(bJ o>>=f) O=some p):∃x,o=some x/\f x O=some p:=by
 induction o with
 |none=>cases h
 |some x=>show⟨x,rfl,h⟩
def OH{c:i0}{gens:List Comprehension}{scope:Scope}{pos:Pos}(hh:A.handled=none)(kQ:∀J e,gp K w A env J (isTrue e env (eval e env)) (c.b0 J e))
  (js:dX c.sc env) (mY:env.locals∈Y) (kR:∀x a,c.sc.names.lookup x=some .cell->env.cells.lookup x=some a->a∈Y) (sT:D∉Y)
  {gs:List Comprehension} {k:Nat} {g:Comprehension} (u7:AY K w A env Y D c gens scope pos gs k)
  {X:List Addr} (oR:∀a∈Y,a∈X) (kS:D∈X) (pT:Apart env i) {m:List Addr} {it:It} {v:V} {cv:Value} {aq:List V} {cs:List Value} {p':(ab×List V)×Hp}
  (n:bW K w env J ⟨m,X⟩ O s) (hD:s.heap.IsList D cs.toArray) (pD:aD s.heap ⟨m,X⟩ aq cs) (pv:ao s.heap ⟨m,X⟩ v cv) (ho:it.own=true) (iM:gP s.heap ⟨m,X⟩ i it) (e:mf c gs g v (J,aq) O=some p'):
  wpAny (Mo w) A (A1 c gens scope pos k g (.ref i) (.ref D) env (some cv)) (λfin s'=>fin= .again (.compLoop (.ListComp c.elt gens scope pos) k (.ref i) (.ref D) env)/\∃m',a0 (D::Y) ⟨m,X⟩ s ⟨m',X⟩ s'/\bW K w env p'.1.1 ⟨m',X⟩ p'.2 s'/\
   ∃cZ,s'.heap.IsList D cZ.toArray/\aD s'.heap ⟨m',X⟩ p'.1.2 cZ) (λ_ _=>False) s:=by
 have apart:∀{m O s},aX w ⟨m,X⟩ O s->D∉m:=λr q=>r.apart D q kS;show fN λQ hQ=>?_;rw[Gd]at e;show aj (jQ e) λa6 e5 e8=>?_;clear e;show br (cy e8) λok cI e4 e7=>?_;clear e8;have ow:Own Y c.sc env ⟨m,X⟩:=⟨oR,js,mY,kR⟩;show ax (Ga (.inl ho) iM ?_);clear iM;show ax (bg (AO hh n ow pv e5) (λ_ a8 qS=>aI qS λbu dK=>?_) λ_ _ x=>x.elim);have Gf:=pD.fL bu ow.sub;have sU:=bu.xG (apart n.rel) sT hD;clear pv n e5 ow qS hD pD;show ax (bg (OE (AZ λa _=>kQ a6 a) ⟨m,X⟩ O a8 dK ok cI e4) (λb cN Gg=>bK Gg λkM c9 g9 pb=>?_) λ_ _ x=>x.elim);clear Gg e4;subst pb;have iv:=dK.step c9 g9;have Gh:=c9.xG (apart dK.rel) (λq=>(nomatch q)) sU;have Gi:=Gf.step c9;have st:=bu.more (Y':=D::Y) λa ha=> .tail _ ha;have st:=st.trans (c9.more λ_ q=>(nomatch q));have ex:=c9.x;clear g9 dK sU Gf c9 bu;induction kM with|_ iY abd=>
 subst ex;induction b with
 |false=>
  cases fh e7;show aW (hQ _ _ ⟨rfl,bj iY st iv (aA cs Gh Gi)⟩)
 |true=>
  show bg (u7 _ i oR kS pT a6 aq iY cI cN cs p'.1.1 p'.1.2 p'.2 iv Gh Gi e7) (λfin eY ⟨hf,u9,fc,q⟩=>hQ _ _ ⟨hf,u9,st.trans fc,q⟩) λ_ _ x=>x.elim
def Gj{c:i0}{gens:List Comprehension}{scope:Scope}{pos:Pos}(hh:A.handled=none)(kQ:∀J e,gp K w A env J (isTrue e env (eval e env)) (c.b0 J e))
  (js:dX c.sc env) (mY:env.locals∈Y) (kR:∀x a,c.sc.names.lookup x=some .cell->env.cells.lookup x=some a->a∈Y) (xH:Apart env D) (sT:D∉Y)
  (gs:List Comprehension) (k:Nat) (g:Comprehension) (hg:gens[k]? =some g) (OI:g.is_async=0) (u7:AY K w A env Y D c gens scope pos gs k)
  (X:List Addr) (i:Addr) (oR:∀a∈Y,a∈X) (kS:D∈X) (A2:i∉X) (pT:Apart env i)
  (eX:List Addr) (dr:Shared) (OJ:dr.heap.get? i=none) (p':(ab×List V)×Hp)
  (bD:Nat) (it:It) (J:ab) (aq:List V) (m:List Addr) (O:Hp) (s:Shared) (fe:it.own=true) (n:bW K w env J ⟨m,i::X⟩ O s) (p:gP s.heap ⟨m,i::X⟩ i it)
  (hD:∃cs,s.heap.IsList D cs.toArray/\aD s.heap ⟨m,i::X⟩ aq cs) (st:a0 (i::D::Y) ⟨eX,i::X⟩ dr ⟨m,i::X⟩ s) (e:iZ (mf c gs g) bD it (J,aq) O=some p'):
  codeAny (Mo w) A (.compLoop (.ListComp c.elt gens scope pos) k (.ref i) (.ref D) env) (CompPost K w env Y X D eX dr p'.1.1 p'.1.2 p'.2) s:=by
 have A3:D≠i:=λq=>A2 (q▸kS);have OK:i∉D::Y:=λq=>(cj q).elim (λe=>A3 e.symm) λq=>A2 (oR i q);have OL:∀a∈D::Y,a∈i::X:=λa ha=> .tail _ ((cj ha).elim (λe=>e▸kS) λh=>oR a h);show codeAny_loop rfl (λf s=>∃(it:It) (J:ab) (aq:List V) (m:List Addr) (O:Hp),it.own=true/\bW K w env J ⟨m,i::X⟩ O s/\gP s.heap ⟨m,i::X⟩ i it/\
  (∃cs,s.heap.IsList D cs.toArray/\aD s.heap ⟨m,i::X⟩ aq cs)/\a0 (i::D::Y) ⟨eX,i::X⟩ dr ⟨m,i::X⟩ s/\iZ (mf c gs g) f it (J,aq) O=some p')
  (λf s hI=>?_) bD (E0 it J aq m O fe n p hD st e)
 clear n p hD st e;show MO (hI) λit J aq m O fe n p Gk st e=>?_;show aj (Gk) λcs hD pD=>?_;clear hI Gk;induction f with
 |zero=>show jI (show(au:M (ab×List V)) O=_ from e)
 |succ f ih=>
  clear ih;show wpAny_noted (OG hg OI ?_);show fN λQ hQ=>?_
  replace e:(match nS O it with|some none=>some ((J,aq),O)|some (some (v,cX))=>(do let gD<-mf c gs g v (J,aq);iZ (mf c gs g) f cX gD) O|none=>none)=some p':=e
  generalize en:nS O it=o at e;induction o with
  |none=>cases e
  |some o=>
   show FU hh n.rel (.head _) p en (And.intro (λv cX ho cv h' tk kk live pv iM Gl=>?_) (λho h' tk kk=>?_))
   ·subst ho
    symm
    show br (cy e) λq aH e1 e2=>?_;left;have n₁:bW K w env J ⟨m,i::X⟩ O {s with heap:=h',toks:=tk}:=n.qK (.head _) pT kk live;show hQ _ _ (bg (OH hh kQ js mY kR sT u7 (λa ha=> .tail _ (oR a ha)) (.tail _ kS) pT n₁ (let⟨o,e,r⟩:=hD;(aA o (kk D o A3 e) r)) (aD.mono (qL (.head _) kk) (λ_ _ e=>e) _ _ pD) pv Gl iM e1) (λfin eY ⟨hf,u9,fc,mZ,q⟩=>?_) λ_ _ x=>x.elim);subst hf;show⟨rfl,f,Nat.lt_succ_self _,E0 cX _ _ u9 _ Gl mZ (gP.fL fc OL (λ_=>⟨λq=>n₁.rel.apart i q (.head _),OK⟩) iM) q ((st.trans (.but (.head _) kk live)).trans (fc.more λa ha=> .tail _ ha)) e2⟩
   ·subst ho
    cases bN (e);show hQ _ _ (aW ⟨rfl,bj m (st.nW OJ kk) (n.nW A2 pT.loc pT.cell kk) (aA cs (let⟨o,e,r⟩:=hD;(aA o (kk D o A3 e) r)) (pD.nW kk))⟩)
def bW.A4{X m:List Addr}{h':Heap}{tk:Nat}(n:bW K w env J ⟨m,X⟩ O s)(hi:s.heap.get? i=none)(k:∀b o,s.heap.get? b=some o->h'.get? b=some o)(live:∃o,h'.get? i=some o):
  bW K w env J ⟨m,i::X⟩ O {s with heap:=h',toks:=tk}:=by
 have ne:∀a o,s.heap.get? a=some o->a≠i:=λa o e=>by rintro rfl;rw[hi]at e;cases e
 have hs:iH ⟨m,X⟩ ⟨m,i::X⟩ s.heap h':=λa o e ho _=>cW (k a o e) ho.1 (λq=>(cj q).elim (ne a o e) ho.2);have rep:∀{v c},ao s.heap ⟨m,X⟩ v c->ao h' ⟨m,i::X⟩ v c:=λq=>ao.mono hs (λ_ _ e=>e:∀(j:Nat) (a:Addr),(⟨m,X⟩:Ph).m[j]? =some a->(⟨m,i::X⟩:Ph).m[j]? =some a) _ _ q;have off:∀a o,s.heap.get? a=some o->Ph.Out ⟨m,X⟩ a->Ph.Out ⟨m,i::X⟩ a:=λa o e ho=>⟨ho.1,λq=>(cj q).elim (ne a o e) ho.2⟩;have ns:∀{a mm},s.heap.Ns a mm->h'.Ns a mm:=λA5=>pK A5 λo es ep e r=>l9 o es ep (k _ _ e) r;show⟨⟨n.rel.len,n.rel.nodup,λa ha=>?_,λa ha=>?_,λa ha q=>?_,λj a ob e1 e2=>?_,n.rel.zero⟩,?_,?_⟩
 ·show aU (n.rel.live a ha) λo e=>?_;show⟨o,k a o e⟩
 ·rcases Or.imp_left Eq.symm (cj ha)with rfl|ha
  ·show live
  ·show aU (n.rel.iU a ha) λo e=>?_;show⟨o,k a o e⟩
 ·rcases Or.imp_left Eq.symm (cj q)with rfl|q
  ·show aU (n.rel.live _ ha) λo e=>?_;rw[hi]at e;cases e
  ·show n.rel.apart a ha q
 ·show(n.rel.objs j a ob e1 e2).gA (k a) hs (λ_ _ e=>e:∀(j:Nat) (a:Addr),(⟨m,X⟩:Ph).m[j]? =some a->(⟨m,i::X⟩:Ph).m[j]? =some a)
 ·obtain⟨b1,b2,⟨mg,b3⟩,⟨mc,b4,uW⟩,b5,⟨mb,b6,uX⟩,b7,b8,⟨b9,o9,oP⟩,qO⟩:=n.base
  show⟨λa o e=>k a o (b1 a o e),λa o e=>off a o (b1 a o e) (b2 a o e),⟨mg,ns b3⟩,(aA mc (ns b4) uW),(let⟨o,_,_,e,_⟩:=b4;off _ o e b5),(aA mb (ns b6) uX),(let⟨o,_,_,e,_⟩:=b6;off _ o e b7),
   (let⟨o,_,_,e,_⟩:=b3;off _ o e b8),⟨off _ _ oP b9,o9,k _ _ oP⟩,qO⟩
 ·obtain⟨f1,f2,f3,f4,⟨mm,f5,f6⟩,f7,f8,f9,oQ⟩:=n.fits
  show⟨f1,f2,f3,f4,(aA mm (ns f5) (λx v e kk=>?_)),λx v e kk=>?_,f8,λx a e=>?_,oQ⟩
  ·show aj (f6 x v e kk) λc h1 h2=>?_;show aA c h1 (rep h2)
  ·show ck (f7 x v e kk) λa c h1 h2 h3=>?_
   show cF a c h1 (h2.keeps k) (rep h3)
  ·obtain⟨h1,v,h2⟩:=f9 x a e
   show⟨h1,v,h2.keeps k⟩
def bW.apart(n:bW K w env J φ O s)(hi:s.heap.get? i=none):Apart env i:=by
 show⟨λq=>?_,λx a e q=>?_⟩
 ·subst q
  show aj (n.fits.ns) λm uz _=>?_;show pK (uz) λo _ _ e _=>?_;rw[hi]at e;cases e
 ·subst q
  obtain⟨_,v,o,e',_⟩:=n.fits.all x a e;rw[hi]at e';cases e'
def wpAny_runOwn{c:Code}{Q:Flow->Shared->Prop}(h:codeAny (Mo w) A c (λr s'=>match r with| .ok f=>Q f s'| .error _=>False) s):wpAny (Mo w) A (runOwn c env) Q (λ_ _=>False) s:=by
 show wpAny_onRaise (wpAny_run (codeAny_mono h λr s' q=>by induction r<;>first|show q|show q.elim))
def Gm{c:i0}{gens:List Comprehension}{scope:Scope}{pos:Pos}(hh:A.handled=none)(jR:∀J e,Ev K w A env J (eval e env) (c.ev J e))(kQ:∀J e,gp K w A env J (isTrue e env (eval e env)) (c.b0 J e))
  (js:dX c.sc env) (mY:env.locals∈Y) (kR:∀x a,c.sc.names.lookup x=some .cell->env.cells.lookup x=some a->a∈Y) (xH:Apart env D) (sT:D∉Y):
  ∀(gs:List Comprehension) (k:Nat),gens.drop (k+1)=gs->(∀g'∈gs,g'.is_async=0/\lG g'.iter=true)->AY K w A env Y D c gens scope pos gs k
 |[],k,oS,_=>by
  intro X i oR kS pT a6 aq m O s cs cV u6 aH n hD pD e;have hk:=List.getElem?_eq_none (List.drop_eq_nil_iff.mp oS);show lI (aJ (AX c gens scope pos k (.ref i) (.ref D) env) hk) ?_;show br (cy (show(do let x<-c.ev a6 c.elt;if aq.length<1000000 then pure (a6,aq++[x])else au:M (ab×List V)) O=_ from e)) λx ag e1 e=>?_;show aI (fO e) λhz e=>?_;show aI (dh (fh e)) λq1 q2=>?_;subst q2;rw[(dh q1).1,(dh q1).2];have OM:D∉m:=λq=>n.rel.apart D q kS;show fN λQ hQ=>?_;show ax (ax (bg (jR a6 c.elt ⟨m,X⟩ O s n x _ e1) (λcv aw va=>bK va λba aP aS pv=>?_) λ_ _ x=>x.elim));show aU (qR aP.x) λm₁ vb=>?_;subst vb;have n₁:=n.step aP aS;have oT:=aP.xG OM (λq=>(nomatch q)) hD;have ON:=pD.step aP;show ax (wpAny_list_append oT (λh' hl hs=>?_) (jJ (by simp only[List.size_toArray,<-pD.length];lia)));have kk:=λb o (hb:b≠D)=>hs.extBut b o hb;have live:∃o,h'.get? D=some o:=let⟨o,e,_⟩:=hl;⟨o,e⟩;show aW (aW (hQ _ _ ⟨rfl,m₁,(aP.more λ_ q=>(nomatch q)).trans (.but (tk:=aw.toks) (.head _) kk live),n₁.qK (tk:=aw.toks) kS xH kk live,cs++[cv],?_,?_⟩))
  ·have e:cs.toArray.push cv=(cs++[cv]).toArray:=by simp
   rw[<-e];show hl
  ·show(aD.mono (qL (φ:=⟨m₁,X⟩) kS kk) (λ_ _ e=>e) _ _ ON).append (by show cF cv ([]) rfl (ao.mono (qL (φ:=⟨m₁,X⟩) kS kk) (λ_ _ e=>e) _ _ pv) (by delta aD;rfl))
 |g'::pS,k,oS,bP=>by
  intro X i oR kS pT a6 aq m O s cs cV u6 aH n hD pD e;have hk:gens[k+1]? =some g':=(List.getElem?_drop (i:=k+1) (j:=0)).symm.trans (aJ (λl=>l[0]?) oS);have OO:gens.drop (k+1+1)=pS:=List.drop_drop.symm.trans (aJ (List.drop 1) oS);have ih:=Gm (c:=c) (gens:=gens) (scope:=scope) (pos:=pos) hh jR kQ js mY kR xH sT pS (k+1) OO λg hg=>bP g (.tail _ hg);have na:¬(g'.is_async !=0)=true:=by rw[(bP g' (.head _)).1];decide
  show lI (aJ (AX c gens scope pos k (.ref i) (.ref D) env) hk) ?_;show br (cy (show(do let xs<-c.ev a6 g'.iter;let it<-ey xs;if it.own=true then iZ (mf c pS g') (mX it) it (a6,aq)else au:M (ab×List V)) O=_ from e)) λxs ag e1 e=>?_;show br (cy e) λit cI e2 e3=>?_;show aI (fO e3) λfe e4=>?_;show fN λQ hQ=>?_;show ax (bg (jR a6 g'.iter ⟨m,X⟩ O s n xs ag e1) (λcv aw OP=>bK OP λba aP aS pv=>?_) λ_ _ x=>x.elim);show aU (qR aP.x) λm₁ vb=>?_;subst vb;have n₁:=n.step aP aS;have oT:=aP.xG (λq=>n.rel.apart D q kS) (λq=>(nomatch q)) hD;show ax (wpAny_standAt (A0 na (ax (lI (xF (bP g' (.head _)).2 _) (aW (ax (eM (A0 na (AI aS pv e2 λj h' tk bB hf kk iM=>?_)))))))));subst bB
  replace iM:=AH fe▸iM
  have jX:j∉X:=λq=>by show aU (n₁.rel.iU j q) λo e=>?_;rw[(hf fe).1]at e;cases e
  show ax (wpAny_runOwn ?_);show Gb hk (bP g' (.head _)).1 (n₁.A4 (hf fe).1 kk (hf fe).2:bW K w env a6 ⟨m₁,j::X⟩ cI {aw with heap:=h',toks:=tk}).rel fe iM ?_;show codeAny_mono (Gj hh kQ js mY kR xH sT pS (k+1) g' hk (bP g' (.head _)).1 ih X j oR kS jX (n₁.apart (hf fe).1) m₁ aw (hf fe).1 ((cV,u6),aH) (mX it) it a6 aq m₁ cI {aw with heap:=h',toks:=tk} fe (n₁.A4 (hf fe).1 kk (hf fe).2:bW K w env a6 ⟨m₁,j::X⟩ cI {aw with heap:=h',toks:=tk}) iM
   (aA cs (let⟨o,e,r⟩:=oT;(aA o (kk _ _ e) r)) (aD.mono (φ:=⟨m₁,X⟩) (aB:=⟨m₁,j::X⟩) (λa o e' ho _=>cW (kk a o e') ho.1 (λq=>(cj q).elim (λq=>by rw[q,(hf fe).1]at e';cases e') ho.2)) (λ_ _ e=>e) _ _ (pD.step aP)))
   (a0.heap (tk:=tk) kk) e4) λr eY ⟨hr,u9,fc,mZ,q⟩=>?_
  subst hr;show aW (hQ _ _ ⟨rfl,u9,(aP.more λ_ q=>(nomatch q)).trans fc,mZ,q⟩)
def A6{f:Str->Bool}:∀{J:ab} {x:Str},(J.filter λp=>f p.1).lookup x=if f x=true then J.lookup x else none
 |[],x=>by simp
 |(y,v)::J,x=>by
  have ih:=A6 (f:=f) (J:=J) (x:=x);simp only[List.filter_cons];by_cases hx:x=y
  ·subst hx
   by_cases hf:f x=true
   ·simp only[hf,if_true,di,beq_self_eq_true]
   ·simp only[hf,Bool.false_eq_true,if_false]at ih|-;show ih
  ·by_cases hf:f y=true
   ·simp only[hf,if_true,di,(gm hx:(x==y)=false)];show ih
   ·simp only[hf,Bool.false_eq_true,if_false,di,(gm hx:(x==y)=false)];show ih
abbrev pU(bS:Scope)(J:ab):ab:=J.filter λp=>bS.names.lookup p.1==some NameKind.free
abbrev nX(sc bS:Scope):Bool:=bS.kind== .function&&bS.names.all (λx=>bS.names.lookup x.1==some x.2&&(x.2 != .free||sc.names.lookup x.1==some .cell||sc.names.lookup x.1==some .free))
def qT{sc bS:Scope}(h:nX sc bS=true):bS.kind= .function/\(∀x k,(x,k)∈bS.names->bS.names.lookup x=some k)/\∀x,(x,NameKind.free)∈bS.names->sc.names.lookup x=some .cell\/sc.names.lookup x=some .free:=by
 show aI (fb h) λh1 h2=>?_;have h2:=List.all_eq_true.mp h2;show cW (dN h1) (λx k hx=>dN (fb (h2 _ hx)).1) (λx hx=>?_);have:=(fb (h2 _ hx)).2;simp only[bne_self_eq_false,Bool.false_or,Bool.or_eq_true,beq_iff_eq]at this;show this
variable{x Z:List Addr}
def aX.mj{h h':Heap}(r:aX w ⟨m,x⟩ O h)(hi:fj h Z)(k:∀b o,h.get? b=some o->h'.get? b=some o)(live:∀a∈Z,∃o,h'.get? a=some o):aX w ⟨m,Z++x⟩ O h':=by
 show⟨r.len,r.nodup,λa ha=>?_,λa ha=>?_,λa ha q=>?_,λj a ob e1 e2=>?_,r.zero⟩
 ·show aU (r.live a ha) λo e=>?_;show⟨o,k a o e⟩
 ·rcases gN ha with ha|ha
  ·show live a ha
  ·show aU (r.iU a ha) λo e=>?_;show⟨o,k a o e⟩
 ·rcases gN q with q|q
  ·show aU (r.live _ ha) λo e=>?_;rw[hi a q]at e;cases e
  ·show r.apart a ha q
 ·show(r.objs j a ob e1 e2).gA (k a) (ur (φ:=⟨m,x⟩) hi k) λ_ _ e=>e
def cO.mj{h h':Heap}(b:cO K ⟨m,x⟩ h)(hi:fj h Z)(k:∀b o,h.get? b=some o->h'.get? b=some o):cO K ⟨m,Z++x⟩ h':=by
 have off:∀a o,h.get? a=some o->Ph.Out ⟨m,x⟩ a->Ph.Out ⟨m,Z++x⟩ a:=λa o e ho=>⟨ho.1,λq=>(gN q).elim (λq=>by rw[hi a q]at e;cases e) ho.2⟩;have ns:∀{a mm},h.Ns a mm->h'.Ns a mm:=λOQ=>pK OQ λo es ep e r=>l9 o es ep (k _ _ e) r
 symm
 obtain⟨b1,b2,⟨mg,b3⟩,⟨mc,b4,uW⟩,b5,⟨mb,b6,uX⟩,b7,b8,⟨b9,o9,oP⟩,qO⟩:=b;left;show⟨λa o e=>k a o (b1 a o e),λa o e=>off a o (b1 a o e) (b2 a o e),⟨mg,ns b3⟩,(aA mc (ns b4) uW),(let⟨o,_,_,e,_⟩:=b4;off _ o e b5),(aA mb (ns b6) uX),(let⟨o,_,_,e,_⟩:=b6;off _ o e b7),
  (let⟨o,_,_,e,_⟩:=b3;off _ o e b8),⟨off _ _ oP b9,o9,k _ _ oP⟩,qO⟩
def a0.nY{Y:List Addr}{m' x':List Addr}{s':Shared}(st:a0 Y ⟨m,x⟩ s ⟨m',x⟩ s'):a0 Y ⟨m,x'⟩ s ⟨m',x'⟩ s':=by
 show aj st.grow λψ e hn=>?_;have:m'=m++ψ:=aJ Ph.m e;subst this;show⟨(aA ψ rfl hn),st.keep,st.old,st.gens,st.os⟩
def OR{bS:Scope}{E:Value->Shared->Prop}{Q:Env->Shared->Prop}(n:bW K w env J ⟨m,x⟩ O s)(hl:dX sc env)(ok:nX sc bS=true)
  (h:∀(gr:Env) (h':Heap) (Y:List Addr),(∀b o,s.heap.get? b=some o->h'.get? b=some o)->fj s.heap Y->(∀a∈Y,∃o,h'.get? a=some o)->(∀x a,bS.names.lookup x=some .cell->gr.cells.lookup x=some a->a∈Y)->gr.locals∈Y->
   (∀x a,gr.cells.lookup x=some a->a∈Y\/∃y,env.cells.lookup y=some a)->gB ⟨m,Y++x⟩ {gr with scope:=relabel bS env} (pU bS J) h'->Q gr {s with heap:=h'}):
  wpAny (Mo w) A (newFunctionEnv bS env.globals (fF env bS.names []) [] env.qual none .none (some env)) Q E s:=by
 show iS (qT ok) λOS Gn OT=>?_;have Gp:∀x,(x,NameKind.free)∈bS.names->env.kindOf x=some .cell\/env.kindOf x=some .free:=λx hx=>by
  rcases hl x with h|⟨h1,h2⟩
  ·rw[h];show OT x hx
  ·show .inl h2
 have OU:∀x∈bS.names,x.2= .free->∃a,env.cells.lookup x.1=some a:=λx hx e=>(λx hx=>n.fits.has x (Gp x hx):∀x,(x,NameKind.free)∈bS.names->∃a,env.cells.lookup x=some a) x.1 (by obtain⟨y,k⟩:=x;cases e;show hx);have pV:∀x a,(fF env bS.names []).lookup x=some a->env.cells.lookup x=some a:=λx a e=>AQ OU (λ_ _ h=>by simp at h) x a e;rw[newFunctionEnv];show ax (wpAny_alloc ?_);show ax (wpAny_layCells _ (λname kind cells=>by cases oU:kind==NameKind.cell<;>simp[oU]) _ _ _ _ ?_);generalize oV:s.heap.push {cls:= .type (if(some env).isSome then "dict" else "frame"),data:= .dict #[]}=H1;have kT:H1.objs.size=s.heap.objs.size+1:=by rw[<-oV,Heap.size_push]
 have lt:∀a v,s.heap.IsCell a v->a<H1.objs.size:=λa v hc=>by simp only[kT];show Nat.lt_succ_of_lt hc.lt
 have ci:=xB (lo:=H1.objs.size) (cl:=fF env bS.names []) bS.names (bS.names.filterMap λx=>if x.2== .cell then some x.1 else none) H1 (fF env bS.names []) (Nat.le_refl _)
  ⟨λy a e=> .inl ⟨e,let⟨_,v,hc⟩:=n.fits.all y a (pV y a e);lt a v hc⟩,λy z a ha e1 e2=>n.fits.inj y z a (pV y a e1) (pV z a e2)⟩
  λy hy hk=>List.mem_filterMap.mpr (aA y hy (by rw[az (by rw[hk];rfl)]))
 have abe:∀y,y∈(bS.names.filterMap λx=>if x.2== .cell then some x.1 else none)->(y,NameKind.cell)∈bS.names:=λy hy=>by
  obtain⟨⟨z,k⟩,hz,he⟩:=List.mem_filterMap.mp hy;by_cases hk:(k==NameKind.cell)=true
  ·rw[az hk]at he;cases he;show(dN hk)▸(hz)
  ·rw[aN hk]at he;cases he
 show aI (xE bS.names H1) λvc A7=>?_;have mn:∀b o,s.heap.get? b=some o->(pushCells H1 bS.names).get? b=some o:=λb o e=>pushCells_keeps _ _ b o ((λb o e=>oV▸Heap.get?_push_of_some _ e:∀b o,s.heap.get? b=some o->H1.get? b=some o) b o e);have sV:∀a,s.heap.objs.size<=a->a<(pushCells H1 bS.names).objs.size->a∈List.range' s.heap.objs.size ((pushCells H1 bS.names).objs.size-s.heap.objs.size):=λa h1 h2=>List.mem_range'_1.mpr ⟨h1,Nat.lt_of_lt_of_le h2 (Nat.le_of_eq (Nat.add_sub_cancel' (a9 h1 (Nat.le_of_lt h2))).symm)⟩;have nZ:fj s.heap (List.range' s.heap.objs.size ((pushCells H1 bS.names).objs.size-s.heap.objs.size)):=λa ha=>by
  have:=(List.mem_range'_1.mp ha).1;cases e:s.heap.get? a with
  |none=>rfl
  |some o=>show absurd (Heap.lt_size e) (Nat.not_lt.mpr this)
 have A8:∀y,bS.names.lookup y=some .free->(cellsFrom H1.objs.size bS.names (fF env bS.names [])).lookup y=(fF env bS.names []).lookup y:=λy hy=>xD _ _ _ _ λk hk e hc=>by
  obtain⟨z,kk⟩:=k;cases e;cases hc;have:=Gn _ _ hk;rw[hy]at this;cases this
 show aW (h _ (pushCells H1 bS.names) (List.range' s.heap.objs.size ((pushCells H1 bS.names).objs.size-s.heap.objs.size)) mn nZ (λa ha=>?_) (λy a e1 e2=>?_) (sV s.heap.objs.size (Nat.le_refl _) (Nat.lt_of_lt_of_le (by rw[kT];show Nat.lt_succ_self _) vc)) (λy a e=>?_) ?_)
 ·show aI (List.mem_range'_1.mp ha) λh1 h2=>?_
  by_cases e:a=s.heap.objs.size
  ·subst e;show⟨_,pushCells_keeps _ _ _ _ (oV▸dT _ rfl)⟩
  ·have h3:=h2
   have h4:s.heap.objs.size+((pushCells H1 bS.names).objs.size-s.heap.objs.size)=(pushCells H1 bS.names).objs.size:=Nat.add_sub_cancel' (a9 (by rw[kT];show Nat.le_succ _) vc);simp only[h4]at h3;show A7 a ((kT)▸Nat.lt_of_le_of_ne h1 λq=>e q.symm) h3
 ·rcases ci.at_ y a e2 with⟨h1,_⟩|⟨h1,h2,_⟩
  ·rw[(λx a e=>(AR e).elim (λh=>Gn _ _ h) (λh=>by simp at h):∀x a,(fF env bS.names []).lookup x=some a->bS.names.lookup x=some .free) y a h1]at e1;cases e1
  ·show sV a (Nat.le_of_succ_le (a9 (Nat.le_of_eq kT.symm) h1)) h2
 ·rcases ci.at_ y a e with⟨h1,_⟩|⟨h1,h2,_⟩
  ·show .inr ⟨y,pV y a h1⟩
  ·show .inl (sV a (Nat.le_of_succ_le (a9 (Nat.le_of_eq kT.symm) h1)) h2)
 ·have freeOf:∀y,(pU bS J).lookup y=if(bS.names.lookup y==some NameKind.free)=true then J.lookup y else none:=λy=>A6 (f:=λy=>bS.names.lookup y==some NameKind.free)
  show⟨OS,n.fits.glob,n.fits.nL,λq=>?_,(aA (λ_=>none) ?_ (λy v e k=>?_)),λy v e k=>?_,λy k=>?_,λy a e=>?_,λy z a e1 e2=>?_⟩
  ·show aU (n.rel.live _ q) λo e=>?_;show Nat.lt_irrefl _ (Heap.lt_size e)
  ·show(oV▸Heap.Ns.new s.heap _:H1.Ns s.heap.objs.size λ_=>none).keeps (pushCells_keeps _ _)
  ·rw[freeOf]at e
   split at e
   ·rename_i hf
    symm
    rcases(AU rfl:dX bS {(({scope:=bS,locals:=s.heap.objs.size,globals:=env.globals,cells:=cellsFrom H1.objs.size bS.names (fF env bS.names []),qual:=env.qual,func:=none,code:=env.code,frame:=env.frame,builtins:=env.builtins}:Env))with scope:=relabel bS env}) y with h|⟨h,h'⟩
    ·left
     rw[h,dN hf]at k;cases k
    ·rw[h']at k;cases k
   ·cases e
  ·rw[freeOf]at e
   split at e
   ·rename_i hf
    symm
    show ck (n.fits.cells y v e (Gp y (mem_of_lookup (dN hf):(y,NameKind.free)∈bS.names))) λa c h1 h2 h3=>?_;show aU (uV (env:=env) (aq:=[]) (.inl (mem_of_lookup (dN hf):(y,NameKind.free)∈bS.names))) λa' h4=>?_;left;have h5:=pV y a' h4;rw[h1]at h5;cases h5;show cF a c ((A8 y (dN hf)).trans h4) (h2.keeps mn) (ao.mono (ur (φ:=⟨m,x⟩) nZ mn) (λ_ _ e=>e) _ _ h3)
   ·cases e
  ·show xC _ _ _ _ ?_
   rcases(AU rfl:dX bS {(({scope:=bS,locals:=s.heap.objs.size,globals:=env.globals,cells:=cellsFrom H1.objs.size bS.names (fF env bS.names []),qual:=env.qual,func:=none,code:=env.code,frame:=env.frame,builtins:=env.builtins}:Env))with scope:=relabel bS env}) y with h|⟨h,h'⟩
   ·rw[h]at k
    rcases k with k|k
    ·show .inl (mem_of_lookup k)
    ·show .inr (uV (.inl (mem_of_lookup k)))
   ·show .inr (uV (.inl (mem_of_lookup h)))
  ·rcases ci.at_ y a e with⟨h1,_⟩|⟨h1,h2,h3,_⟩
   ·obtain⟨h4,v,h5⟩:=n.fits.all y a (pV y a h1);show⟨h4,v,h5.keeps mn⟩
   ·show⟨λq=>by show aU (n.rel.live _ q) λo e=>?_;have:=Heap.lt_size e;rw[kT]at h1;show absurd (Nat.lt_of_lt_of_le this (Nat.le_of_succ_le h1)) (Nat.lt_irrefl _),none,h3⟩
  ·by_cases ha:H1.objs.size<=a
   ·show ci.inj y z a ha e1 e2
   ·rcases ci.at_ y a e1 with⟨h1,_⟩|⟨h1,_⟩
    ·rcases ci.at_ z a e2 with⟨h2,_⟩|⟨h2,_⟩
     ·show n.fits.inj y z a (pV y a h1) (pV z a h2)
     ·show absurd h2 ha
    ·show absurd h1 ha
abbrev vd(c:i0)(first:M V)(gs:List Comprehension)(g:Comprehension)(J:ab):M (List V):=do
 let xs<-first
 let it<-ey xs
 if it.own=true then do
  let r<-iZ (mf c gs g) (mX it) it (pU c.sc J,[])
  pure r.2
 else au
def n5{x':List Addr}{h:Heap}(hx:∀a∈x',a∈x):iH ⟨m,x⟩ ⟨m,x'⟩ h h:=λa o e ho _=>⟨e,ho.1,λq=>ho.2 (hx a q)⟩
def aX.jt{x':List Addr}{h:Heap}(r:aX w ⟨m,x⟩ O h)(hx:∀a∈x',a∈x):aX w ⟨m,x'⟩ O h:=
 ⟨r.len,r.nodup,r.live,λa ha=>r.iU a (hx a ha),λa ha q=>r.apart a ha (hx a q),λj a ob e1 e2=>(r.objs j a ob e1 e2).gA (λ_ e=>e) (n5 hx) λ_ _ e=>e,r.zero⟩
def gB.mj{h h':Heap}(f:gB ⟨m,x⟩ env J h)(hi:fj h Z)(k:∀b o,h.get? b=some o->h'.get? b=some o):gB ⟨m,Z++x⟩ env J h':=by
 have hs:=ur (φ:=⟨m,x⟩) hi k;obtain⟨f1,f2,f3,f4,⟨mm,f5,f6⟩,f7,f8,f9,oQ⟩:=f;show⟨f1,f2,f3,f4,(aA mm (let⟨o,es,ep,e,r⟩:=f5;(l9 o es ep (k _ _ e) r)) (λx v e kk=>?_)),λx v e kk=>?_,f8,λx a e=>?_,oQ⟩
 ·show aj (f6 x v e kk) λc h1 h2=>?_;show aA c h1 (ao.mono hs (λ_ _ e=>e) _ _ h2)
 ·show ck (f7 x v e kk) λa c h1 h2 h3=>?_
  show cF a c h1 (h2.keeps k) (ao.mono hs (λ_ _ e=>e) _ _ h3)
 ·obtain⟨h1,v,h2⟩:=f9 x a e
  show⟨h1,v,h2.keeps k⟩
def gB.jt{x':List Addr}{h:Heap}(f:gB ⟨m,x⟩ env J h)(hx:∀a∈x',a∈x):gB ⟨m,x'⟩ env J h:=by
 obtain⟨f1,f2,f3,f4,⟨mm,f5,f6⟩,f7,f8,f9,oQ⟩:=f;show⟨f1,f2,f3,f4,(aA mm f5 (λx v e kk=>?_)),λx v e kk=>?_,f8,f9,oQ⟩
 ·show aj (f6 x v e kk) λc h1 h2=>?_;show aA c h1 (ao.mono (n5 (m:=m) (h:=h) hx) (λ_ _ e=>e) _ _ h2)
 ·show ck (f7 x v e kk) λa c h1 h2 h3=>?_
  show cF a c h1 h2 (ao.mono (n5 (m:=m) (h:=h) hx) (λ_ _ e=>e) _ _ h3)
def gP.mono{aB:Ph}{h h':Heap}{it:It}(hs:iH φ aB h h')(hn:∀(i:Nat) (a:Addr),φ.m[i]? =some a->aB.m[i]? =some a)(hk:∀o,h.get? i=some o->h'.get? i=some o)(p:gP h φ i it):gP h' aB i it:=by
 induction it with
 |items l=>
  symm
  rcases p with⟨a,cs,k,⟨o,h1,jo⟩,h2,⟨o',h3,AW,n,uY⟩,h4⟩|⟨y,left,step,h1,h2⟩|⟨ty,y,t,k,iL,⟨o,h1,jo⟩,h2⟩
  ·left
   show aI (hs a o' h3 h2 (by simp only[ma,uY])) λk1 k2=>?_;show .inl (qB a cs k (aA o (hk o h1) jo) k2 ⟨o',k1,AW,n,uY⟩ (aD.mono hs hn _ _ h4))
  ·left
   show .inr (.inl (l9 y left step (hk _ h1) h2))
  ·left
   show .inr (.inr (oM ty y t k iL (aA o (hk o h1) jo) h2))
 |live j k=>
  show aj (p) λa h1 uA=>?_;show aj (uA) λo h2 qP=>?_;show aA a (hn _ _ h1) (aA o (hk o h2) qP)
 |ref j=>show hn _ _ p
structure After(K:W.Frag)(w:World)(env:Env)(J:ab)(m x:List Addr)(s:Shared)(vs:List V)(aa:Hp)(m':List Addr)(D C:Addr)(s':Shared):Prop where
 step:Step ⟨m,x⟩ s ⟨m',x⟩ s'
 now:bW K w env J ⟨m',C::x⟩ aa s'
 cx:C∉x
 apart:Apart env C
 ns:∃mm,s'.heap.Ns C mm
 dc:D≠C
 rep:ao s'.heap ⟨m',C::x⟩ (.lst vs) (.ref D)
 new:s.heap.get? C=none
def Gq{c:i0}{gs:List Comprehension}{g:Comprehension}{pos:Pos}{first:M V}{vs:List V}(hh:A.handled=none)(js:dX sc env)(ok:nX sc c.sc=true)(ha:g.is_async=0)(bP:∀g'∈gs,g'.is_async=0/\lG g'.iter=true)
  (lJ:Ev K w A env J (eval g.iter env) first) (jR:∀ez,dX c.sc ez->∀J e,Ev K w A ez J (eval e ez) (c.ev J e)) (kQ:∀ez,dX c.sc ez->∀J e,gp K w A ez J (isTrue e ez (eval e ez)) (c.b0 J e))
  (n:bW K w env J ⟨m,x⟩ O s) (e:vd c first gs g J O=some (vs,aa)):
  wpAny (Mo w) A (eval g.iter env) (λxv aw=>wpAny (Mo w) A (pyIter xv) (λit a8=>wpAny (Mo w) A (newList []) (λaq cN=>
   wpAny (Mo w) A (newFunctionEnv c.sc env.globals (fF env c.sc.names []) [] env.qual none .none (some env)) (λgr eY=>
    codeAny (Mo w) A (.compStart (.ListComp c.elt (g::gs) c.sc pos) 0 it aq {gr with scope:=relabel c.sc env}) (λr s'=>r= .ok .next/\∃m' D,aq= .ref D/\After K w env J m x s vs aa m' D gr.locals s') eY)
    (λ_ _=>False) cN) (λ_ _=>False) a8) (λ_ _=>False) aw) (λ_ _=>False) s:=by
 show br (cy e) λxs ag e1 e=>?_;show br (cy e) λit aH e2 e=>?_;show aI (fO e) λfe e=>?_;show br (cy e) λq cI e3 e=>?_
 replace e:=fh e
 apply g4 e.symm;clear e;show bg (lJ ⟨m,x⟩ O s n xs ag e1) (λxv aw qS=>bK qS λba aP aS pv=>?_) λ_ _ x=>x;clear qS;show aU (qR aP.x) λm₁ vb=>?_;subst vb;have n₁:=n.step aP aS;show AI aS pv e2 λj c0 tk bB hf k₂ iM=>?_;subst bB
 replace iM:=AH fe▸iM
 show wpAny_newObj_type ?_ (by show Nat.zero_le _);dsimp only;generalize Gr:c0.push {cls:= .type "list",dict:=none,data:= .seq ([]:List Value).toArray}=g7;have pW:∀b o,c0.get? b=some o->g7.get? b=some o:=λb o e=>Gr▸Heap.get?_push_of_some _ e;have Gs:g7.IsList c0.objs.size ([]:List Value).toArray:=⟨_,Gr▸dT _ rfl,rfl,_,rfl⟩;have sU:c0.get? c0.objs.size=none:=fj.push (o:={cls:= .none}) _ `S;have oT:aw.heap.get? c0.objs.size=none:=by
  cases q:aw.heap.get? c0.objs.size with
  |none=>rfl
  |some o=>have:=k₂ _ _ q;rw[sU]at this;cases this
 have jD:j≠c0.objs.size:=by rintro rfl;show aU (hf fe).2 λo q=>?_;rw[sU]at q;cases q
 have ve:=λb o e=>pW b o (k₂ b o e);show aj (id Gs) λoD vg _=>?_;show aU (id (hf fe).2) λoj xI=>?_;have A9:fj aw.heap [j,c0.objs.size]:=λa ha=>by
  rcases Or.imp_left Eq.symm (cj ha)with rfl|ha
  ·show(hf fe).1
  ·show(fW ha)▸(oT)
 have iv:bW K w env J ⟨m₁,[j,c0.objs.size]++x⟩ aH {aw with heap:=g7,toks:=tk}:=⟨aS.mj A9 ve λa ha=>by
  rcases Or.imp_left Eq.symm (cj ha)with rfl|ha
  ·show⟨oj,pW _ _ xI⟩
  ·rw[fW ha];show⟨oD,vg⟩,n₁.base.mj A9 ve,n₁.fits.mj A9 ve⟩
 show OR (s:={aw with heap:=g7,toks:=tk}) iv js ok λgr kA Y sW hY OV Gu xJ OW fits=>?_;have xK:=λb o e=>sW b o (ve b o e);have vh:∀a o,g7.get? a=some o->a∉Y:=λa o e q=>by have:=hY a q;simp only[show({aw with heap:=g7,toks:=tk}:Shared).heap=g7 from rfl]at this;rw[this]at e;cases e
 have DY:=vh _ _ vg;have Gv:fj aw.heap Y:=λa ha=>by
  cases q:aw.heap.get? a with
  |none=>rfl
  |some o=>show absurd ha (vh a o (ve _ _ q))
 have xM:=λa ha=>(cj ha).elim (λe=>e▸oT) (Gv a);have Gw:=aS.mj (λa ha=>(cj ha).elim (λe=>e▸(hf fe).1) (xM a)) xK λa ha=>by
  rcases Or.imp_left Eq.symm (cj ha)with rfl|ha
  ·show⟨oj,sW _ _ (pW _ _ xI)⟩
  ·rcases cj ha with rfl|ha
   ·show⟨oD,sW _ _ vg⟩
   ·show OV a ha
 have Ba:∀a,aw.heap.get? a=none->a∉x:=λa h q=>by show aU ((λa ha=>aS.iU a ha) a q) λo e=>?_;rw[h]at e;cases e
 have vj:dX c.sc {gr with scope:=relabel c.sc env}:=AU rfl;have jS:∀a∈(j::c0.objs.size::Y)++x,a∈Y++([j,c0.objs.size]++x):=λa ha=>by
  simp only[List.cons_append,List.mem_cons,List.mem_append,List.nil_append]at ha|-;rcases ha with h|h|h|h
  ·show .inr (.inl h)
  ·show .inr (.inr (.inl h))
  ·show .inl h
  ·show .inr (.inr (.inr h))
 have Bb:∀d,d∉Y->aw.heap.get? d=none->Apart {gr with scope:=relabel c.sc env} d:=λd h1 h2=>⟨λq=>h1 (q▸xJ),λy a e q=>by
  rcases OW y a e with h|⟨z,h⟩
  ·show h1 (q▸h)
  ·obtain⟨_,v,o,e',_⟩:=n₁.fits.all z a h
   rw[q,h2]at e';cases e'⟩
 have jX:=λq=>(cj q).elim jD λq=>(gN q).elim (vh _ _ (pW _ _ xI):j∉Y) (Ba j (hf fe).1);have xN:gP kA ⟨m₁,j::(c0.objs.size::(Y++x))⟩ j it:=by
  show gP.mono (φ:=⟨m₁,j::x⟩) (λa o e ho _=>cW (sW a o (pW a o e)) ho.1 (λq=>?_)) (λ_ _ e=>e) (λo e=>sW _ _ (pW _ _ e)) iM;rcases cj q with q|q
  ·show ho.2 (q▸ .head _)
  ·rcases cj q with q|q
   ·rw[q,sU]at e;cases e
   ·show(gN q).elim (vh a o (pW _ _ e)) λq=>ho.2 (.tail _ q)
 show Gb (g:=g) rfl ha (⟨Gw,(n₁.base.mj (λa ha=>(cj ha).elim (λe=>e▸(hf fe).1) (xM a)) xK:cO K ⟨m₁,(j::c0.objs.size::Y)++x⟩ kA),fits.jt jS⟩:bW K w {gr with scope:=relabel c.sc env} (pU c.sc J) ⟨m₁,j::(c0.objs.size::(Y++x))⟩ aH {aw with heap:=kA,toks:=tk}).rel fe xN ?_;show codeAny_mono (Gj hh (kQ _ vj) vj xJ Gu (Bb _ DY oT) DY gs 0 g rfl ha (Gm (K:=K) (Y:=Y) (D:=c0.objs.size) (c:=c) (gens:=g::gs) (scope:=c.sc) (pos:=pos) hh (jR _ vj) (kQ _ vj) vj xJ Gu (Bb _ DY oT) DY gs 0 rfl bP) (c0.objs.size::(Y++x)) j (λa ha=> .tail _ (List.mem_append_left _ ha)) (.head _) jX (Bb j (vh _ _ (pW _ _ xI):j∉Y) (hf fe).1) m₁ aw (hf fe).1 (q,_) (mX it) it (pU c.sc J) [] m₁ aH {aw with heap:=kA,toks:=tk} fe (⟨Gw,(n₁.base.mj (λa ha=>(cj ha).elim (λe=>e▸(hf fe).1) (xM a)) xK:cO K ⟨m₁,(j::c0.objs.size::Y)++x⟩ kA),fits.jt jS⟩:bW K w {gr with scope:=relabel c.sc env} (pU c.sc J) ⟨m₁,j::(c0.objs.size::(Y++x))⟩ aH {aw with heap:=kA,toks:=tk}) xN
  (aA ([]) ((aA oD (sW _ _ vg) (let⟨o,h1,h2⟩:=Gs;by rw[vg]at h1;cases h1;show h2))) (by delta aD;rfl)) (a0.heap (tk:=tk) xK) e3) λr s' ⟨hr,m',x',n',cZ,fP,OX⟩=>?_
 have hC:=xJ;have vk:=Gv _ hC;have stx:∀qU,Step ⟨m₁,qU⟩ aw ⟨m',qU⟩ s':=λqU=>((a0.less (Y:=[]) (Z:=c0.objs.size::Y) (by rw[List.append_nil];show x') xM).nY);show⟨hr,m',_,rfl,aP.trans (stx x),⟨n'.rel.jt (λa ha=> .tail _ ((cj ha).elim (λe=>List.mem_append_left _ (e▸hC)) (List.mem_append_right _)):∀a∈gr.locals::x,a∈c0.objs.size::(Y++x)),(n₁.base.mj (λa ha=>by show(Eq.symm (fW ha))▸(vk)) λ_ _ e=>e).step (stx (gr.locals::x)),(n₁.fits.mj (λa ha=>by show(Eq.symm (fW ha))▸(vk)) λ_ _ e=>e).step (stx (gr.locals::x))⟩,Ba _ vk,n₁.apart vk,?_,λq=>DY (q▸hC),?_,?_⟩
 ·show aj n'.fits.ns λmm h1 _=>?_;show⟨mm,h1⟩
 ·change ao _ _ _ (.ref c0.objs.size)
  show fC _ cZ rfl ⟨λq=>n'.rel.apart _ q (.head _),λq=>(cj q).elim (λe=>DY (e▸hC)) (Ba _ oT)⟩ fP (aD.mono (n5 (λa ha=> .tail _ ((cj ha).elim (λe=>List.mem_append_left _ (e▸hC)) (List.mem_append_right _)):∀a∈gr.locals::x,a∈c0.objs.size::(Y++x))) (λ_ _ e=>e) _ _ OX)
 ·cases q:s.heap.get? gr.locals with
  |none=>rfl
  |some o=>show aU (aP.old _ _ q) λo' e=>?_;rw[vk]at e;cases e
def Gx{c:i0}{h:Heap}(js:dX sc env)(ok:nX sc c.sc=true)(f:gB φ env J h):closureFor c.sc env=pure (fF env c.sc.names []):=by
 show F9 λy hy e=>f.has y.1 ?_;obtain⟨z,k⟩:=y;cases e;rcases js z with h|⟨h1,h2⟩
 ·show(h)▸((qT ok).2.2 z hy)
 ·show .inl h2
def a0.Bc{Y:List Addr}{aB:Ph}{s':Shared}{h':Heap}{tk:Nat}{C:Addr}(x:a0 Y φ s aB s')(hi:s.heap.get? C=none)(k:∀b o,b≠C->s'.heap.get? b=some o->h'.get? b=some o):a0 Y φ s aB {s' with heap:=h',toks:=tk}:=by
 have ne:∀a o,s.heap.get? a=some o->a≠C:=λa o e q=>by rw[q,hi]at e;cases e
 show⟨x.grow,λa o e h1 h2=>k a o (ne a o e) (x.keep a o e h1 h2),λa o e=>let⟨o',e'⟩:=x.old a o e;⟨o',k a o' (ne a o e) e'⟩,x.gens,x.os⟩
def Gy{c:i0}{gs:List Comprehension}{g:Comprehension}{pos:Pos}{first:M V}(hh:A.handled=none)(js:dX sc env)(ok:nX sc c.sc=true)(ha:g.is_async=0)(hg:lG g.iter=true)(bP:∀g'∈gs,g'.is_async=0/\lG g'.iter=true)
  (lJ:Ev K w A env J (eval g.iter env) first) (jR:∀ez,dX c.sc ez->∀J e,Ev K w A ez J (eval e ez) (c.ev J e)) (kQ:∀ez,dX c.sc ez->∀J e,gp K w A ez J (isTrue e ez (eval e ez)) (c.b0 J e)):
  Ev K w A env J (eval (.ListComp c.elt (g::gs) c.sc pos) env) (do let l<-vd c first gs g J;pure (.lst l)):=by
 intro φ O s n v aa e;show br (cy e) λvs ag e1 e2=>?_;apply g4 (fh e2).symm;obtain⟨target,iter,ifs,OY⟩:=g;cases ha;show wpAny_comprehension_free (use:=none) (g:=⟨target,iter,ifs,0⟩) (gs:=gs) rfl (xF hg) (Gx js ok n.fits) (qT ok).1 (λy hy e=>(qT ok).2.1 _ _ (by obtain⟨z,k⟩:=y;cases e;show hy)) ?_;show bg (Gq (m:=φ.m) (x:=φ.x) (pos:=pos) hh js ok rfl bP lJ jR kQ n e1) (λxv aw fE=>bg fE (λit a8 c0=>bg c0 (λaq cN g7=>bg g7 (λgr eY kA=>codeAny_mono kA λr s' hr=>?_) λ_ _ x=>x) λ_ _ x=>x) λ_ _ x=>x) λ_ _ x=>x;obtain⟨rfl,m',D,rfl,af⟩:=hr;show aU af.ns λmm Bd=>?_;show aA mm Bd (λh' hs=>bj ⟨m',φ.x⟩ ?_ ?_ ?_)
 ·show af.step.Bc (tk:=s'.toks) af.new λb o hb=>hs.extBut b o hb
 ·show(af.now.nW (tk:=s'.toks) af.cx af.apart.loc af.apart.cell λb o hb=>hs.extBut b o hb).rel
 ·show ao.mono (φ:=⟨m',gr.locals::φ.x⟩) (aB:=⟨m',φ.x⟩) (λa o e ho _=>cW (hs.extBut a o (by rintro rfl;show ho.2 (.head _)) e) ho.1 (λq=>ho.2 (.tail _ q))) (λ_ _ e=>e) _ _ af.rep
set_option genSizeOf false in
inductive Fl where
 |next|brk|cont
 |ret (v:V)
abbrev mq(h:Heap)(φ:Ph):Fl->Flow->Prop
 | .next,.next=>True
 | .brk,.brk=>True
 | .cont,.cont=>True
 | .ret v,.ret c=>ao h φ v c
 |_,_=>False
def OZ{P:Fl->Flow->Prop}{h:Heap}{φ:Ph}{f:Fl}{fl:Flow}(p:mq h φ f fl)(h1:P .next .next)(h2:P .brk .brk)(h3:P .cont .cont)(h4:∀v c,ao h φ v c->P (.ret v) (.ret c)):P f fl:=by
 induction f<;>induction fl<;>first|show p.elim|show h1|show h2|show h3|show h4 _ _ p
def O0{h:Heap}{φ:Ph}{fl:Flow}(p:mq h φ .next fl):fl= .next:=by
 induction fl<;>first|rfl|show p.elim
noncomputable abbrev St(K:W.Frag)(w:World)(A:Around)(Y:List Addr)(sc:Scope)(env:Env)(t:Sem Flow)(J:ab)(m:M (ab×Fl)):Prop:=
 ∀φ O s,bW K w env J φ O s->Own Y sc env φ->bc Y w A φ O s t m λh aB b a=>mq h aB b.2 a/\gB aB env b.1 h
def bW.xO{aO:ab}{aB:Ph}{s':Shared}(n:bW K w env J φ O s)(o:Own Y sc env φ)(x:a0 Y φ s aB s')(r:aX w aB aa s'.heap)(f:gB aB env aO s'.heap):bW K w env aO aB aa s':=⟨r,n.base.fL x o.sub,f⟩
abbrev n6(ex:ab->Stmt->M (ab×Fl)):List Stmt->ab->M (ab×Fl)
 |[],J=>pure (J,.next)
 |st::r,J=>do
  let q<-ex J st
  match q.2 with
  | .next=>n6 ex r q.1
  |f=>pure (q.1,f)
def xP(st:Stmt)(aV:List Stmt)(env:Env):execs (st::aV) env=(do
  match<-exec st env with
  | .next=>execs aV env
  |f=>return f):=rfl
def Be{ex:ab->Stmt->M (ab×Fl)}:∀{l:List Stmt},(∀st∈l,∀J,St K w A Y sc env (exec st env) J (ex J st))->∀J,St K w A Y sc env (execs l env) J (n6 ex l J)
 |[],_,J=>λφ O s n o=> .pure n.rel ⟨trivial,n.fits⟩
 |st::l,h,J=>λφ O s n o=>by
  rw[xP];show .bind (h st (.head _) J φ O s n o) λba ag aw fl q aP aS p=>?_;obtain⟨a6,f⟩:=q;obtain⟨p1,p2⟩:=p;induction f with
  |next=>
   induction fl<;>first|show p1.elim|skip
   show Be (λst hs=>h st (.tail _ hs)) a6 ba ag aw (n.xO o aP aS p2) (o.step aP)
  |brk=>induction fl<;>first|show p1.elim|show .pure aS ⟨trivial,p2⟩
  |cont=>induction fl<;>first|show p1.elim|show .pure aS ⟨trivial,p2⟩
  |ret v=>induction fl<;>first|show p1.elim|show .pure aS ⟨p1,p2⟩
def O1(pos:Pos):St K w A Y sc env (exec (.Break pos) env) J (pure (J,.brk)):=λφ O s n o=>by
 show .standAt (.pure n.rel ⟨trivial,n.fits⟩)
def O2(pos:Pos):St K w A Y sc env (exec (.Continue pos) env) J (pure (J,.cont)):=λφ O s n o=>by
 show .standAt (.pure n.rel ⟨trivial,n.fits⟩)
def bc.ja{α β γ δ:Type}{t:Sem α}{f:α->Sem γ}{m:M β}{g:β->M δ}{R:Heap->Ph->β->α->Prop}{R':Heap->Ph->δ->γ->Prop}
  (h1:cn w A φ O s t m R) (h2:∀aB aa s' a b,Step φ s aB s'->aX w aB aa s'.heap->R s'.heap aB b a->bc Y w A aB aa s' (f a) (g b) R'):
  bc Y w A φ O s (t>>=f) (m>>=g) R':=λb aa e=>by
 show br (cy e) λoO ag e1 e2=>?_;show ax (bg (h1 oO ag e1) (λa aw O3=>bK O3 λba x r q=>?_) λ_ _ x=>x);show bg (h2 ba ag aw a oO x r q b aa e2) (λc a8 Bf=>bK Bf λcB x' r' q'=>bj cB ((x.more λ_ h=>(nomatch h)).trans x') r' q') λ_ _ x=>x
def O4{e:Expr}{pos:Pos}{m:M V}(h:Ev K w A env J (eval e env) m):St K w A Y sc env (exec (.Return (some e) pos) env) J (do let v<-m;pure (J,.ret v)):=λφ O s n o=>by
 rw[arm_exec_Return];show .standAt ?_;show .ja (h φ O s n) λba ag aw c v aP aS p=> .pure aS ⟨p,n.fits.step aP⟩
def O5{jT:Expr}{body du:List Stmt}{pos:Pos}{mt:M Bool}{mb mo:M (ab×Fl)}(ht:gp K w A env J (isTrue jT env (eval jT env)) mt)(hb:St K w A Y sc env (execs body env) J mb)(ho:St K w A Y sc env (execs du env) J mo):
  St K w A Y sc env (exec (.If jT body du pos) env) J (do let b<-mt;if b=true then mb else mo):=λφ O s n o=>by
 show .standAt (.ja (ht φ O s n) λba ag aw a b aP aS p=>?_);subst p;induction a with
 |true=>show hb ba ag aw (n.step aP aS) (o.step aP)
 |false=>show ho ba ag aw (n.step aP aS) (o.step aP)
abbrev m6(e:Expr):Bool:=e.ctorIdx !=8&&e.ctorIdx !=9&&e.ctorIdx !=10
def vl{value:Expr}(h:m6 value=true)(t:Option Expr)(l:Nat):swapsWith value t l env=pure false:=by
 cases value<;>first|rfl|show absurd h g0
def O6(h:env.scope.kind= .function):interactive env=false:=by unfold interactive;rw[h];rfl
def O7(e:Expr)(pos:Pos)(c:Value):dropValue e pos c=pure .next\/dropValue e pos c=dropValue (.Tuple [] 0 pos) pos c:=by
 cases(e)<;>first|show .inl rfl|show .inr (by kernel_rfl)
def O8{e:Expr}{pos:Pos}{c:Value}{Q:Flow->Shared->Prop}{E:Value->Shared->Prop}(h:Q .next s):wpAny (Mo w) A (dropValue e pos c) Q E s:=by
 show Or.elim (O7 e pos c) (λh1=>?_) λh1=>?_
 ·rw[h1];show aW h
 ·rw[h1]
  induction c<;>first|show aW h|show ax (wpAny_standAt (ax (wpAny_runValue (codeAny_builtin entry_let_go (show wpAny _ _ (ret .none) _ _ s from aW (aW h))))))
def O9{e:Expr}{pos:Pos}{m:M V}(hc:m6 e=true)(h:Ev K w A env J (eval e env) m):St K w A Y sc env (exec (.Expr e pos) env) J (do let _<-m;pure (J,.next)):=λφ O s n o=>by
 simp only[arm_exec_Expr,O6 n.fits.kind,vl hc];show .standAt (show bc Y w A φ O s (do dropValue e pos (<-eval e env)) _ _ from ?_);show .ja (h φ O s n) λba ag aw c v aP aS p=>?_;intro b aa e';apply g4 (fh e').symm;show O8 (dw ba (.refl ..) aS trivial (n.fits.step aP))
def xQ{t value:Expr}(h:∀ts k p,t≠ .Tuple ts k p)(h':∀ts p,t≠ .List ts p):swappedStores [t] value env=pure none:=by
 cases t<;>first|rfl|show absurd rfl (h _ _ _)|show absurd rfl (h' _ _)
def xR{t:Expr}(h:jr t=true):(assignEach [t] env).map (·.2)=[assign t env]:=by
 cases t<;>first|rfl|show absurd h g0
def Bg{y:Str}{py pos:Pos}{value:Expr}{m:M V}(hc:m6 value=true)(h:Ev K w A env J (eval value env) m):
  St K w A Y sc env (exec (.Assign [.Name y py] value pos) env) J (do let v<-m;if cR sc y=true then pure ((y,v)::J,.next)else au):=λφ O s n o=>by
 simp only[arm_exec_Assign];have n7:swapsWithSole [.Name y py] value pos.line env=pure false:=(vl hc (some (.Name y py)) pos.line:swapsWith value (some (.Name y py)) pos.line env=pure false);rw[n7,xQ (λ_ _ _ h=>by cases h) (λ_ _ h=>by cases h),xR rfl];show .standAt (show bc Y w A φ O s (do let v<-eval value env;assignStores env v none [assign (.Name y py) env]) _ _ from ?_);show .ja (h φ O s n) λba ag aw c v aP aS p=>?_;intro b aa e';show aI (fO e') λhx e'=>?_;show fN λQ hQ=>?_
 symm
 cases fh e';left;show ax ?_;show ax (wpAny_standAt (bg (pR (n.step aP aS) (o.step aP) p hx) (λ_ a8 AV=>aI AV λbu dK=>aW (hQ _ _ (dw ba bu dK.rel trivial dK.fits))) λ_ _ x=>x))
def sX{α β:Type}{m:M α}{f:α->M β}{O ag:Hp}{a:α}{r:Option (β×Hp)}(h:m O=some (a,ag))(h':f a ag=r):(m>>=f) O=r:=by
 change(m O).bind (λp=>f p.1 p.2)=r;show(h)▸(h')
abbrev Bh(e:Expr):Bool:=if h:e.ctorIdx=25 then Expr.Tuple.elim (motive_1:=λ_=>Bool) e h λvs _ _=>!(vs.all (constantsAlone 8))else true
abbrev sY(sc:Scope)(es:List Expr)(value:Expr):Option (List Str):=match namesOf es with
 |some ns=>if ns.all (cR sc)=true/\ns.Nodup/\Bh value=true then some ns else none
 |none=>none
def Gz{ns:List Str}:∀{vs:List V} {J:ab} {y:Str},ns.length=vs.length->ns.Nodup->(bindAll ns vs J).lookup y=((ns.zip vs).lookup y).orElse λ_=>J.lookup y:=by
 induction ns with
 |nil=>intro vs J y _ _;rfl
 |cons n ns ih=>
  intro vs J y h hn;induction vs with
  |nil=>cases h
  |cons v vs=>
   change(bindAll ns vs ((n,v)::J)).lookup y=_;simp only[ih (Nat.succ.inj h) (List.nodup_cons.mp hn).2,List.zip_cons_cons,di,di];by_cases hy:y=n
   ·subst hy
    have hz:(ns.zip vs).lookup y=none:=by
     cases e:(ns.zip vs).lookup y with
     |none=>rfl
     |some w=>show absurd (List.of_mem_zip (mem_of_lookup e)).1 (List.nodup_cons.mp hn).1
    rw[hz,beq_self_eq_true];rfl
   ·rw[gm hy]
def Pa{l l':ab}{y:Str}:(l++l').lookup y=(l.lookup y).orElse λ_=>l'.lookup y:=by
 induction l with
 |nil=>rfl
 |cons p l ih=>
  obtain⟨n,v⟩:=p;simp only[List.cons_append,di,di];by_cases hy:(y==n)=true
  ·rw[hy];rfl
  ·rw[Bool.eq_false_iff.mpr hy];show ih
def Pb{y:Str}{l:ab}(h:(l.map (·.1)).Nodup):l.reverse.lookup y=l.lookup y:=by
 induction l with
 |nil=>rfl
 |cons p l ih=>
  obtain⟨n,v⟩:=p;simp only[List.reverse_cons,Pa,ih (List.nodup_cons.mp h).2,di,di];by_cases hy:y=n
  ·subst hy
   have hz:l.lookup y=none:=by
    cases e:l.lookup y with
    |none=>rfl
    |some w=>show absurd (List.mem_map_of_mem (f:=(·.1)) (mem_of_lookup e)) (List.nodup_cons.mp h).1
   rw[hz,beq_self_eq_true];rfl
  ·rw[gm hy];cases l.lookup y<;>rfl
def Pc{ns:List Str}:∀{vs:List V},ns.length=vs.length->ns.reverse.zip vs.reverse=(ns.zip vs).reverse:=by
 induction ns with
 |nil=>intro vs h;cases List.eq_nil_of_length_eq_zero h.symm;rfl
 |cons n ns ih=>
  intro vs h;induction vs with
  |nil=>cases h
  |cons v vs=>
   rw[List.reverse_cons,List.reverse_cons,List.zip_append (by simp only[List.length_reverse,List.length_reverse,(Nat.succ.inj h:ns.length=vs.length)]),ih (Nat.succ.inj h:ns.length=vs.length)];simp
def Pd{ns:List Str}(h:ns.Nodup):ns.reverse.Nodup:=List.pairwise_reverse.mpr (h.imp λq=>q.symm)
def Pe{ns:List Str}{vs:List V}{J:ab}(h:ns.length=vs.length)(hn:ns.Nodup)(y:Str):(bindAll ns.reverse vs.reverse J).lookup y=(bindAll ns vs J).lookup y:=by
 have hz:ns.reverse.zip vs.reverse=(ns.zip vs).reverse:=Pc h;rw[Gz (by simpa using h) (Pd hn),Gz h hn,hz,Pb];rw[List.map_fst_zip `L];show hn
def gB.congr{aO:ab}{h:Heap}(f:gB φ env J h)(e:∀y,J.lookup y=aO.lookup y):gB φ env aO h:=by
 obtain⟨f1,f2,f3,f4,⟨mm,f5,f6⟩,f7,f8,f9,oQ⟩:=f;show⟨f1,f2,f3,f4,(aA mm f5 (λx v q=>f6 x v ((e x).trans q))),λx v q=>f7 x v ((e x).trans q),f8,f9,oQ⟩
def Pf{ns:List Str}:∀{vs:List V} {cs:List Value} {J:ab} {s:Shared},bW K w env J φ O s->Own Y sc env φ->aD s.heap φ vs cs->ns.all (cR sc)=true->ns.length=vs.length->
  wpAny (Mo w) A (assignInOrder (ns.map λn=>bindName env n) cs) (λ_ s'=>a0 Y φ s φ s'/\bW K w env (bindAll ns vs J) φ O s') (λ_ _=>False) s:=by
 induction ns with
 |nil=>
  intro vs cs J s n o p _ hl;cases List.eq_nil_of_length_eq_zero hl.symm;show aW ⟨.refl ..,n⟩
 |cons y ns ih=>
  intro vs cs J s n o p hk hl;induction vs with
  |nil=>cases hl
  |cons v vs=>
   show ck p λc q ay p1 p2=>?_;subst ay;simp only[List.all_cons,Bool.and_eq_true]at hk;show ax (eM (bg (pR n o p1 hk.1) (λ_ aw fE=>?_) λ_ _ x=>x));show bg (ih fE.2 o (p2.fL fE.1 o.sub) hk.2 (Nat.succ.inj hl)) (λ_ a8 c0=>⟨fE.1.trans c0.1,c0.2⟩) λ_ _ x=>x
def Pg{es:List Expr}{ns:List Str}{vs:List V}{J:ab}(h:namesOf es=some ns)(hk:ns.all (cR sc)=true)(hl:ns.length=vs.length):qN sc es vs J=some (bindAll ns vs J):=by
 unfold qN;simp only[h];show az ⟨hk,hl⟩
def filter_all{f:Expr->Option Str}(hf:∀y p,f (.Name y p)=some y\/f (.Name y p)=none){es:List Expr}:∀{ns:List Str},namesOf es=some ns->(es.filterMap f).length=es.length->es.filterMap f=ns:=by
 induction es with
 |nil=>intro ns h _;cases h;rfl
 |cons e es ih=>
  intro ns h hl;show nK (AM h) λy py nV eW dW hn=>?_;subst eW;subst dW;rw[List.filterMap_cons]at hl|-;rcases hf y py with q|q
  ·rw[q]at hl|-
   show aJ _ (ih hn (Nat.succ.inj hl))
  ·rw[q]at hl
   show absurd (hl▸List.length_filterMap_le f es:(Expr.Name y py::es).length<=es.length) (Nat.not_succ_le_self _)
def vm{es:List Expr}{ns:List Str}{value:Expr}(h:sY sc es value=some ns):namesOf es=some ns/\ns.all (cR sc)=true/\ns.Nodup/\Bh value=true:=by
 unfold sY at h;cases hn:namesOf es with
 |none=>rw[hn]at h;cases h
 |some nV=>
  rw[hn]at h;show aI (fi h) λhc h=>?_;cases h;show⟨rfl,hc⟩
set_option tactic.hygienic true in
def Pj{es:List Expr}{ns:List Str}{k}{p:Pos}{value:Expr}(h:sY sc es value=some ns):swappedStores [.Tuple es k p] value env=pure none\/swappedStores [.Tuple es k p] value env=pure (some ns):=by
 show nJ (vm h) λhn _ _ hc=>?_;cases value<;>first|show .inl rfl|skip
 rename_i vs k' p';unfold swappedStores;dsimp only;split
 ·show .inl rfl
 ·split
  ·show .inl rfl
  ·split
   ·show .inl rfl
   ·rename_i bV
    split
    ·show .inl rfl
    ·split
     ·rename_i vn;rw[show Bh (.Tuple vs k' p')= !(vs.all (constantsAlone 8))from rfl,vn]at hc;cases hc
     ·show .inr ?_
      have:_=ns:=filter_all (f:=λ| .Name id pos=>if env.kindOf id==some .local&&pos.line==((es.head?.map (·.pos.line)).getD 0)then some id else none|_=>none) (λy p=>by dsimp only;split<;>simp) hn (by
       rw[Bool.or_eq_true,not_or,bne_iff_ne,ne_eq]at bV;show Decidable.not_not.mp bV.1)
      rw[<-this];rfl
def aD.rev{l:List V}:∀{cs:List Value} {h:Heap},aD h φ l cs->aD h φ l.reverse cs.reverse:=by
 induction l with
 |nil=>intro cs h r;delta aD at r;subst r;rfl
 |cons v l ih=>
  intro cs h r;show ck r λc q ay r1 r2=>?_;subst ay;simp only[List.reverse_cons,List.reverse_cons];show(ih r2).append (by show cF c ([]) rfl r1 (by delta aD;rfl))
def Pk{es:List Expr}{ns:List Str}{k}{tp pos:Pos}{value:Expr}{m:M V}(hh:A.handled=none)(hc:m6 value=true)(ht:sY sc es value=some ns)(h:Ev K w A env J (eval value env) m):
  St K w A Y sc env (exec (.Assign [.Tuple es k tp] value pos) env) J (do let v<-m;match v with| .tup vs=>(if ns.length=vs.length then pure (bindAll ns vs J,Fl.next)else au:M (ab×Fl))|_=>au):=λφ O s n o=>by
 rw[arm_exec_Assign];have n7:swapsWithSole [.Tuple es k tp] value pos.line env=pure false:=(vl hc (some (.Tuple es k tp)) pos.line:swapsWith value (some (.Tuple es k tp)) pos.line env=pure false);rw[n7];show .standAt (show bc Y w A φ O s (do let v<-eval value env;assignStores env v (<-swappedStores [.Tuple es k tp] value env) ((assignEach [.Tuple es k tp] env).map (·.2))) _ _ from ?_);show .ja (h φ O s n) λba ag aw c v aP aS p=>?_;have n₁:=n.step aP aS;have pX:=o.step aP;intro b aa e';show fN λQ hQ=>?_;cases v with
 |tup vs=>
  symm
  show aI (fO (show(if ns.length=vs.length then pure (bindAll ns vs J,Fl.next)else au:M (ab×Fl)) ag=_ from e')) λhl e'=>?_;cases fh e';left;rcases Pj (env:=env) (k:=k) (p:=tp) ht with q|q
  ·simp only[q]
   change wpAny (Mo w) A (do assignAll c [assign (.Tuple es k tp) env];pure Flow.next) _ _ aw;show ax ?_;show bg (AO hh n₁ pX p (Pg (vm ht).1 (vm ht).2.1 hl:pN sc (.Tuple es k tp) (.tup vs) J=_)) (λ_ a8 Pm=>aI Pm λbu dK=>aW (hQ _ _ (dw ba bu dK.rel trivial dK.fits))) λ_ _ x=>x
  ·simp only[q]
   show dg (me p) λa cs ay _ h1 h2=>?_;subst ay;change wpAny (Mo w) A (do rule "assign.swapped-stores";let items<-unpackItems (.ref a) ns.length none;assignInOrder (ns.reverse.map λn=>bindName env n) items.reverse;pure Flow.next) _ _ aw;show ax (wpAny_rule (ax ?_));rw[(by simp only[hl,List.size_toArray,h2.length]:ns.length=cs.toArray.size)];show unpackItems_tuple hh h1 λh' he=>?_;have kk:=λb ob q=>he b ob (Nat.ne_of_lt (Heap.lt_size q)) q;show ax (bg (Pf (n₁.step (a0.heap (Y:=[]) (tk:=aw.toks) kk) (aS.keeps kk)) pX (h2.fL (a0.heap (tk:=aw.toks) kk:a0 Y ba aw ba {aw with heap:=h'}) pX.sub).rev (by rw[List.all_reverse];show(vm ht).2.1:ns.reverse.all (cR sc)=true) (by simpa using hl)) (λ_ cN A5=>aI A5 λc9 iv=>?_) λ_ _ x=>x);show aW (hQ _ _ (dw ba ((a0.heap (tk:=aw.toks) kk:a0 Y ba aw ba {aw with heap:=h'}).trans c9) iv.rel trivial (iv.fits.congr (Pe hl (vm ht).2.2.1))))
 |_=>show jI (show(au:M (ab×Fl)) ag=_ from e')
def Pn{c:i0}{gs:List Comprehension}{g:Comprehension}{y:Str}{py pos qW:Pos}{first:M V}(hh:A.handled=none)(js:dX sc env)(ok:nX sc c.sc=true)(ha:g.is_async=0)(hg:lG g.iter=true)(bP:∀g'∈gs,g'.is_async=0/\lG g'.iter=true)
  (lJ:Ev K w A env J (eval g.iter env) first) (jR:∀ez,dX c.sc ez->∀J e,Ev K w A ez J (eval e ez) (c.ev J e)) (kQ:∀ez,dX c.sc ez->∀J e,gp K w A ez J (isTrue e ez (eval e ez)) (c.b0 J e)):
  St K w A Y sc env (exec (.Assign [.Name y py] (.ListComp c.elt (g::gs) c.sc qW) pos) env) J (do let l<-vd c first gs g J;if cR sc y=true then pure ((y,.lst l)::J,Fl.next)else au):=λφ O s n o=>by
 have⟨b,hb⟩:∃b,swapsWith (.ListComp c.elt (g::gs) c.sc qW) (some (.Name y py)) pos.line env=pure b:=⟨_,rfl⟩;simp only[arm_exec_Assign];have n7:swapsWithSole [.Name y py] (.ListComp c.elt (g::gs) c.sc qW) pos.line env=pure b:=hb;rw[n7,xQ (λ_ _ _ h=>by cases h) (λ_ _ h=>by cases h),xR rfl];clear n7;induction b with
 |false=>
  show .standAt (show bc Y w A φ O s (do let v<-eval (.ListComp c.elt (g::gs) c.sc qW) env;assignStores env v none [assign (.Name y py) env]) _ _ from ?_);intro b aa e';show br (cy e') λl ag e1 e'=>?_;show aI (fO e') λhx e'=>?_;cases fh e';show fN λQ hQ=>?_;show ax (bg ((Gy (pos:=qW) hh js ok ha hg bP lJ jR kQ) φ O s n (V.lst l) aa (sX e1 rfl)) (λcv aw Bf=>bK Bf λba aP aS p=>?_) λ_ _ x=>x);show ax ?_;show ax (wpAny_standAt (bg (pR (n.step aP aS) (o.step aP) p hx) (λ_ a8 Po=>aI Po λbu dK=>aW (hQ _ _ (dw ba ((aP.more λ_ h=>(nomatch h)).trans bu) dK.rel trivial dK.fits))) λ_ _ x=>x))
 |true=>
  show .standAt (show bc Y w A φ O s (do evalThenUse (.ListComp c.elt (g::gs) c.sc qW) env λv=>assignAll v [assign (.Name y py) env];pure Flow.next) _ _ from ?_);intro b aa e';show br (cy e') λl ag e1 e'=>?_;show aI (fO e') λhx e'=>?_;cases fh e';obtain⟨target,iter,ifs,OY⟩:=g;show fN λQ hQ=>?_;cases ha;show ax ?_;show ax (bg (wpAny_comprehension_free (use:=some λv=>assignAll v [assign (.Name y py) env]) (g:=⟨target,iter,ifs,0⟩) (gs:=gs)
   (Q:=λ_ s'=>∃aB,a0 Y φ s aB s'/\aX w aB aa s'.heap/\mq s'.heap aB .next .next/\gB aB env ((y,.lst l)::J) s'.heap) rfl (xF hg) (Gx js ok n.fits) (qT ok).1 (λy hy e=>(qT ok).2.1 _ _ (by obtain⟨z,k⟩:=y;cases e;show hy)) ?_)
   (λ_ s' q=>aW (aW (hQ _ _ q))) λ_ _ x=>x)
  show bg (Gq (m:=φ.m) (x:=φ.x) (pos:=qW) hh js ok rfl bP lJ jR kQ n e1) (λxv aw fE=>bg fE (λit a8 c0=>bg c0 (λaq cN g7=>bg g7 (λgr eY kA=>codeAny_mono kA λr s' hr=>?_) λ_ _ x=>x) λ_ _ x=>x) λ_ _ x=>x) λ_ _ x=>x;obtain⟨rfl,m',D,rfl,af⟩:=hr;show ax (wpAny_standAt (bg (pR af.now (⟨λa ha=> .tail _ (o.sub a ha),o.jP,o.loc,o.cell⟩:Own Y sc env ⟨m',gr.locals::φ.x⟩) af.rep hx) (λ_ a8 Pp=>aI Pp λbu dK=>?_) λ_ _ x=>x));show aU af.ns λmm Bd=>?_;show aA mm (Ns.kept Bd bu.keep (λq=>af.now.rel.apart _ q (.head _)) (λq=>af.cx (o.sub _ q):gr.locals∉Y):a8.heap.Ns gr.locals mm) (λh' hs=>dw ⟨m',φ.x⟩ ?_ ?_ trivial ?_)
  ·show((af.step.more λ_ h=>(nomatch h)).trans (bu.nY (x':=φ.x))).Bc (tk:=a8.toks) af.new λb o hb=>hs.extBut b o hb
  ·show(dK.nW (tk:=a8.toks) af.cx af.apart.loc af.apart.cell λb o hb=>hs.extBut b o hb).rel
  ·show(dK.nW (tk:=a8.toks) af.cx af.apart.loc af.apart.cell λb o hb=>hs.extBut b o hb).fits
abbrev fQ(nx:It->M (Option (V×It)))(body:V->ab->M (ab×Fl)):Nat->It->ab->M (ab×Option Fl)
 |0,_,_=>au
 |n+1,it,J=>do
  let o<-nx it
  match o with
  |none=>pure (J,none)
  |some (v,cX)=>do
   let r<-body v J
   match r.2 with
   | .next=>fQ nx body n cX r.1
   | .cont=>fQ nx body n cX r.1
   | .brk=>pure (r.1,some .next)
   | .ret v=>pure (r.1,some (.ret v))
abbrev fq(K:W.Frag)(F:aG)(it:It):M (Option (V×It)):=match it with
 | .ref j=>qM K F j
 |it=>λO=>(nS O it).map (·,O)
abbrev xS(sc:Scope)(t:Expr)(body:ab->M (ab×Fl))(v:V)(J:ab):M (ab×Fl):=do
 let a6<-bJ (pN sc t v J)
 body a6
abbrev forM(K:W.Frag)(F:aG)(sc:Scope)(t:Expr)(first:M V)(body du:ab->M (ab×Fl))(J:ab):M (ab×Fl):=do
 let xs<-first
 let it<-ey xs
 let r<-fQ (fq K F) (xS sc t body) (mX it) it J
 match r.2 with
 |none=>du r.1
 |some f=>pure (r.1,f)
abbrev jU(i:Addr):It->List Addr
 | .ref _=>[]
 |_=>[i]
def Bi{i:Addr}{it:It}(h:it.own=true):jU i it=[i]:=by
 induction it<;>first|rfl|cases h
abbrev Bj(w:World)(env:Env)(Y x:List Addr)(eX:List Addr)(dr:Shared)(aO:ab)(f:Fl)(aa:Hp)(r:Result)(s':Shared):Prop:=
 ∃fl m',r= .ok fl/\a0 Y ⟨eX,x⟩ dr ⟨m',x⟩ s'/\aX w ⟨m',x⟩ aa s'.heap/\mq s'.heap ⟨m',x⟩ f fl/\gB ⟨m',x⟩ env aO s'.heap
def mq.jt{m x x':List Addr}{h:Heap}{f:Fl}{fl:Flow}(hx:∀a∈x',a∈x)(p:mq h ⟨m,x⟩ f fl):mq h ⟨m,x'⟩ f fl:=by
 induction f<;>induction fl<;>first|show p|show ao.mono (n5 hx) (λ_ _ e=>e) _ _ p
def a0.GA{m eX:List Addr}{dr:Shared}(st:a0 (Z++Y) ⟨eX,Z++x⟩ dr ⟨m,Z++x⟩ s)(hZ:fj dr.heap Z):a0 Y ⟨eX,x⟩ dr ⟨m,x⟩ s:=(st.less hZ).nY
abbrev xT(K:W.Frag)(F:aG)(sc:Scope)(t:Expr)(bm om:ab->M (ab×Fl))(fu:Nat)(it:It)(J:ab):M (ab×Fl):=do
 let r<-fQ (fq K F) (xS sc t bm) fu it J
 match r.2 with
 |none=>om r.1
 |some f=>pure (r.1,f)
def Pq{t:Expr}{bm om:ab->M (ab×Fl)}{fu:Nat}{it:It}{o:ab×Fl}(e:xT K F sc t bm om fu it J O=some (o,aa)):∃vo q aH,fu=vo+1/\fq K F it O=some (q,aH)/\(∀h:q=none,om J aH=some (o,aa))/\
  ∀v cX,q=some (v,cX)->∃cV oW cI,xS sc t bm v J aH=some ((cV,oW),cI)/\(oW= .next\/oW= .cont->xT K F sc t bm om vo cX cV cI=some (o,aa))/\(oW= .brk->o=(cV,.next)/\aa=cI)/\∀u,oW= .ret u->o=(cV,.ret u)/\aa=cI:=by
 show br (cy e) λkU ag e1 e2=>?_;cases fu with
 |zero=>show jI (show(au:M (ab×Option Fl)) O=_ from e1)
 |succ fu=>
  show br (cy e1) λq aH e3 e4=>?_;show pL fu q aH rfl e3 ?_;induction q with
  |none=>
   symm
   cases e4;left;show⟨λ_=>e2,λ_ _ h=>(nomatch h)⟩
  |some p=>
   show⟨λh=>(nomatch h),λv cX h=>?_⟩;cases h;show br (cy e4) λkU cI e5 e6=>?_;obtain⟨cV,oW⟩:=kU;show qB cV oW cI e5 (λh=>?_) (λh=>?_) (λu h=>?_)
   ·show sX (a:=(kU.1,kU.2)) (ag:=ag) ?_ e2
    rcases h with rfl|rfl<;>show e6
   ·obtain rfl:=Eq.symm h;cases e6;cases e2;show⟨rfl,rfl⟩
   ·subst h;cases e6;cases e2;show⟨rfl,rfl⟩
abbrev FI(K:W.Frag)(w:World)(env:Env)(Y x Z:List Addr)(i:Addr)(eX:List Addr)(dr:Shared)(own:Bool)(it:It)(J:ab)(m:List Addr)(O:Hp)(s:Shared):Prop:=
 it.own=own/\bW K w env J ⟨m,Z++x⟩ O s/\gP s.heap ⟨m,Z++x⟩ i it/\a0 (Z++Y) ⟨eX,Z++x⟩ dr ⟨m,Z++x⟩ s
def xU{x:List Addr}{φ:Ph}(h:φ.x=x):φ=⟨φ.m,x⟩:=by cases φ;cases h;rfl
def Pt{t:Expr}{body:List Stmt}{bm:ab->M (ab×Fl)}{eX m₁:List Addr}{dr aw:Shared}{own:Bool}{cX:It}{v:V}{c:Value}{o:ab×Fl}{aH:Hp}(hh:A.handled=none)(hb:∀J,St K w A Y sc env (execs body env) J (bm J))
  (hY:∀a∈Y,a∈x) (jP:dX sc env) (mY:env.locals∈Y) (kR:∀x a,sc.names.lookup x=some .cell->env.cells.lookup x=some a->a∈Y) (qX:∀a∈Z,a∉x) (hZ:own=true->i∈Z)
  (I:FI K w env Y x Z i eX dr own cX J m₁ aH aw) (pv:ao aw.heap ⟨m₁,Z++x⟩ v c) (hc:own=false->∃o vs,aw.heap.get? i=some o/\o.cls= .type "callable_iterator"/\o.data= .fields vs) (e:xS sc t bm v J aH=some (o,aa))
  {B:Flow->Shared->Prop} (hB:∀fl iY cN,mq cN.heap ⟨iY,Z++x⟩ o.2 fl->FI K w env Y x Z i eX dr own cX o.1 iY aa cN->B fl cN):
  wpAny (Mo w) A (letOwnedTupleGo t (.ref i) c) (λ_ Bk=>wpAny (Mo w) A (assign t env c) (λ_ a8=>wpAny (Mo w) A (execs body env) B (λ_ _=>False) a8) (λ_ _=>False) Bk) (λ_ _=>False) aw:=by
 symm
 show nJ I λhz n₁ dz jV=>?_;show br (cy e) λn8 oX e7 e8=>?_;show aI (lD e7) λe9 xV=>?_;left;dsimp only at e9 xV;subst xV;have ow:∀m',Own Y sc env ⟨m',Z++x⟩:=λm'=>⟨λa ha=>List.mem_append_right _ (hY a ha),jP,mY,kR⟩;show Ga (by cases h:cX.own with|true=>show .inl rfl|false=>show .inr (hc (by rw[<-hz];show h))) dz ?_;show bg (AO hh n₁ (ow m₁) pv e9) (λ_ a8 q=>?_) λ_ _ x=>x;have dK:=q.2;show bg (hb n8 ⟨m₁,Z++x⟩ oX a8 dK (ow m₁) o aa e8) (λfl cN g7=>?_) λ_ _ x=>x;show ku g7 λkM c9 g9 pf ff=>?_;have em:=xU c9.x;generalize kM.m=iY at em;subst em;have GB:∀{φ aB:Ph} {s s':Shared} {O:Hp},aX w φ O s.heap->φ.x=Z++x->a0 Y φ s aB s'->gP s.heap φ i cX->gP s'.heap aB i cX:=λr hx st p=>gP.fL st (λa ha=>hx▸List.mem_append_right _ (hY a ha))
  (λh=>⟨λq=>r.apart i q (hx▸List.mem_append_left _ (hZ (hz▸h))),λq=>qX i (hZ (hz▸h)) (hY i q)⟩) p
 show hB fl iY cN pf (kr hz (dK.xO (ow m₁) c9 g9 ff) (GB dK.rel rfl c9 (GB n₁.rel rfl q.1 dz)) ((jV.trans (q.1.more (λa ha=>List.mem_append_right _ ha))).trans (c9.more (λa ha=>List.mem_append_right _ ha))))
def Pu{j:Nat}{v:V}{cX:It}{aH:Hp}(e:qM K F j O=some (some (v,cX),aH)):∃f x,aH[j]? =some (.iq f x true):=by
 symm
 rcases F3 e with⟨_,_,_,h,_⟩|⟨_,_,_,_,f',x',_,_,_,h3,_,⟨_,h,_⟩|⟨_,_,rfl⟩⟩
 ·left
  cases h
 ·left
  cases h
 ·left
  show gk f' x' h3
def Pw{m eX:List Addr}{dr:Shared}{it:It}{q:Option (V×It)}{aH:Hp}{hW:It}(hh:A.handled=none)(hF:gO K w A.in1 F)(qX:∀a∈jU i hW,a∉x)(xW:∀a∈jU i hW,Apart env a)(sZ:fj dr.heap (jU i hW))
  (I:FI K w env Y x (jU i hW) i eX dr hW.own it J m O s) (e:fq K F it O=some (q,aH)) {N:Option Value->Shared->Prop}
  (h0:q=none->∀m₁ aw,bW K w env J ⟨m₁,x⟩ aH aw->a0 Y ⟨eX,x⟩ dr ⟨m₁,x⟩ aw->N none aw)
  (h1:∀v cX,q=some (v,cX)->∀c m₁ aw,FI K w env Y x (jU i hW) i eX dr hW.own cX J m₁ aH aw->ao aw.heap ⟨m₁,jU i hW++x⟩ v c->(hW.own=false->∃o vs,aw.heap.get? i=some o/\o.cls= .type "callable_iterator"/\o.data= .fields vs)->N (some c) aw):
  wpAny (Mo w) A (pyNext (.ref i)) N (λ_ _=>False) s:=by
 show nJ I λhz n p st=>?_;cases ho:it.own with
 |false=>
  symm
  induction it with
  |ref j=>
   left
   symm
   induction hW with
   |ref abf=>
    left;show bg (Ow hh hF n.rel n.base p q aH e) (λa aw fE=>?_) λ_ _ x=>x;show bK fE λba aP aS pa=>?_;have em:=xU aP.x;generalize ba.m=m₁ at em;subst em;have jV:=a0.trans (st) (aP.more λ_ h=>(nomatch h));induction q with
    |none=>
     induction a with
     |none=>show h0 rfl m₁ aw (n.step aP aS) jV
     |some c=>show pa.elim
    |some vi=>
     induction a with
     |none=>show pa.elim
     |some c=>
      show h1 vi.1 vi.2 rfl c m₁ aw (kr (by rw[pa.2];rfl) (n.step aP aS) (by simp only[pa.2];show(aP.get _ _ p)) jV) pa.1 λ_=>?_;show fg (Pu e) λf' x' bB=>?_;show br (aS.objs j i _ (aP.get _ _ p) bB) λc' _ h1 _=>?_;show cF _ _ h1 rfl rfl
   |_=>cases hz
  |_=>cases ho
 |true=>
  have Px:jU i hW=[i]:=Bi (hz.symm.trans ho);rw[Px]at qX xW sZ n p st h1;have e':nS O it=some q/\aH=O:=by
   induction it<;>first|(cases ho;done)|(show aj (eo e) λo' e5 e6=>?_;cases e6;show⟨e5,rfl⟩)
  show aI e' λe' aF=>?_;subst aF;have ap:=xW i (.head _);show FU hh n.rel (.head _) p e' (And.intro (λv cX hq c h' tk kk live pv iM fe=>?_) (λhq h' tk kk=>?_))
  ·show h1 v cX hq c m _ (kr (fe.trans (ho.symm.trans hz)) (n.qK (.head _) ap kk live) iM (st.trans (.but (.head _) kk live))) pv λh=>by rw[<-hz,ho]at h;cases h
  ·show h0 hq m _ (n.nW (qX i (.head _)) ap.loc ap.cell kk) (st.nW (sZ i (.head _)) kk)
def Py{t:Expr}{du:List Stmt}{om:ab->M (ab×Fl)}{eX m₁:List Addr}{dr aw:Shared}{o:ab×Fl}{aH:Hp}(ho:∀J,St K w A Y sc env (execs du env) J (om J))(own:Own Y sc env ⟨m₁,x⟩)(n₁:bW K w env J ⟨m₁,x⟩ aH aw)(jV:a0 Y ⟨eX,x⟩ dr ⟨m₁,x⟩ aw)(e:om J aH=some (o,aa)):
  wpAny (Mo w) A (execs du env) (λf' cN=>Bj w env Y x eX dr o.1 o.2 aa (.ok f') cN) (λ_ _=>False) aw:=by
 show bg (ho J ⟨m₁,x⟩ aH aw n₁ own o aa e) (λfl cN h=>?_) λ_ _ x=>x;show ku h λkM c9 g9 pf ff=>?_;have em:=xU c9.x;generalize kM.m=iY at em;subst em;show zX fl iY rfl (jV.trans c9) g9 pf ff
def Pz{R:Result->Shared->Prop}{t:Expr}{it:Value}{body du:List Stmt}(I:Nat->Shared->Prop)
  (turn:∀n s,I n s->∀(N:Option Value->Shared->Prop) (B:Flow->Shared->Prop),(∀aw,wpAny (Mo w) A (execs du env) (λf cN=>R (.ok f) cN) (λ_ _=>False) aw->N none aw)->
   (∀v aw,wpAny (Mo w) A (letOwnedTupleGo t it v) (λ_ Bk=>wpAny (Mo w) A (assign t env v) (λ_ a8=>wpAny (Mo w) A (execs body env) B (λ_ _=>False) a8) (λ_ _=>False) Bk) (λ_ _=>False) aw->N (some v) aw)->
   (∀fl cN m,fl= .next\/fl= .cont->m<n->I m cN->B fl cN)->(∀cN,R (.ok .next) cN->B .brk cN)->(∀v cN,R (.ok (.ret v)) cN->B (.ret v) cN)->wpAny (Mo w) A (pyNext it) N (λ_ _=>False) s)
  (n:Nat) (h:I n s):codeAny (Mo w) A (.forLoop t it body du env) R s:=by
 show codeAny_forLoop_any I (λn s hI=>bg (turn n s hI _ (λf cN=>match f with
  | .next| .cont=>∃m,m<n/\I m cN
  | .brk=>R (.ok .next) cN
  | .ret v=>R (.ok (.ret v)) cN) (λ_ x=>bg x (λ_ _ x=>x) λ_ _ x=>x.elim) (λ_ _ x=>bg x (λ_ _ x=>bg x (λ_ _ x=>bg x (λf _ x=>?_) λ_ _ x=>x.elim) λ_ _ x=>x.elim) λ_ _ x=>x.elim) (λfl cN m h hm hi=>?_) (λ_ h=>h) (λ_ _ h=>h)) (λ_ _ x=>x) λ_ _ x=>x.elim) n h
 ·induction f<;>show x
 ·rcases h with rfl|rfl<;>show aA m hm hi
def GC{t:Expr}{body du:List Stmt}{bm om:ab->M (ab×Fl)}(hh:A.handled=none)(hF:gO K w A.in1 F)(hb:∀J,St K w A Y sc env (execs body env) J (bm J))(ho:∀J,St K w A Y sc env (execs du env) J (om J))
  {hW:It} (hY:∀a∈Y,a∈x) (jP:dX sc env) (mY:env.locals∈Y) (kR:∀x a,sc.names.lookup x=some .cell->env.cells.lookup x=some a->a∈Y)
  (qX:∀a∈jU i hW,a∉x) (xW:∀a∈jU i hW,Apart env a) (eX:List Addr) (dr:Shared) (sZ:fj dr.heap (jU i hW)) (o:ab×Fl) (aa:Hp)
  (bD:Nat) (it:It) (J:ab) (m:List Addr) (O:Hp) (s:Shared) (hI:FI K w env Y x (jU i hW) i eX dr hW.own it J m O s) (e:xT K F sc t bm om bD it J O=some (o,aa)):
  codeAny (Mo w) A (.forLoop t (.ref i) body du env) (Bj w env Y x eX dr o.1 o.2 aa) s:=by
 show Pz (λfu s=>∃it J m O,FI K w env Y x (jU i hW) i eX dr hW.own it J m O s/\xT K F sc t bm om fu it J O=some (o,aa)) (λfu s h N B hN hS hB hK hR=>?_) bD (z4 it J m O hI e)
 symm
 show zZ h λit J m O hI e=>?_;show sD (Pq e) λvo q aH GD e3 e0 e1=>?_;left;show Pw hh hF qX xW sZ hI e3 (λhq m₁ aw n₁ jV=>hN aw (Py (t:=t) ho ⟨hY,jP,mY,kR⟩ n₁ jV (e0 hq))) λv cX hq c m₁ aw PA pv hc=>hS c aw ?_;show sD (e1 v cX hq) λcV oW cI e5 e6 e7 e8=>?_;have vp:∀a∈x,a∈jU i hW++x:=λa ha=>List.mem_append_right _ ha;show Pt hh hb hY jP mY kR qX (λh=>Bi h▸ .head _) PA pv hc e5 λfl iY cN pf pY=>?_;induction oW with
 |next=>cases fl<;>first|show pf.elim|show hB _ cN vo (.inl rfl) (GD▸Nat.lt_succ_self _) (z4 _ _ _ _ pY (e6 (.inl rfl)))
 |cont=>cases fl<;>first|show pf.elim|show hB _ cN vo (.inr rfl) (GD▸Nat.lt_succ_self _) (z4 _ _ _ _ pY (e6 (.inr rfl)))
 |brk=>
  show aI (e7 rfl) λq1 q2=>?_;cases fl<;>first|show pf.elim|show hK cN ?_
  rw[q1,q2];show zX .next iY rfl (pY.2.2.2.GA sZ) (pY.2.1.rel.jt vp) trivial (pY.2.1.fits.jt vp)
 |ret u=>
  cases fl<;>first|show pf.elim|show hR _ cN ?_
  rw[(e8 u rfl).1,(e8 u rfl).2];show zX _ iY rfl (pY.2.2.2.GA sZ) (pY.2.1.rel.jt vp) (mq.jt (f:= .ret u) (fl:= .ret _) vp pf) (pY.2.1.fits.jt vp)
def PB{t iter:Expr}{body du:List Stmt}{pos:Pos}{first:M V}{bm om:ab->M (ab×Fl)}(hh:A.handled=none)(hF:gO K w A.in1 F)(hg:lG iter=true)(lJ:Ev K w A env J (eval iter env) first)
  (hb:∀J,St K w A Y sc env (execs body env) J (bm J)) (ho:∀J,St K w A Y sc env (execs du env) J (om J)):
  St K w A Y sc env (exec (.For t iter body du pos) env) J (forM K F sc t first bm om J):=λφ O s n o=>by
 intro b aa e;show fN λQ hQ=>?_;show br (cy e) λxs ag e1 e3=>?_;show br (cy e3) λit aH e2 e4=>?_;clear e e3;show ax (wpAny_standAt (ax (bg (lJ φ O s n xs ag e1) (λxv aw fE=>?_) λ_ _ x=>x)));show bK fE λba aP aS pv=>?_;have n₁:=n.step aP aS;have em:=xU aP.x;generalize ba.m=m₁ at em;subst em;rw[xF hg];show ax (aW (ax (wpAny_standAt (ax (eM (AI aS pv e2 λj h' tk bB hf kk iM=>?_))))));show wpAny_runOwn (codeAny_mono (R:=Bj w env Y φ.x m₁ aw b.1 b.2 aa) ?_ λr s' h=>?_)
 ·subst bB
  symm
  cases hw:it.own with
  |false=>
   left;cases it with
   |ref k=>show GC (hW:= .ref k) hh hF hb ho o.sub o.jP o.loc o.cell (λ_ h=>(nomatch h)) (λ_ h=>(nomatch h)) m₁ aw (λ_ h=>(nomatch h)) b aa _ (.ref k) J m₁ aH _ (kr rfl (n₁.step (a0.heap (Y:=[]) (tk:=tk) kk) (aS.keeps kk)) iM (a0.heap (tk:=tk) kk)) e4
   |_=>cases hw
  |true=>
   left;have hz:jU j it=[j]:=Bi hw;have xN:=AH hw▸iM;have I:FI K w env Y φ.x (jU j it) j m₁ aw it.own it J m₁ aH {aw with heap:=h',toks:=tk}:=by
    rw[hz];show kr rfl (n₁.A4 (hf hw).1 kk (hf hw).2) xN (a0.heap (tk:=tk) kk)
   show GC hh hF hb ho o.sub o.jP o.loc o.cell ?_ ?_ m₁ aw ?_ b aa _ it J m₁ aH _ I e4<;>rw[hz]<;>intro a h<;>rw[fW h]
   ·show λq=>by show aU (n₁.rel.iU j q) λo e=>?_;rw[(hf hw).1]at e;cases e
   ·show n₁.apart (hf hw).1
   ·show(hf hw).1
 ·show zW h λfl m' hr st rl pf ff=>?_
  subst hr;show hQ _ _ (dw ⟨m',φ.x⟩ ((aP.more λ_ h=>(nomatch h)).trans st) rl pf ff)
abbrev n9(tm:ab->M Bool)(bm om:ab->M (ab×Fl)):Nat->ab->M (ab×Fl)
 |0,_=>au
 |n+1,J=>do
  let b<-tm J
  if b=true then do
   let r<-bm J
   match r.2 with
   | .next=>n9 tm bm om n r.1
   | .cont=>n9 tm bm om n r.1
   | .brk=>pure (r.1,.next)
   | .ret v=>pure (r.1,.ret v)
  else om J
def PC{f:Fl}{fl:Flow}{h:Heap}{φ:Ph}{m:M (ab×Fl)}{J:ab}{O:Hp}{p:(ab×Fl)×Hp}{t:Sem PySem.Fin}{G:Sem PySem.Fin->Prop}(pf:mq h φ f fl)
  (e:(match(generalizing:=false) f with| .next=>m| .cont=>m| .brk=>pure (J,Fl.next)| .ret v=>pure (J,Fl.ret v):M (ab×Fl)) O=some p) (h1:m O=some p->G t) (h2:((J,Fl.next),O)=p->G (pure (.done .next)))
  (h3:∀v c,ao h φ v c->((J,Fl.ret v),O)=p->G (pure (.done (.ret c)))):G (match(generalizing:=false) fl with| .next=>t| .cont=>t| .brk=>pure (.done .next)| .ret v=>pure (.done (.ret v))):=
 OZ (P:=λf fl=>(match(generalizing:=false) f with| .next=>m| .cont=>m| .brk=>pure (J,Fl.next)| .ret v=>pure (J,Fl.ret v):M (ab×Fl)) O=some p->G (match(generalizing:=false) fl with| .next=>t| .cont=>t| .brk=>pure (.done .next)| .ret v=>pure (.done (.ret v)))) pf h1 (λe=>h2 (bN e)) h1 (λ_ _ r e=>h3 _ _ r (bN e)) e
def PD{jT:Expr}{body du:List Stmt}{pos:Pos}{tm:ab->M Bool}{bm om:ab->M (ab×Fl)}(bD:Nat)(ht:∀J,gp K w A env J (isTrue jT env (eval jT env)) (tm J))
  (hb:∀J,St K w A Y sc env (execs body env) J (bm J)) (ho:∀J,St K w A Y sc env (execs du env) J (om J)):
  St K w A Y sc env (exec (.While jT body du pos) env) J (n9 tm bm om bD J):=λφ O s n o=>by
 intro b aa e;show fN λQ hQ=>?_;show ax (wpAny_standAt (wpAny_runOwn ?_));show codeAny_loop rfl (λf s'=>∃aB J O,a0 Y φ s aB s'/\bW K w env J aB O s'/\n9 tm bm om f J O=some (b,aa)) (λf s' hI=>?_) bD (pL φ J O (.refl ..) n e);show nK hI λaB J O st n e=>?_;change wpAny _ A ((whileTurn jT body du env).onRaise (λx=>do noteFrame x env;theTreesLotGoes x)) _ _ s';show wpAny_noted ?_;clear hI;induction f with
 |zero=>show jI (show(au:M (ab×Fl)) O=_ from e)
 |succ f ih=>
  clear ih;show br (cy e) λk ag e1 e2=>?_;show ax (bg (ht J aB O s' n k ag e1) (λa aw GF=>bK GF λba aP aS pa=>?_) λ_ _ x=>x.elim);clear GF e1;subst pa;have n₁:=n.step aP aS;have pX:=(o.step st).step aP;have jV:=st.trans (aP.more λ_ h=>(nomatch h));induction a with
  |false=>
   show ax (bg (ho J ba ag aw n₁ pX b aa e2) (λfl a8 PE=>bK PE λcB bu ct sR=>aW (hQ _ _ (bj cB (jV.trans bu) ct sR))) λ_ _ x=>x.elim)
  |true=>
   show br (cy (m:=bm J) e2) λq aH e3 e4=>?_;show ax (bg (hb J ba ag aw n₁ pX q aH e3) (λfl a8 GG=>ku GG λcB bu ct pf ff=>?_) λ_ _ x=>x.elim);clear GG e3;have dK:=n₁.xO pX bu ct ff;have Bl:=jV.trans bu;clear n₁ aP jV pX bu e2 st aS o n;show PC (G:=λt=>wpAny (Mo w) A t _ _ _) pf e4 (λe4=>?_) (λhp=>?_) λv c pf hp=>?_
   ·show aW ⟨rfl,f,Nat.lt_succ_self _,pL cB q.1 aH Bl dK e4⟩
   ·show aW (hQ _ _ ?_)
    apply g4 hp;show dw cB Bl ct trivial ff
   ·show aW (hQ _ _ ?_)
    apply g4 hp;show dw cB Bl ct pf ff
abbrev xX(sc:Scope)(J:ab)(x:Str):M V:=if cR sc x=true then bJ (J.lookup x)else au
def PF{y:Str}(jP:dX sc env)(n:bW K w env J φ O s):cn w A φ O s (loadName env y) (xX sc J y) λh φ v c=>ao h φ v c:=by
 intro b aa e;show aI (fO e) λhx e=>?_;show aI (lD e) λh1 h2=>?_;dsimp only at h1 h2;obtain rfl:=Eq.symm h2;have hk:env.kindOf y=sc.names.lookup y:=by
  rcases jP y with h|⟨h,_⟩
  ·show h
  ·unfold cR at hx;rw[h]at hx;simp at hx
 show Or.elim (Bool.or_eq_true_iff.mp hx) (λh=>?_) λh=>?_
 ·have hk:=hk.trans (dN h)
  show aj n.fits.ns λm hm hr=>?_;show aj (hr y b h1 hk) λc h3 h4=>?_;show wpAny_loadName_local n.fits.kind hk hm h3 (cC n.rel h4)
 ·have hk:=hk.trans (dN h)
  show ck (n.fits.cells y b h1 (.inl hk)) λa c h3 h4 h5=>?_;show wpAny_loadName_cell n.fits.kind hk h3 h4 (cC n.rel h5)
def PH{y:Str}{op:Operator}{PI pos:Pos}{value:Expr}{m:M V}(jP:dX sc env)(h:Ev K w A env J (eval value env) m):
  St K w A Y sc env (exec (.AugAssign (.Name y PI) op value pos) env) J (do let a<-xX sc J y;let b<-m;let v<-kK op a b;if cR sc y=true then pure ((y,v)::J,Fl.next)else au):=λφ O s n o=>by
 show .standAt ?_;show .ja (PF jP n:cn w A φ O s (loadName env y) (xX sc J y) λh φ v c=>ao h φ v c) λba ag aw ca a aP aS pa=>?_;show .ja (.holding (h ba ag aw (n.step aP aS))) λcB aH a8 cb b bu ct pb=> .standAt ?_;show .ja (.operate (Fj op a b ca cb ct (pa.step bu) pb)) λkM cI cN cv v c9 g9 pv=> .standAt ?_;intro q aa e;show aI (fO e) λhx e=>?_;cases fh e;show fN λQ hQ=>?_;show ax (bg (pR (((n.step aP aS).step bu ct).step c9 g9) (((o.step aP).step bu).step c9) pv hx) (λ_ eY PJ=>aI PJ λfc mZ=>aW (hQ _ _ (dw kM fc mZ.rel trivial mZ.fits))) λ_ _ x=>x)
abbrev cY(O:Hp)(j:Nat):Option (Addr×Nat×List (Str×V)):=match O[j]?with
 |some (.inst C d)=>match O[d]?with
  |some (.attrs l)=>some (C,d,l)
  |_=>none
 |_=>none
abbrev xY:V->Bool
 | .con _=>false
 |_=>true
abbrev qY(K:W.Frag)(C:Addr)(name:Str):Option Addr:=(W.findIn K (.ref C) name).bind λo=>o.bind mO
def PK{K:W.Frag}{C f:Addr}{name:Str}(h:W.findIn K (.ref C) name=some (some (.ref f))):qY K C name=some f:=by
 delta qY;rw[h];rfl
def Bm{K:W.Frag}{C f:Addr}{name:Str}(h:qY K C name=some f):W.findIn K (.ref C) name=some (some (.ref f)):=by
 show aj (dj h) λo h1 h=>?_;show aj (dj h) λv h2 h=>?_;rw[h1,h2,uu h]
abbrev vq(K:W.Frag)(C:Addr)(name:Str):Option Addr:=(qY K C name).bind λf=>if W.typeIn K (.ref f)=some (.type "function")/\W.specialIn K (.ref f) "__get__"=some (some (.builtin "function.__get__"))/\W.takesIn K (.ref f)=some false/\W.copiedNames.contains name=false then some f else none
abbrev s6(K:W.Frag)(C:Addr)(name:Str):Bool:=match W.findIn K (.ref C) name with
 |some attr=>W.noGet K attr
 |none=>false
abbrev ju(K:W.Frag)(a:V)(name:Str):M V:=λO=>(qG a).bind λj=>(cY O j).bind λq=>if W.plainGet K q.1 name=true/\W.hasDictIn K q.1=true then
  (q.2.2.lookup name).elim ((vq K q.1 name).map λf=>(.dO (.ref f) (.ref j),O)) λv=>if s6 K q.1 name=true/\xY v=true then some (v,O)else none
 else none
def Bn{es:List DictEntry}(h:∀e∈es,∃x t,e.key= .str x t):es.any (·.refKey)=false:=by
 rw[List.any_eq_false];intro e he;show fg (h e he) λx t q=>?_;simp[DictEntry.refKey,q]
def Bo{j:Nat}{C:Addr}{d:Nat}{l:List (Str×V)}(e:cY O j=some (C,d,l)):O[j]? =some (.inst C d)/\O[d]? =some (.attrs l):=by
 unfold cY at e;cases h1:O[j]?with
 |none=>rw[h1]at e;show fD e
 |some o=>
  rw[h1]at e;clear h1;induction o with
  |inst C' d'=>
   change (match O[d']?with|some (.attrs l)=>some (C',d',l)|_=>none)=_ at e;cases h2:O[d']?with
   |none=>rw[h2]at e;show fD e
   |some o=>
    rw[h2]at e;induction o with
    |attrs l'=>
     show aI (dh (bN e)) λe1 e2=>?_;show aI (dh e2) λe2 e3=>?_;subst e1 e2 e3;show⟨rfl,h2⟩
    |_=>show fD e
  |_=>show fD e
def GH{x:Str}{es:List DictEntry}(h7:∀e∈es,∃x t,e.key= .str x t){o:Option Value}(h:(es.find? (·.key.isStr x)).map (·.val)=o):W.getL x es=some o:=by
 unfold W.getL;cases hf:es.find? (·.key.isStr x)with
 |none=>rw[hf]at h;rw[<-h];rw[Bn h7];rfl
 |some en=>rw[hf]at h;show aJ _ h
def GI{j:Nat}{a C:Addr}{d:Nat}{l:List (Str×V)}(r:aX w φ O s.heap)(hj:φ.m[j]? =some a)(e:cY O j=some (C,d,l)):
  ∃dx es n,φ.m[d]? =some dx/\O[d]? =some (.attrs l)/\W.InstAt s.heap a (W.instObj C dx) C (some (W.dictOf es n))/\s.heap.get? dx=some (W.dictOf es n)/\es.length<=l.length/\(∀e∈es,∃x t,e.key= .str x t)/\
   ∀x,match l.lookup x with
    |some v=>∃c,W.getL x es=some (some c)/\ao s.heap φ v c
    |none=>W.getL x es=some none:=by
 symm
 show aI (Bo e) λh1 h2=>?_;show aj (r.objs j a _ hj h1) λdx h3 h4=>?_;show ck (r.objs d dx _ h3 h2) λes n h5 ux h8=>?_;show aI (ux) λh6 h7=>?_;left;show MJ dx es n h3 h2 ⟨h4,rfl,rfl,h5⟩ h5 h6 h7 (λx=>?_);have:=h8 x;cases hl:l.lookup x with
 |some v=>
  rw[hl]at this;show aj this λc h9 oa=>?_;show aA c (GH h7 h9) oa
 |none=>simp only[hl]at this;show GH h7 (aJ _ (this))
def PL{v:V}{c:Value}{h:Heap}(hv:xY v=true)(p:ao h φ v c):W.handedIn c=true:=by
 cases v<;>first|(show absurd hv g0)|(delta ao at p)<;>first|(subst p;rfl)|(show aU p λ_ aF=>?_;subst aF;rfl)|(show aj p λ_ aF _=>?_;subst aF;rfl)|(show br p λ_ _ ay _=>?_;subst ay;rfl)|(show zZ p λ_ _ _ _ dW _=>?_;subst dW;rfl)
def PM{a v:V}{name:Str}(e:ju K a name O=some (v,aa)):∃j C d l,a= .ref j/\cY O j=some (C,d,l)/\(W.plainGet K C name=true/\W.hasDictIn K C=true)/\aa=O/\
  ((l.lookup name=some v/\s6 K C name=true/\xY v=true)\/(l.lookup name=none/\∃f,vq K C name=some f/\v= .dO (.ref f) (.ref j))):=by
 show aj (dj e) λj ha e=>?_;show aj (dj e) λq hi e=>?_;show aI (fi e) λhg e=>?_;show EY j q.1 q.2.1 q.2.2 (xl ha) hi hg ?_;generalize hl:q.2.2.lookup name=o at e;induction o with
 |some u=>
  show aI (fi e) λhv e=>?_;show aI (dh (bN e)) λbY aF=>?_;subst bY;show⟨aF.symm,.inl ⟨rfl,hv⟩⟩
 |none=>
  show aj (eo e) λf hf e=>?_;show aI (dh e) λbY aF=>?_;show⟨aF.symm,.inr ⟨rfl,f,hf,bY.symm⟩⟩
set_option tactic.hygienic true in
def PN{C:Addr}{name:Str}(h:s6 K C name=true):∃attr,W.findIn K (.ref C) name=some attr/\W.noGet K attr=true:=by
 unfold s6 at h;split at h
 ·rename_i attr ha;show aA attr ha h
 ·cases h
def PO{C f:Addr}{name:Str}(h:vq K C name=some f):W.findIn K (.ref C) name=some (some (.ref f))/\W.typeIn K (.ref f)=some (.type "function")/\W.specialIn K (.ref f) "__get__"=some (some (.builtin "function.__get__"))/\W.takesIn K (.ref f)=some false/\W.copiedNames.contains name=false:=by
 show aj (dj h) λg hg h=>?_;show aI (fi h) λhc h=>?_;cases bN h;show⟨Bm hg,hc⟩
def Bp{a:V}{ca:Value}{name:Str}{expr:Bool}(r:aX w φ O s.heap)(b:cO K φ s.heap)(p:ao s.heap φ a ca):cn w A φ O s (getAttr ca name expr) (ju K a name) λh φ v c=>ao h φ v c:=by
 intro v aa e;show EW (PM e) λj C d l dW hi hg PQ hv=>?_;subst dW;obtain rfl:=Eq.symm PQ;clear e;show aj p λa aF hj=>?_;subst aF;show ES (GI r hj hi) λdx es n h1 h2 I h3 h4 h5 h6=>?_;have h6:=h6 name;show fN λQ hQ=>?_
 symm
 rcases hv with⟨hl,Bq,hc⟩|⟨hl,f,hf,rfl⟩
 ·left
  rw[hl]at h6;show aj h6 λc h7 h8=>?_;show aj (PN Bq) λattr ha Bq=>?_;show W.get_value b.k I (W.plainGet_of hg.1).1 (W.findObj_own hg.2 ha Bq (by show h7)) (PL hc h8) (hQ _ _ (cC r h8))
 ·left
  rw[hl]at h6
  symm
  show zT (PO hf) λvr c1 c2 c3 c4=>?_;show aj (W.any_some hg.2) λcd iW Br=>?_;left;have xZ:W.findObj K C (some (W.dictOf es n)) name=some (.bind (.builtin "function.__get__") (.ref f)):=ob iW (ob vr (ob c2 (ob c3 (ob (show W.ownOf cd (some (W.dictOf es n)) name=some none from(az Br).trans h6) (aN λq=>g0 (c4.symm.trans (fb q).1))))));show W.get_bind b.k I (W.plainGet_of hg.1).1 xZ (W.plainGet_of hg.1).2 (wpAny_call (W.fn_get (s:={s with toks:=s.toks+1}) b.k c1 ?_));show lI (W.handedOut_of rfl) (aW (hQ _ _ (done (tk:=s.toks+1) r (er (z6 (.ref f) (.ref a))) ?_)));show fC _ _ rfl r.fresh (dT _ rfl) (by delta ao;show aA a rfl hj)
def PR{o:Expr}{name:Str}{pos:Pos}{m:M V}(hp:uQ o=true)(h:Ev K w A env J (eval o env) m):Ev K w A env J (eval (.Attribute o name pos) env) (do let a<-m;ju K a name):=by
 intro φ O s n;simp only[arm_eval_Attribute];rw[FQ hp];show .bind (h φ O s n) λba ag aw ca a aP aS pa=> .standAt ?_;intro v aa e;show ax (eM (bg (Bp aS (n.base.step aP) pa v aa e) (λc a8 q=>?_) λ_ _ x=>x));show ax (wpAny_letTemporaryGo (aW q))
abbrev cw(x:Str)(v:V):List (Str×V)->List (Str×V)
 |[]=>[(x,v)]
 |(y,u)::l=>if y=x then(y,v)::l else(y,u)::cw x v l
def oY{x y:Str}{v:V}:∀{l:List (Str×V)},(cw x v l).lookup y=if y=x then some v else l.lookup y
 |[]=>by
  change([(x,v)]:List (Str×V)).lookup y=_;by_cases h:y=x
  ·subst h;simp
  ·simp only[di,gm h,aN h]
 |(z,u)::l=>by
  by_cases hz:z=x
  ·subst hz
   rw[show cw z v ((z,u)::l)=(z,v)::l from az rfl];by_cases h:y=z
   ·subst h;simp
   ·simp only[di,di,gm h,aN h]
  ·rw[show cw x v ((z,u)::l)=(z,u)::cw x v l from aN hz,di,di]
   by_cases h:y=z
   ·subst h;rw[aN hz];simp
   ·show(gm h)▸(oY)
def pZ{x:Str}{v:V}:∀{l:List (Str×V)},(cw x v l).length=if(l.lookup x).isSome=true then l.length else l.length+1
 |[]=>rfl
 |(z,u)::l=>by
  by_cases hz:z=x
  ·subst hz;rw[show cw z v ((z,u)::l)=(z,v)::l from az rfl];simp
  ·rw[show cw x v ((z,u)::l)=(z,u)::cw x v l from aN hz]
   simp only[di,gm (λh=>hz h.symm)];rw[List.length_cons,pZ];split<;>rfl
def GJ{x y:Str}{lK:Int}{t:Tok}{v:Value}:∀{es:List DictEntry},((W.putL x lK (.str x t) v es).find? (·.key.isStr y)).map (·.val)=if y=x then some v else(es.find? (·.key.isStr y)).map (·.val)
 |[]=>by
  delta W.putL;by_cases h:y=x
  ·subst h;simp[Value.isStr]
  ·rw[aN h]
   have:(Value.str x t).isStr y=false:=by rw[Value.isStr,beq_eq_false_iff_ne];show λq=>h q.symm
   simp[this]
 |e::es=>by
  unfold W.putL;have uniq:∀{z z'},e.key.isStr z=true->e.key.isStr z'=true->z=z':=by
   intro z z' h1 h2;cases hk:e.key<;>rw[hk]at h1 h2<;>simp[Value.isStr]at h1 h2;simp only[<-h1,<-h2]
  by_cases he:e.key.isStr x=true
  ·rw[az he,List.find?_cons,List.find?_cons]
   by_cases h:y=x
   ·subst h;rw[he];simp
   ·have:e.key.isStr y=false:=by
     cases q:e.key.isStr y with
     |false=>rfl
     |true=>show absurd (uniq q he) h
    rw[this,aN h]
  ·rw[aN he,List.find?_cons,List.find?_cons]
   cases q:e.key.isStr y with
   |true=>
    have:y≠x:=by rintro rfl;show he q
    rw[aN this]
   |false=>show GJ
def GK{x:Str}{lK:Int}{t:Tok}{v:Value}:∀{es:List DictEntry},(∀e∈es,∃x t,e.key= .str x t)->∀e∈W.putL x lK (.str x t) v es,∃x t,e.key= .str x t
 |[],_,e,he=>by
  have:e=⟨lK,.str x t,v⟩:=fW he;subst this;show gk x t rfl
 |e'::es,h,e,he=>by
  unfold W.putL at he;split at he
  ·rcases cj he with rfl|he
   ·show h e' (.head _)
   ·show h e (.tail _ he)
  ·rcases Or.imp_left Eq.symm (cj he)with rfl|he
   ·show h _ (.head _)
   ·show GK (λe he=>h e (.tail _ he)) e he
def x4{x:Str}{lK:Int}{t:Tok}{v:Value}:∀{es:List DictEntry},(W.putL x lK (.str x t) v es).length=if(es.find? (·.key.isStr x)).isSome=true then es.length else es.length+1
 |[]=>rfl
 |e::es=>by
  unfold W.putL;by_cases he:e.key.isStr x=true
  ·rw[az he,List.find?_cons,he];rfl
  ·rw[aN he,List.find?_cons,Bool.eq_false_iff.mpr he]
   simp only[List.length_cons,x4];split<;>rfl
abbrev s7(K:W.Frag)(C:Addr)(name:Str):Bool:=W.findIn K (.ref C) "__setattr__"==some (some (.builtin "object.__setattr__"))&&W.plainOver K C&&W.takerIn K C name==some none&&W.hasDictIn K C
abbrev lL(K:W.Frag)(a:V)(name:Str)(v:V):M Unit:=λO=>(qG a).bind λj=>(cY O j).bind λq=>if s7 K q.1 name=true/\q.2.2.length<=900 then some ((),O.set q.2.1 (.attrs (cw name v q.2.2)))else none
def GL{K:W.Frag}{O:Hp}{j d:Nat}{C:Addr}{l:List (Str×V)}{name:Str}{v:V}(hi:cY O j=some (C,d,l))(hs:s7 K C name=true/\l.length<=900):lL K (.ref j) name v O=some ((),O.set d (.attrs (cw name v l))):=ob rfl (ob hi (az hs))
def GN{name:Str}{t:Tok}{c:Value}{es:List DictEntry}{n:Nat}{h:Heap}{dx:Addr}(h3:h.get? dx=some (W.dictOf es n)):
  (h.update dx (Obj.putName name (PyData.keyHash w.params name) (.str name t) c)).get? dx=some (W.dictOf (W.putL name (PyData.keyHash w.params name) (.str name t) c es) (W.putN name es n)):=by
 rw[<-W.putName_dict];show Heap.get?_update_self _ h3 (by rw[W.putName_dict];rfl)
def PS{a v:V}{name:Str}{u:Unit}(e:lL K a name v O=some (u,aa)):∃j C d l,a= .ref j/\cY O j=some (C,d,l)/\s7 K C name=true/\l.length<=900/\aa=O.set d (.attrs (cw name v l)):=by
 show aj (dj e) λj ha e=>?_;show aj (dj e) λq hi e=>?_;show aI (fi e) λhc e=>?_;show MM j q.1 q.2.1 q.2.2 (xl ha) hi hc.1 hc.2 ((dh (bN e)).2.symm)
def PT{l:List (Str×V)}{es:List DictEntry}{n:Nat}{name:Str}{lK:Int}{t:Tok}{v:V}{c:Value}{h h':Heap}{dx:Addr}(h4:es.length<=l.length)(h5:∀e∈es,∃x t,e.key= .str x t)
  (h6:∀x,match l.lookup x with|some v=>∃c,(es.find? (·.key.isStr x)).map (·.val)=some c/\ao h φ v c|none=>es.find? (·.key.isStr x)=none) (gA:iH φ φ h h') (pv:ao h φ v c) (key:h'.get? dx=some (W.dictOf (W.putL name lK (.str name t) c es) (W.putN name es n))):
  nM w h' φ (.attrs (cw name v l)) dx:=by
 show cF _ _ key ⟨?_,GK h5⟩ (λy=>?_)
 ·simp only[x4,pZ]
  have:=h6 name;cases hl:l.lookup name with
  |some v'=>
   rw[hl]at this;show aj this λc' q _=>?_;show aj (eo q) λen q _=>?_;show(q)▸(h4)
  |none=>split<;>simp<;>omega
 ·have pf:=GJ (x:=name) (y:=y) (lK:=lK) (t:=t) (v:=c) (es:=es)
  rw[oY];by_cases hy:y=name
  ·rw[az hy]at pf|-
   show aA c pf (ao.mono gA (λ_ _ e=>e) _ _ pv)
  ·rw[aN hy]at pf|-
   have:=h6 y;cases hl:l.lookup y with
   |some v'=>
    rw[hl]at this;show aj this λc' q pc=>?_;show aA c' (pf.trans q) (ao.mono gA (λ_ _ e=>e) _ _ pc)
   |none=>
    simp only[hl]at this;rw[show es.find? (·.key.isStr y)=none from this]at pf;show Option.map_eq_none_iff.mp pf
def GO{a v:V}{ca c:Value}{name:Str}(r:aX w φ O s.heap)(b:cO K φ s.heap)(p:ao s.heap φ a ca)(pv:ao s.heap φ v c):cn w A φ O s (setAttr ca name c) (lL K a name v) λ_ _ _ _=>True:=by
 intro u aa e
 symm
 show EW (PS e) λj C d l dW hi hc bV PU=>?_;subst dW;subst PU;clear e;show aj p λa aF hj=>?_;subst aF;show aI (Bo hi) λq1 q2=>?_;show aj (r.objs j a _ hj q1) λdx hm h4=>?_;show ck (r.objs d dx _ hm q2) λes n h3 ux h8=>?_;obtain⟨h6,h7⟩:=ux;have I:W.InstAt s.heap a (W.instObj C dx) C (some (W.dictOf es n)):=⟨h4,rfl,rfl,h3⟩;unfold s7 at hc;simp only[Bool.and_eq_true,beq_iff_eq]at hc;obtain⟨⟨⟨c1,c2⟩,c3⟩,c4⟩:=hc;left;show fN λQ hQ=>?_;show W.set_plain b.k I c1 (W.osa_open (s:={s with toks:=s.toks+1}) b.k I c2 c3 λbb=>?_);show aj (W.any_some c4) λcd iW Br=>?_;have key:=GN (w:=w) (name:=name) (t:=s.toks+1) (c:=c) (es:=es) (n:=n) (h:=s.heap) h3;show ax (aW (ax (ax (wpAny_loadPart I.at_ (ax (W.looks_clsIn b.k iW _ _ _ _ (λ_ _ e=>e) ?_))))));rw[Br];show aW (a:=some dx) (ax (aW (ax ?_)));show ax (ax (wpAny_askSetting (aW (ax (wpAny_mkText (ax (wpAny_loadPart h3 ?_)))))));have qZ:(!es.toArray.any (·.key.isStr name)&&es.toArray.any (·.refKey))=false:=by
  rw[(by rw[<-Array.any_toList];show Bn h7:es.toArray.any (·.refKey)=false),Bool.and_false]
 dsimp only;rw[aRefKeyMayBeTheName_at,qZ];have kk:∀b o,b≠dx->s.heap.get? b=some o->(s.heap.update dx (Obj.putName name (PyData.keyHash w.params name) (.str name (s.toks+1)) c)).get? b=some o:=λb o hb e=>(Heap.get?_update_ne _ _ _ _ hb).trans e;have PV:(W.putL name (PyData.keyHash w.params name) (.str name (s.toks+1)) c es).length<=l.length+1:=by rw[x4];split<;>lia
 show wpAny_updatePart h3 ?_;show ax (wpAny_lookBehind key (pastItsLine_dict (by simp only[List.size_toArray,sizeLine_eq];lia)) (aW (hQ _ _ ?_)));show bj φ (.at (tk:=s.toks+2) (gZ hm:dx∈φ.m) kk ⟨_,key⟩) (r.setAt hm kk ⟨_,key⟩ (aA _ q2 (zk rfl)) (PT h6 h7 h8 (mW (h:=s.heap) (gZ hm:dx∈φ.m) kk) pv key)) trivial
def PX{aC:List (Str×Value)}{k y:Str}{v:Value}:valueAt (stored aC k v) y=if y=k then some v else valueAt aC y:=by
 delta valueAt stored;by_cases hm:(aC.any λkv=>kv.1=k)=true
 ·rw[az hm]
  have main:∀l:List (Str×Value),((l.map λkv=>if kv.1=k then(kv.1,v)else kv).find? λkv=>kv.1=y).map (·.2)=if y=k then(if(l.any λkv=>kv.1=k)=true then some v else none)else(l.find? λkv=>kv.1=y).map (·.2):=by
   intro l;induction l with
   |nil=>simp
   |cons p l ih=>
    simp only[List.map_cons,List.find?_cons,List.find?_cons,List.any_cons];by_cases hz:p.1=k
    ·subst hz
     simp only[if_true,decide_true,Bool.true_or];by_cases hy:y=p.1
     ·subst hy;simp
     ·have:decide (p.1=y)=false:=by simpa using λq=>hy q.symm
      rw[this,aN hy];rw[ih,aN hy]
    ·have Bs:decide (p.1=k)=false:=by simpa using hz
     simp only[aN hz,Bs,Bool.false_or];by_cases hy:p.1=y
     ·obtain rfl:=Eq.symm hy;simp[hz]
     ·have:decide (p.1=y)=false:=by simpa using hy
      show(this)▸(ih)
  rw[main,hm];rfl
 ·rw[aN hm]
  have PY:aC.find? (λkv=>kv.1=k)=none:=by
   rw[List.find?_eq_none];intro p hp q;show hm (List.any_eq_true.mpr (aA p hp q))
  rw[List.find?_append];by_cases hy:y=k
  ·obtain rfl:=Eq.symm hy;rw[PY];simp
  ·rw[aN hy]
   have:(([(k,v)]:List (Str×Value)).find? λkv=>kv.1=y)=none:=by
    simp only[List.find?_cons];have:decide (k=y)=false:=by simpa using λq=>hy q.symm
    simp only[this,List.find?_nil]
   rw[this];cases aC.find? (λkv=>kv.1=y)<;>rfl
def PZ{aC:List (Str×Value)}{k:Str}{v:Value}:(stored aC k v).length=if(valueAt aC k).isSome=true then aC.length else aC.length+1:=by
 delta valueAt stored;have:(aC.any λkv=>kv.1=k)=((aC.find? λkv=>kv.1=k).map (·.2)).isSome:=by
  rw[Option.isSome_map,Bool.eq_iff_iff,List.any_eq_true,List.find?_isSome]
 rw[this];split<;>simp
abbrev P0(O:Hp)(j:Nat)(i v:V):bx->Option (Unit×Hp)
 | .list l=>i.sI.bind λk=>if 0<=k/\k<l.length/\l.length<=1000000 then some ((),O.set j (.list (l.set k.toNat v)))else none
 | .dict l=>i.pO.bind λx=>if l.length<=1000000 then some ((),O.set j (.dict (cw x v l)))else none
 |_=>none
abbrev mu(a i v:V):M Unit:=λO=>(qG a).bind λj=>O[j]?.bind (P0 O j i v)
def GP{O:Hp}{j:Nat}{l:List V}{k:Int}{v:V}(h:O[j]? =some (.list l))(hk:0<=k/\k<l.length/\l.length<=1000000):mu (.ref j) (.int k) v O=some ((),O.set j (.list (l.set k.toNat v))):=ob rfl (ob h (ob rfl (az hk)))
def P1{O:Hp}{j:Nat}{l:List (Str×V)}{x:Str}{v:V}(h:O[j]? =some (.dict l))(hk:l.length<=1000000):mu (.ref j) (.str x) v O=some ((),O.set j (.dict (cw x v l))):=ob rfl (ob h (ob rfl (az hk)))
def aD.set{h:Heap}{φ:Ph}:∀{l:List V} {cs:List Value} {n:Nat} {v:V} {c:Value},aD h φ l cs->ao h φ v c->aD h φ (l.set n v) (cs.set n c)
 |[],cs,n,v,c,r,_=>by delta aD at r;subst r;delta aD;rfl
 |u::l,cs,n,v,c,r,p=>by
  show ck r λd q ay h1 h2=>?_;subst ay;induction n with
  |zero=>show cF c q rfl p h2
  |succ n=>show cF d _ rfl h1 (h2.set p)
def GQ(f:Array Value->Array Value)(GR:Array Value)(n:Nat):∃n',Obj.mapSeq f {cls:= .type "list",data:= .seq GR n}={cls:= .type "list",data:= .seq (f GR) n'}:=by
 show⟨_,rfl⟩
def P2{l:Addr}{items:Array Value}{k:Int}{t:Tok}{v:Value}{Q:Unit->Shared->Prop}{E:Value->Shared->Prop}(hl:s.heap.PlainList l items)(h0:0<=k)(GS:k<2^63)(hn:k<items.size)
  (hQ:∀h',h'.PlainList l (items.setIfInBounds k.toNat v)->Heap.SameBut l s.heap h'->Q () {s with heap:=h'}):wpAny (Mo w) A (setItem (.ref l) (.int k t) v) Q E s:=by
 show aU (id hl) λn ho=>?_;have hT:=hl.isList.typeIs;show aU (GQ (·.setIfInBounds k.toNat v) items n) λn' hm=>?_;have fin:=hQ (s.heap.update l (Obj.mapSeq (·.setIfInBounds k.toNat v))) ⟨n',by rw[Heap.get?_update_self _ ho rfl,hm]⟩ (Heap.SameBut.update ..);unfold setItem
 try with_reducible show eM ?_
 first|show ax (aW ?_)|skip
 show ax (wpAny_sequenceKey hT `D (ax (wpAny_callSpecial?_slot (name:=Str.ofString "__setitem__") hT slot_list_setitem (wpAny_call_entry slot_list_setitem hT entry_list_setitem ?_ (args_list_setitem _ _ _)))));change wpAny _ _ (Builtin.List.listSubscript? (.int k t)>>=_) _ _ s;show ax (wpAny_listSubscript_int (fitsIndex_of h0 GS) ?_);clear GS;show aU (Int.eq_ofNat_of_zero_le h0) λj aF=>?_;subst aF;show ax (ax (wpAny_seqItemAt ho rfl (aW ?_)));rw[(Array.getElem?_eq_getElem (by omega):items[j]? =some items[j])];show ax (wpAny_setSeqItemAt ho rfl ?_)
 first
  |show ax (aW (aW (cW .none rfl (aW fin))))
  |show aW (aA .none rfl (aW fin))
def P4{a i v:V}{u:Unit}(e:mu a i v O=some (u,aa)):∃j,a= .ref j/\((∃l k,O[j]? =some (.list l)/\i= .int k/\(0<=k/\k<l.length/\l.length<=1000000)/\aa=O.set j (.list (l.set k.toNat v)))\/
  ∃l x,O[j]? =some (.dict l)/\i= .str x/\l.length<=1000000/\aa=O.set j (.dict (cw x v l))):=by
 show aj (dj e) λj ha e=>?_;show aj (dj e) λo ho e=>?_;show aA j (xl ha) ?_;rw[ho];clear ho ha;induction o with
 |list l=>
  show aj (dj e) λk hk e=>?_;show aI (fi e) λhc e=>?_;show .inl (fC l k rfl (Ai hk) hc ((dh (bN e)).2.symm))
 |dict l=>
  show aj (dj e) λk hk e=>?_;show aI (fi e) λhc e=>?_;show .inr (fC l k rfl (uD hk) hc ((dh (bN e)).2.symm))
 |_=>show fD e
def P5{l:List (Str×V)}{aC:List (Str×Value)}{y:Str}{v:V}{c:Value}{h h':Heap}{a:Addr}(h2:aC.length<=l.length)(h3:∀x,match l.lookup x with|some v=>∃c,valueAt aC x=some c/\ao h φ v c|none=>valueAt aC x=none)(gA:iH φ φ h h')(pv:ao h φ v c)(hd:h'.DictOf (PySem.strKind PG w) a (stored aC y c)):nM w h' φ (.dict (cw y v l)) a:=by
 show bj (stored aC y c) hd ?_ (λz=>?_)
 ·simp only[PZ,pZ]
  have:=h3 y;cases hl:l.lookup y with
  |some v'=>rw[hl]at this;show aj this λc' q _=>?_;show(q)▸(h2)
  |none=>split<;>simp<;>omega
 ·rw[oY,PX]
  by_cases hz:z=y
  ·rw[az hz,az hz]
   show aA c rfl (ao.mono gA (λ_ _ e=>e) _ _ pv)
  ·rw[aN hz,aN hz]
   have:=h3 z;cases hl:l.lookup z with
   |some v'=>rw[hl]at this;show aj this λc' q pc=>?_;show aA c' q (ao.mono gA (λ_ _ e=>e) _ _ pc)
   |none=>rw[hl]at this;show this
def P6{a i v:V}{ca ci c:Value}(r:aX w φ O s.heap)(pa:ao s.heap φ a ca)(pi:ao s.heap φ i ci)(pv:ao s.heap φ v c):cn w A φ O s (setItem ca ci c) (mu a i v) λ_ _ _ _=>True:=by
 intro u aa e;show aj (P4 e) λj aF hi=>?_;subst aF;clear e;show aj pa λa aF hj=>?_;subst aF;have kW:a∈φ.m:=gZ hj;show fN λQ hQ=>?_;rcases hi with⟨l,k,bB,rfl,hk,rfl⟩|⟨l,y,bB,rfl,hk,rfl⟩
 ·show aU (iX pi) λt aF=>?_;subst aF
  show aj (r.objs j a _ hj bB) λcs h1 h2=>?_;have hl:=h2.length;show P2 h1 hk.1 (by omega) (by rw[List.size_toArray];omega) λh' fP hs=>hQ _ _ ?_;have kk:=λb o (hb:b≠a)=>hs.extBut b o hb;have live:∃o,h'.get? a=some o:=let⟨_,e⟩:=fP;⟨_,e⟩;show bj φ (.at (tk:=s.toks) kW kk live) (r.setAt hj kk live (aA _ bB (zk rfl)) (aA (cs.set k.toNat c) ?_ ?_)) trivial
  ·have:cs.toArray.setIfInBounds k.toNat c=(cs.set k.toNat c).toArray:=by simp
   simp only[<-this];show fP
  ·show(aD.mono (mW (h:=s.heap) kW kk) (λ_ _ e=>e) _ _ h2).set (ao.mono (mW (h:=s.heap) kW kk) (λ_ _ e=>e) _ _ pv)
 ·show aU (eU pi) λt aF=>?_;subst aF
  show bK (r.objs j a _ hj bB) λaC h1 h2 h3=>?_;show wpAny_setItem_pairs (strKind_is PG w y t) h1 (λh' hd hs=>hQ _ _ ?_) (jJ (by clear h3 hQ;lia));have kk:=λb o (hb:b≠a)=>hs.extBut b o hb;have live:∃o,h'.get? a=some o:=let⟨o,_,_,e,_⟩:=hd;⟨o,e⟩;show bj φ (.at (tk:=s.toks+1) kW kk live) (r.setAt hj kk live (aA _ bB (zk rfl)) (P5 h2 h3 (mW (h:=s.heap) kW kk) pv hd)) trivial
def P7{o value:Expr}{name:Str}{ap pos:Pos}{m mo:M V}(hc:m6 value=true)(h:Ev K w A env J (eval value env) m)(ho:Ev K w A env J (eval o env) mo):
  St K w A Y sc env (exec (.Assign [.Attribute o name ap] value pos) env) J (do let v<-m;let a<-mo;lL K a name v;pure (J,Fl.next)):=λφ O s n ow=>by
 simp only[arm_exec_Assign];have n7:swapsWithSole [.Attribute o name ap] value pos.line env=pure false:=(vl hc (some (.Attribute o name ap)) pos.line:swapsWith value (some (.Attribute o name ap)) pos.line env=pure false);rw[n7,xQ (λ_ _ _ h=>by cases h) (λ_ _ h=>by cases h),xR rfl];show .standAt (show bc Y w A φ O s (do let v<-eval value env;assignStores env v none [assign (.Attribute o name ap) env]) _ _ from ?_);show .ja (h φ O s n) λba ag aw c v aP aS p=>?_;intro b aa e;show br (cy e) λa aH e1 e=>?_;show br (cy e) λu cI e2 e=>?_;show aI (xh e) λbY aF=>?_;subst bY;obtain rfl:=Eq.symm aF;show fN λQ hQ=>?_;show ax (ax (eM (bg (ho ba ag aw (n.step aP aS) a aH e1) (λca a8 va=>bK va λcB bu ct pa=>ax (wpAny_standAt ?_)) λ_ _ x=>x)));show ax (eM (bg (GO ct ((n.step aP aS).step bu ct).base pa (p.step bu) u _ e2) (λ_ cN P8=>bK P8 λkM c9 g9 _=>?_) λ_ _ x=>x));show wpAny_release' (aW (hQ _ _ (dw kM ((bu.trans c9).more λ_ h=>(nomatch h)) g9 trivial ((((n.step aP aS).step bu ct).step c9 g9).fits))))
def P9{o i value:Expr}{ip pos:Pos}{m mo mi:M V}(hc:m6 value=true)(h:Ev K w A env J (eval value env) m)(ho:Ev K w A env J (eval o env) mo)(hi:Ev K w A env J (eval i env) mi):
  St K w A Y sc env (exec (.Assign [.Subscript o i ip] value pos) env) J (do let v<-m;let a<-mo;let k<-mi;mu a k v;pure (J,Fl.next)):=λφ O s n ow=>by
 simp only[arm_exec_Assign];have n7:swapsWithSole [.Subscript o i ip] value pos.line env=pure false:=(vl hc (some (.Subscript o i ip)) pos.line:swapsWith value (some (.Subscript o i ip)) pos.line env=pure false);rw[n7,xQ (λ_ _ _ h=>by cases h) (λ_ _ h=>by cases h),xR rfl];show .standAt (show bc Y w A φ O s (do let v<-eval value env;assignStores env v none [assign (.Subscript o i ip) env]) _ _ from ?_);show .ja (h φ O s n) λba ag aw c v aP aS p=>?_;change bc Y w A ba ag aw (do assign (.Subscript o i ip) env c;pure Flow.next) _ _;rw[arm_assign_Subscript];intro b aa e
 symm
 show br (cy e) λa aH e1 e=>?_;show br (cy e) λk cI e2 e=>?_;show br (cy e) λu oX e3 e=>?_;show aI (xh e) λbY aF=>?_;subst bY;obtain rfl:=Eq.symm aF;left;show fN λQ hQ=>?_;show ax (ax (eM (bg (ho ba ag aw (n.step aP aS) a aH e1) (λca a8 uy=>bK uy λcB bu ct pa=>?_) λ_ _ x=>x)));have dK:=(n.step aP aS).step bu ct;show ax (eM (bg (hi cB aH a8 dK k cI e2) (λci cN Ay=>bK Ay λkM c9 g9 pk=>ax (wpAny_standAt ?_)) λ_ _ x=>x));show ax (eM (bg (P6 g9 (pa.step c9) pk ((p.step bu).step c9) u _ e3) (λ_ eY qS=>bK qS λp7 fc mS _=>?_) λ_ _ x=>x));show wpAny_release' (aW (hQ _ _ (dw p7 (((bu.trans c9).trans fc).more λ_ h=>(nomatch h)) mS trivial (((dK.step c9 g9).step fc mS).fits))))
def Qa{o value:Expr}{name:Str}{op:Operator}{ap pos:Pos}{m mo:M V}(h:Ev K w A env J (eval value env) m)(ho:Ev K w A env J (eval o env) mo):
  St K w A Y sc env (exec (.AugAssign (.Attribute o name ap) op value pos) env) J (do let a<-mo;let u<-ju K a name;let b<-m;let v<-kK op u b;lL K a name v;pure (J,Fl.next)):=λφ O s n ow=>by
 show .standAt ?_;intro b aa e;show fN λQ hQ=>?_
 symm
 show br (cy e) λa ag e1 e=>?_;show br (cy e) λu aH e2 e=>?_;show br (cy e) λb' cI e3 e=>?_;show br (cy e) λv oX e4 e=>?_;show br (cy e) λz p8 e5 e=>?_;show aI (xh e) λbY aF=>?_;subst bY;obtain rfl:=Eq.symm aF;left;show ax (bg (ho φ O s n a ag e1) (λca aw Qb=>bK Qb λba aP aS pa=>?_) λ_ _ x=>x);have n₁:=n.step aP aS;show ax (eM (ax (wpAny_standAt (ax (bg (Bp aS n₁.base pa u aH e2) (λcu a8 Qc=>bK Qc λcB bu ct pu=>?_) λ_ _ x=>x)))));have dK:=n₁.step bu ct;show ax (eM (bg (h cB aH a8 dK b' cI e3) (λcb cN va=>bK va λkM c9 g9 pb=>ax (wpAny_standAt ?_)) λ_ _ x=>x));show wpAny_operate' (bg (Fj op u b' cu cb g9 (pu.step c9) pb v oX e4) (λcv eY Qd=>bK Qd λp7 fc mS pv=>ax (wpAny_standAt ?_)) λ_ _ x=>x);have mZ:=(dK.step c9 g9).step fc mS;show ax (eM (bg (GO mS mZ.base (((pa.step bu).step c9).step fc) pv z _ e5) (λ_ GU Qe=>bK Qe λGV mv s8 _=>?_) λ_ _ x=>x));show ax (wpAny_release' (aW (hQ _ _ (dw GV (((((aP.trans bu).trans c9).trans fc).trans mv).more λ_ h=>(nomatch h)) s8 trivial ((mZ.step mv s8).fits)))))
def GW{elts:List Expr}{pos:Pos}{ev:Expr->M V}(hs:elts.all jr=true)(h:∀e∈elts,Ev K w A env J (eval e env) (ev e)):
  Ev K w A env J (eval (.List elts pos) env) (do let l<-dR (elts.map ev);if l.length<=1000000 then λO=>some (.ref O.length,O++[.list l])else au):=by
 intro φ O s n;show .standAt (.bind (uL (uO hs h) φ O s n) λba ag aw cs l aP aS p=>?_);intro v aa e;show aI (fO e) λhz e=>?_;apply g4 (bN e);have fresh:aw.heap.get? aw.heap.objs.size=none:=fj.push (o:={cls:= .none}) _ (List.mem_singleton.mpr rfl);have kk:=er (h:=aw.heap) {cls:= .type "list",data:= .seq cs.toArray};show wpAny_newObj_type (bj (ba.grow [aw.heap.objs.size]) (a0.grown (tk:=aw.toks) fresh kk) (aS.push fresh kk ⟨_,(dT aw.heap (o:={cls:= .type "list",data:= .seq cs.toArray}) rfl)⟩ (aA cs ⟨_,(dT aw.heap (o:={cls:= .type "list",data:= .seq cs.toArray}) rfl)⟩ ?_)) ?_) (by change cs.toArray.size<=sizeLine;simp only[List.size_toArray,<-p.length];show jJ (by show a9 `A `D))
 ·show aD.mono (λb o e ho _=>⟨kk b o e,uo (λc hc=>by show(aJ _ (fW hc)).trans fresh) e ho⟩) (λ_ _ e=>pM e) _ _ p
 ·show aA _ rfl (sQ aS)
def Qf{pos:Pos}:Ev K w A env J (eval (.Dict [] [] pos) env) (λO=>some (.ref O.length,O++[.dict []])):=by
 intro φ O s n v aa e;apply g4 (bN e);show wpAny_Dict_empty (bj (φ.grow [s.heap.objs.size]) (a0.grown (tk:=s.toks) (fj.push (o:={cls:= .none}) _ `S) (er (h:=s.heap) {cls:= .type "dict",data:= .dict #[]})) (n.rel.push (fj.push (o:={cls:= .none}) _ `S) (er (h:=s.heap) {cls:= .type "dict",data:= .dict #[]}) ⟨_,dT _ rfl⟩ (bj ([]) (Heap.DictOf.new s.heap) (Nat.le_refl _) (λx=>rfl))) ?_);delta ao;show aA _ rfl (sQ n.rel)
def Bt{elts:List Expr}{pos:Pos}{ev:Expr->M V}(hs:elts.all jr=true)(h:∀e∈elts,Ev K w A env J (eval e env) (ev e)):
  Ev K w A env J (eval (.List elts pos) env) (do let l<-dR (elts.map ev);if l.length<=1000000 then pure (.lst l)else au):=by
 intro φ O s n;show NR (uO hs h) φ O s n
def Qg{elts:List Expr}{k}{pos:Pos}{ev:Expr->M V}(hs:elts.all jr=true)(h:∀e∈elts,Ev K w A env J (eval e env) (ev e)):
  Ev K w A env J (eval (.Tuple elts k pos) env) (do let l<-dR (elts.map ev);if l.length<=1000000 then pure (.tup l)else au):=by
 intro φ O s n;show NS (uO hs h) φ O s n
abbrev mw:List V->Option (List Str)
 |[]=>some []
 | .str x::r=>(mw r).map (x::·)
 |_=>none
abbrev vt:List V->Option (List Int)
 |[]=>some []
 | .int x::r=>(vt r).map (x::·)
 |_=>none
abbrev od(x:Str)(ys:List Str):Nat:=(ys.map (·.length)).sum+ys.length*x.length
abbrev args(vs:List V)(f:V->M V)(g:V->V->M V)(h:V->V->V->M V):M V:=match vs with
 |[]=>au
 |a::r=>match r with
  |[]=>f a
  |b::r=>match r with
   |[]=>g a b
   |c::r=>match r with
    |[]=>h a b c
    |_=>au
abbrev q9(_ _ _:V):M V:=au
abbrev Bu(_ _:V):M V:=au
abbrev Bv(id:String)(vs:List V):M V:=args vs
 (λa=>match a with
  | .str x=>if id="str.lower" then(if cg x=true then pure (.str (Txt.lower x))else au)
   else if id="str.upper" then(if cg x=true then pure (.str (Txt.upper x))else au)
   else if id="ord" then(if x.length=1 then pure (.int (x.cps.getD 0 0:Nat))else au)
   else if id="len" then(if cg x=true then pure (.int x.length)else au)
   else au
  | .int i=>if id="chr" then(if 0<=i/\i<=1114111 then pure (.str ⟨#[i.toNat]⟩)else au)
   else if id="hex" then(if(baseText "0x" 16 i).length<=1000000 then pure (.str (baseText "0x" 16 i))else au)
   else au
  |_=>au)
 (λa b=>fX a λx=>match b with
  | .str y=>if id="str.count" then pure (.int (Txt.count x y))
   else if id="str.split" then(if(y.length==0)=false/\cg x=true/\(Txt.split x y).length<=1000000 then pure (.lst ((Txt.split x y).map .str))else au)
   else au
  | .lst l=>if id="str.join" then(match mw l with
    |some ys=>if od x ys<=1000000 then pure (.str (Txt.join x ys))else au
    |none=>au)
   else au
  |_=>au) q9
def GX{h:Heap}{v:V}{cs:List Value}(r:aD h φ [v] cs):∃c,cs=[c]/\ao h φ v c:=by
 show ck r λc q ay h1 h2=>?_;subst ay;subst h2;show aA c rfl h1
def Bw{h:Heap}{v u:V}{cs:List Value}(r:aD h φ [v,u] cs):∃c d,cs=[c,d]/\ao h φ v c/\ao h φ u d:=by
 show ck r λc q ay h1 h2=>?_;subst ay;show aj (GX h2) λd aF h3=>?_;subst aF;show cF c d rfl h1 h3
def Qh{h:Heap}{v u t:V}{cs:List Value}(r:aD h φ [v,u,t] cs):∃c d e,cs=[c,d,e]/\ao h φ v c/\ao h φ u d/\ao h φ t e:=by
 show ck r λc q ay h1 h2=>?_;subst ay;show ck (Bw h2) λd e ay h3 h4=>?_;subst ay;show qB c d e rfl h1 h3 h4
set_option tactic.hygienic true in
def GY{h:Heap}{l:List V}:∀{cs:List Value} {ys:List Str},aD h φ l cs->mw l=some ys->StrsAre cs ys:=by
 induction l with
 |nil=>intro cs ys r e;delta aD at r;subst r;cases e;show .nil
 |cons v l ih=>
  intro cs ys r e;cases v<;>first|(cases e;done)|skip
  rename_i x;show aj (eo (e)) λys' h1 ay=>?_;subst ay;show ck r λc q ay h2 h3=>?_;subst ay;show aU (eU h2) λt aF=>?_;subst aF;show .cons x t (ih h3 h1)
def GZ{h:Heap}:∀{l:List (Str×Tok)},aD h φ (l.map λp=>V.str p.1) (strValues l)
 |[]=>by delta aD;rfl
 |(x,t)::l=>by
  show cF _ _ rfl jK GZ
def Qi{x y:Str}{t u:Tok}{Q E:Value->Shared->Prop}(hy:(y.length==0)=false)(hx:cg x=true)(hl:(Txt.split x y).length<=1000000)
  (h:∀(l:List (Str×Tok)) (k:Nat),l.map (·.1)=Txt.split x y->Q (.ref s.heap.objs.size) {s with heap:=s.heap.push {cls:= .type "list",data:= .seq (strValues l).toArray},toks:=k}):
  wpAny (Mo w) A (PySem.call (.builtin "str.split") [.str x t,.str y u]) Q E s:=by
 have uG:=jJ (by have:=md hx;show a9 `A `D);cases h1:(decide (x.length<y.length)||decide (Builtin.Str.strKind x<Builtin.Str.strKind y))
 ·cases hf:(Builtin.Str.occurrences x y 0 x.length (x.length+1)).isEmpty
  ·have hs:Txt.split x y=Builtin.Str.partsBetween x (Builtin.Str.occurrences x y 0 x.length (x.length+1)) y.length:=(aN (ne_true_of_eq_false h1)).trans (aN (ne_true_of_eq_false hf))
   show call_meets F.slot_str_split (typeIs_str _ _ _) F.entry_str_split (F.args_str_split_2 _ _) (meets_str_split_sep x y t u h1 hy hf uG (jJ (by show(hs)▸(a9 `A `D)):(Builtin.Str.partsBetween x (Builtin.Str.occurrences x y 0 x.length (x.length+1)) y.length).length<=sizeLine)) ?_;rw[strsFrom_eq];show h _ _ ((numbered_texts _ _).trans hs.symm)
  ·show call_meets F.slot_str_split (typeIs_str _ _ _) F.entry_str_split (F.args_str_split_2 _ _) (meets_str_split_not_found x y t u h1 hy hf) (h [(x,t)] s.toks ((aN (ne_true_of_eq_false h1)).trans (az hf)).symm)
 ·show call_meets F.slot_str_split (typeIs_str _ _ _) F.entry_str_split (F.args_str_split_2 _ _) (meets_str_split_cannot_occur x y t u h1) (h [(x,t)] s.toks (az h1).symm)
section
variable{α β:Type}{h:Heap}{m m':M β}{R:Heap->Ph->β->α->Prop}
def bc.named{id nm:String}{T:String->Sem α}(g:bc Y w A φ O s (T nm) m R)(g':bc Y w A φ O s (T id) m' R):bc Y w A φ O s (T id) (if id=nm then m else m') R:=by
 by_cases q:id=nm
 ·rw[az q,q];show g
 ·rw[aN q];show g'
def bc.args{T:List Value->Sem α}{R:Heap->Ph->V->α->Prop}{vs:List V}{cs:List Value}{f:V->M V}{g:V->V->M V}{k:V->V->V->M V}(pv:aD h φ vs cs)(hf:∀a c,ao h φ a c->bc Y w A φ O s (T [c]) (f a) R)(hg:∀a b c d,ao h φ a c->ao h φ b d->bc Y w A φ O s (T [c,d]) (g a b) R)
  (hk:∀a b u c d e,ao h φ a c->ao h φ b d->ao h φ u e->bc Y w A φ O s (T [c,d,e]) (k a b u) R):bc Y w A φ O s (T cs) (args vs f g k) R:=by
 match vs with
 |[]=>show .fail
 |[a]=>show aj (GX pv) λc aF p=>?_;subst aF;show hf a c p
 |[a,b]=>show ck (Bw pv) λc d ay p q=>?_;subst ay;show hg a b c d p q
 |[a,b,u]=>show sD (Qh pv) λc d e eW p q r=>?_;subst eW;show hk a b u c d e p q r
 |_::_::_::_::_=>show .fail
end
def G0{id:String}{vs:List V}{cs:List Value}(r:aX w φ O s.heap)(pv:aD s.heap φ vs cs):cn w A φ O s (PySem.call (.builtin id) cs []) (Bv id vs) λh φ v c=>ao h φ v c:=by
 show .args (T:=λcs=>PySem.call (.builtin id) cs []) pv (λa c p=>?_) (λa b c d p q=> .fX (T:=λc=>PySem.call (.builtin id) [c,d] []) p λx t=>?_) λ_ _ _ _ _ _ _ _ _=> .fail
 ·cases a with
  |str x=>
   show aU (eU p) λt aF=>?_;subst aF;show .named (T:=λid=>PySem.call (.builtin id) [.str x t] []) (.guard λh0=> .one (SCL.lower (by have:=md h0;lia) λ_=>cC r jK)) ?_;show .named (T:=λid=>PySem.call (.builtin id) [.str x t] []) (.guard λh0=> .one (SCL.upper (by have:=md h0;lia) λ_=>cC r jK)) ?_;show .named (T:=λid=>PySem.call (.builtin id) [.str x t] []) (.guard λh0=> .one (ord_of_one h0 (cC r fm))) ?_;show .named (T:=λid=>PySem.call (.builtin id) [.str x t] []) (.guard λh0=> .one (P.len_str (by have:=md h0;lia) (cC r fm))) .fail
  |int i=>
   show aU (iX p) λt aF=>?_;subst aF;show .named (T:=λid=>PySem.call (.builtin id) [.int i t] []) (.guard λh0=> .one (chr_of_range h0.1 h0.2 (cC r jK))) ?_;show .named (T:=λid=>PySem.call (.builtin id) [.int i t] []) (.guard λh0=> .one (P.hex_of_int (cC r jK) (jJ (by show a9 `A `D)))) .fail
  |_=>show .fail
 ·cases b with
  |str y=>
   show aU (eU q) λu aF=>?_;subst aF;show .named (T:=λid=>PySem.call (.builtin id) [.str x t,.str y u] []) (.one (SC.count (cC r fm))) ?_;show .named (T:=λid=>PySem.call (.builtin id) [.str x t,.str y u] []) (.guard λh0=> .one (Qi h0.1 h0.2.1 h0.2.2 λl k hl=>?_)) .fail;simp only[<-hl,List.map_map];show done r (er _) (uF r GZ)
  |lst l=>
   show dg (kL q) λa cs ay _ h1 h2=>?_;subst ay;show .named (T:=λid=>PySem.call (.builtin id) [.str x t,.ref a] []) ?_ .fail;cases hy:mw l with
   |none=>show .fail
   |some ys=>show .guard λh0=> .one (join_list h1 (by show GY h2 hy) (by show a9 `A `D) λt' k=>cC r jK)
  |_=>show .fail
abbrev ra(v:V)(f:Hp->Hp):M V:=λO=>some (v,f O)
abbrev vu(a:V)(f:List V->M V):M V:=λO=>match g8 a O with
 |some l=>f l O
 |none=>none
abbrev kB(a:V)(f:Nat->bx->M V):M V:=match a with
 | .ref j=>λO=>match O[j]?with
  |some o=>f j o O
  |none=>none
 |_=>au
def vw{O:Hp}{j:Nat}{o:bx}(h:O[j]? =some o)(f:Nat->bx->M V):kB (.ref j) f O=f j o O:=by
 change(match O[j]?with|some o=>f j o O|none=>none)=_;rw[h]
def vx{α:Type}{c:Prop} [Decidable c](h:c)(a b:M α)(O:Hp):(if c then a else b) O=a O:=by rw[az h]
abbrev G1(j:Nat)(l:List V)(v:V):M V:=match l with
 |[]=>au
 |u::l=>cq v λi=>if i=0/\l.length<=1000000 then ra u (·.set j (.list l))else au
abbrev m8(id:String)(vs:List V):M V:=args vs
 (λa=>if id="len" then vu a (λl=>if l.length<=1000000 then pure (.int l.length)else au)else au)
 (λa v=>kB a λj o=>match o with
  | .list l=>if id="list.append" then(if l.length<=1000000 then ra .none (·.set j (.list (l++[v])))else au)
   else if id="list.pop" then G1 j l v else au
  | .dict l=>if id="dict.get" then fX v (λx=>pure ((l.lookup x).getD .none))else au
  |_=>au)
 λa x d=>fX x λx=>kB a λ_ o=>match o with
  | .dict l=>if id="dict.get" then pure ((l.lookup x).getD d)else au
  |_=>au
def Qj{O:Hp}{a:V}{l:List V}(h:g8 a O=some l)(hl:l.length<=1000000):m8 "len" [a] O=some (.int l.length,O):=by
 change(if("len":String)="len" then vu a (λl=>if l.length<=1000000 then pure (.int l.length)else au)else au:M V) O=_;rw[az rfl];change(match g8 a O with|some l=>(if l.length<=1000000 then pure (.int l.length)else au:M V) O|none=>none)=_;rw[h];dsimp only;rw[vx hl];rfl
def Qk{O:Hp}{j:Nat}{l:List V}{u:V}(h:O[j]? =some (.list (u::l)))(hl:l.length<=1000000):m8 "list.pop" [.ref j,.int 0] O=some (u,O.set j (.list l)):=by
 delta m8 args;dsimp only;rw[vw h];change(if("list.pop":String)="list.append" then _ else if("list.pop":String)="list.pop" then G1 j (u::l) (.int 0)else au:M V) O=_;rw[aN `D,az rfl];change(if(0:Int)=0/\l.length<=1000000 then ra u (·.set j (.list l))else au:M V) O=_;rw[vx ⟨rfl,hl⟩];rfl
def Ql{O:Hp}{j:Nat}{l:List V}{v:V}(h:O[j]? =some (.list l))(hl:l.length<=1000000):m8 "list.append" [.ref j,v] O=some (.none,O.set j (.list (l++[v]))):=by
 delta m8 args;dsimp only;rw[vw h];dsimp only;rw[vx rfl,vx hl];rfl
def Qm{a:V}{ca:Value}{l:List V}(r:aX w φ O s.heap)(p:ao s.heap φ a ca)(e:g8 a O=some l)(hz:l.length<=1000000){E:Value->Shared->Prop}:
  wpAny (Mo w) A (PySem.call (.builtin "len") [ca]) (λc s'=>∃aB,Step φ s aB s'/\aX w aB O s'.heap/\ao s'.heap aB (.int l.length) c) E s:=by
 show ck (Aw r p e) λb cs ay h1 h2=>?_;subst ay;show call_len_list h1 (by rw[List.size_toArray,<-h2.length];lia) ?_;have:(cs.toArray.size:Int)=l.length:=by rw[List.size_toArray,h2.length]
 show(this)▸(cC r fm)
def Qn{j:Nat}{v:V}{a:Addr}{c:Value}{l:List V}(r:aX w φ O s.heap)(hj:φ.m[j]? =some a)(pv:ao s.heap φ v c)(e:O[j]? =some (.list l))(hz:l.length<=1000000){E:Value->Shared->Prop}:
  wpAny (Mo w) A (PySem.call (.builtin "list.append") [.ref a,c]) (λd s'=>∃aB,Step φ s aB s'/\aX w aB (O.set j (.list (l++[v]))) s'.heap/\ao s'.heap aB .none d) E s:=by
 show aj (r.objs j a _ hj e) λcs h1 h2=>?_;have kW:a∈φ.m:=gZ hj;show wpAny_list_append_plain h1 (λh' hl hs=>?_) (jJ (by simp only[List.size_toArray,<-h2.length];show a9 `A `D));have kk:=λb o (hb:b≠a)=>hs.extBut b o hb;have live:∃o,h'.get? a=some o:=let⟨_,e⟩:=hl;⟨_,e⟩;show bj φ (.at (tk:=s.toks) kW kk live) (r.setAt hj kk live (aA _ e (zk rfl)) (aA (cs++[c]) ?_ ?_)) Am
 ·have e:cs.toArray.push c=(cs++[c]).toArray:=by simp
  simp only[<-e];show hl
 ·show(aD.mono (mW (h:=s.heap) kW kk) (λ_ _ e=>e) _ _ h2).append (by show cF c ([]) rfl (ao.mono (mW (h:=s.heap) kW kk) (λ_ _ e=>e) _ _ pv) (by delta aD;rfl))
def Qo{j:Nat}{u:V}{a:Addr}{t:Tok}{l:List V}(r:aX w φ O s.heap)(hj:φ.m[j]? =some a)(e:O[j]? =some (.list (u::l)))(hz:l.length<=1000000){E:Value->Shared->Prop}:
  wpAny (Mo w) A (PySem.call (.builtin "list.pop") [.ref a,.int 0 t]) (λd s'=>∃aB,Step φ s aB s'/\aX w aB (O.set j (.list l)) s'.heap/\ao s'.heap aB u d) E s:=by
 symm
 obtain⟨cs,⟨n,h1⟩,h2⟩:=r.objs j a _ hj e;show ck h2 λc q ay p1 p2=>?_;subst ay;have hl:=p2.length;show aU (GQ (λxs=>xs.eraseIdxIfInBounds 0) (c::q).toArray n) λn' hm=>?_;left;have kk:∀b o,b≠a->s.heap.get? b=some o->(s.heap.update a (Obj.mapSeq λxs=>xs.eraseIdxIfInBounds 0)).get? b=some o:=λb o hb e=>(Heap.get?_update_ne _ _ _ _ hb).trans e;have h3:(s.heap.update a (Obj.mapSeq λxs=>xs.eraseIdxIfInBounds 0)).PlainList a q.toArray:=⟨n',by
  rw[Heap.get?_update_self _ h1 rfl,hm];have:(c::q).toArray.eraseIdxIfInBounds 0=q.toArray:=by simp[Array.eraseIdxIfInBounds]
  rw[this]⟩
 show call_meets F.slot_list_pop (aA _ h1 rfl) F.entry_list_pop (F.args_list_pop_2 _ _) (PySem.MeetsSeq.list_pop_at a (c::q).toArray n 0 t 0 c (by decide+kernel) (by unfold seqIndex?;simp) rfl (jJ (by simp;lia))) ⟨h1,?_⟩;show bj φ (.at (tk:=s.toks) (gZ hj:a∈φ.m) kk (let⟨_,e⟩:=h3;⟨_,e⟩)) (r.setAt hj kk (let⟨_,e⟩:=h3;⟨_,e⟩) (aA _ e (zk rfl)) (aA q h3 (aD.mono (mW (h:=s.heap) (gZ hj:a∈φ.m) kk) (λ_ _ e=>e) _ _ p2))) (ao.mono (mW (h:=s.heap) (gZ hj:a∈φ.m) kk) (λ_ _ e=>e) _ _ p1)
def Qp{j:Nat}{a:Addr}{y:Str}{t:Tok}{l:List (Str×V)}(r:aX w φ O s.heap)(b:cO K φ s.heap)(hj:φ.m[j]? =some a)(e:O[j]? =some (.dict l)){E:Value->Shared->Prop}:
  wpAny (Mo w) A (PySem.call (.builtin "dict.get") [.ref a,.str y t]) (λd s'=>∃aB,Step φ s aB s'/\aX w aB O s'.heap/\ao s'.heap aB ((l.lookup y).getD .none) d) E s:=by
 show bK (r.objs j a _ hj e) λaC h1 h2 h3=>?_;show wpAny_call (codeAny_call_builtin F.slot_dict_get.plain F.entry_dict_get (F.slot_dict_get.check _ _ _ _ _ _ _ _ h1.mapOf.typeIs (F.args_dict_get_2 _ _) (meets_dict_get (PySem.strKind PG w) a (strKind_is PG w y t) (b.Av (gZ hj)) A (wants _ _) s (aA (valueAt aC) h1.mapOf ?_))));have:=h3 y;cases hl:l.lookup y with
 |some v=>rw[hl]at this;show aj this λc q p=>?_;simp only[q];show cC r p
 |none=>rw[hl]at this;show(this)▸(cC r Am)
def Qq{j:Nat}{a:Addr}{y:Str}{t:Tok}{d:V}{cd:Value}{l:List (Str×V)}(r:aX w φ O s.heap)(b:cO K φ s.heap)(hj:φ.m[j]? =some a)(pd:ao s.heap φ d cd)(e:O[j]? =some (.dict l)){E:Value->Shared->Prop}:
  wpAny (Mo w) A (PySem.call (.builtin "dict.get") [.ref a,.str y t,cd]) (λd' s'=>∃aB,Step φ s aB s'/\aX w aB O s'.heap/\ao s'.heap aB ((l.lookup y).getD d) d') E s:=by
 show bK (r.objs j a _ hj e) λaC h1 h2 h3=>?_;show wpAny_call (codeAny_call_builtin F.slot_dict_get.plain F.entry_dict_get (F.slot_dict_get.check _ _ _ _ _ _ _ _ h1.mapOf.typeIs (F.args_dict_get_3 _ _ _) (meets_dict_get_default (PySem.strKind PG w) a (strKind_is PG w y t) (b.Av (gZ hj)) cd A (wants _ _) s (aA (valueAt aC) h1.mapOf ?_))));have:=h3 y;cases hl:l.lookup y with
 |some v=>rw[hl]at this;show aj this λc q p=>?_;simp only[q];show cC r p
 |none=>rw[hl]at this;simp only[this];show cC r pd
def bc.val{α β:Type}{t:Sem α}{m:M β}{R:Heap->Ph->β->α->Prop}{b:β}{ag:Hp}(hm:m O=some (b,ag))(h:wpAny (Mo w) A t (λa s'=>∃aB,a0 Y φ s aB s'/\aX w aB ag s'.heap/\R s'.heap aB b a) (λ_ _=>False) s):bc Y w A φ O s t m R:=λb' aa e=>by
 show aI (dh (bN (hm.symm.trans e))) λbY aF=>?_;subst bY;subst aF;show h
def bc.kB{α:Type}{T:Value->Sem α}{R:Heap->Ph->V->α->Prop}{a:V}{c:Value}{f:Nat->bx->M V}(p:ao s.heap φ a c)(h:∀j o d,φ.m[j]? =some d->O[j]? =some o->bc Y w A φ O s (T (.ref d)) (f j o) R):bc Y w A φ O s (T c) (kB a f) R:=by
 cases a with
 |ref j=>
  show aj p λd aF hj=>?_;subst aF;intro v aa e;have e:(match O[j]?with|some o=>f j o O|none=>none)=some (v,aa):=e;cases bB:O[j]?with
  |none=>rw[bB]at e;cases e
  |some o=>rw[bB]at e;show h j o d hj bB v aa e
 |_=>show .fail
def bc.vu{α:Type}{t:Sem α}{R:Heap->Ph->V->α->Prop}{a:V}{f:List V->M V}(h:∀l,g8 a O=some l->bc Y w A φ O s t (f l) R):bc Y w A φ O s t (vu a f) R:=by
 intro v aa e;have e:(match g8 a O with|some l=>f l O|none=>none)=some (v,aa):=e;cases hl:g8 a O with
 |none=>rw[hl]at e;cases e
 |some l=>rw[hl]at e;show h l hl v aa e
def G2{id:String}{vs:List V}{cs:List Value}(r:aX w φ O s.heap)(b:cO K φ s.heap)(pv:aD s.heap φ vs cs):cn w A φ O s (PySem.call (.builtin id) cs []) (m8 id vs) λh φ v c=>ao h φ v c:=by
 show .args (T:=λcs=>PySem.call (.builtin id) cs []) pv (λa c p=>?_) (λa v c d p q=>?_) λa y u c d f p q k=>?_
 ·show .named (T:=λid=>PySem.call (.builtin id) [c] []) (.vu λl hl=> .guard λh0=> .one (Qm r p hl h0)) .fail
 ·show .kB (T:=λc=>PySem.call (.builtin id) [c,d] []) p λj o a hj bB=>?_
  induction o with
  |list l=>
   show .named (T:=λid=>PySem.call (.builtin id) [.ref a,d] []) (.guard λh0=> .val rfl (Qn r hj q bB h0)) ?_;show .named (T:=λid=>PySem.call (.builtin id) [.ref a,d] []) ?_ .fail;induction l with
   |nil=>show .fail
   |cons u l=>show .cq (T:=λd=>PySem.call (.builtin "list.pop") [.ref a,d] []) q λi t=> .guard λh0=> .val rfl (h0.1▸Qo r hj bB h0.2)
  |dict l=>show .named (T:=λid=>PySem.call (.builtin id) [.ref a,d] []) (.fX (T:=λd=>PySem.call (.builtin "dict.get") [.ref a,d] []) q λx t=> .one (Qp r b hj bB)) .fail
  |_=>show .fail
 ·show .fX (T:=λd=>PySem.call (.builtin id) [c,d,f] []) q λx t=> .kB (T:=λc=>PySem.call (.builtin id) [c,.str x t,f] []) p λj o a hj bB=>?_
  induction o with
  |dict l=>show .named (T:=λid=>PySem.call (.builtin id) [.ref a,.str x t,f] []) (.one (Qq r b hj k bB)) .fail
  |_=>show .fail
def G3:entryFor table "iter"=some Builtin.«iter»:=entryFor_of_tree (by kernel_rfl)
def Qr(a:Value):argsOk "iter" ⟨[a],[]⟩:=by kernel_rfl
def Qs(a b:Value):argsOk "iter" ⟨[a,b],[]⟩:=by kernel_rfl
def entry_next:entryFor table "next"=some Builtin.«next»:=entryFor_of_tree (by kernel_rfl)
def Qt(a:Value):argsOk "next" ⟨[a],[]⟩:=by kernel_rfl
def Qu:typeLookup (.type "method") "__call__"=pure (some (.builtin "method.__call__")):=by kernel_rfl
abbrev vy(o:bx):M V:=λO=>some (.ref O.length,O++[o])
abbrev x5(K:W.Frag)(id:String)(vs:List V):M V:=args vs
 (λa=>match a with
  | .lst l=>if id="iter" then vy (.cA l 0)else au
  |a=>if id="next" then kB a (λj o=>match o with
    | .cA l k=>(match l[k]?with
     |some v=>ra v (·.set j (.cA l (k+1)))
     |none=>au)
    |_=>au)else au)
 (λf x=>fX x λx=>if id="iter" then(if jN K f=true then vy (.iq f x true)else au)else au) q9
def G4{o:Obj}{ob:bx}(r:aX w φ O s.heap)(hf:o.isFreed=false)(h:iH φ (φ.grow [s.heap.objs.size]) s.heap (s.heap.push o)->(s.heap.push o).get? s.heap.objs.size=some o->nM w (s.heap.push o) (φ.grow [s.heap.objs.size]) ob s.heap.objs.size):
  ∃aB,a0 Y φ s aB {s with heap:=s.heap.push o}/\aX w aB (O++[ob]) (s.heap.push o)/\ao (s.heap.push o) aB (.ref O.length) (.ref s.heap.objs.size):=by
 have fresh:s.heap.get? s.heap.objs.size=none:=fj.push (o:={cls:= .none}) _ (List.mem_singleton.mpr rfl);have kk:=er (h:=s.heap) o;have hs:iH φ (φ.grow [s.heap.objs.size]) s.heap (s.heap.push o):=λb o e ho _=>⟨kk b o e,uo (λc hc=>by show(aJ _ (fW hc)).trans fresh) e ho⟩;show bj (φ.grow [s.heap.objs.size]) (a0.grown (tk:=s.toks) fresh kk) (r.push fresh kk ⟨_,(dT s.heap (o:=o) hf)⟩ (h hs (dT s.heap (o:=o) hf))) ?_;delta ao;show aA _ rfl (sQ r)
def Qv{l:List V}{c:Value}(r:aX w φ O s.heap)(p:ao s.heap φ (.lst l) c):cn w A φ O s (PySem.call (.builtin "iter") [c] []) (vy (.cA l 0)) λh φ v c=>ao h φ v c:=by
 show dg (kL p) λa cs ay h1 h2 h3=>?_;subst ay;show .val rfl (fN λQ hQ=>?_);show call_function_entry (by decide+kernel) (by decide+kernel) G3 (Qr _) ?_;show ax (m:=someArgs "iter" 1 2 _) (wpAny_of_eq (a:=[Value.ref a]) (by first|rfl|kernel_rfl!) ?_);show ax (wpAny_pyIter_list h2 (aW (aA _ rfl (hQ _ _ (G4 r rfl λhs live=>?_)))))
 symm
 obtain⟨o,ho,hc,n,hd⟩:=id h2;left;show fC a cs (bj _ live rfl rfl) ((hs a o ho h1 (by simp only[ma,hd])).2) (h2.push _) (aD.mono hs (λ_ _ e=>pM e) _ _ h3)
def Qw{f:V}{y:Str}{t:Tok}{c:Value}(r:aX w φ O s.heap)(p1:ao s.heap φ f c)(hf:jN K f=true):cn w A φ O s (PySem.call (.builtin "iter") [c,.str y t] []) (vy (.iq f y true)) λh φ v c=>ao h φ v c:=by
 have hm:∃a g q,c= .ref a/\s.heap.get? a=some (z6 g q):=by
  cases f<;>first|(show absurd hf g0)|skip
  show dg p1 λa d h _ ho _=>?_;show l9 a _ d h ho
 show pK hm λa g q eW ho=>?_;subst eW;show .val rfl (fN λQ hQ=>?_);show call_function_entry (by decide+kernel) (by decide+kernel) G3 (Qs _ _) ?_;show ax (m:=someArgs "iter" 1 2 _) (wpAny_of_eq (a:=[Value.ref a,.str y t]) (by first|rfl|kernel_rfl!) ?_);show ax (wpAny_specialOf (name:=Str.ofString "__call__") (T:="method") (aA _ ho rfl) Qu (qF rfl ?_));show ax (wpAny_rule (ax (wpAny_newObj_type (aW (aA _ rfl (hQ _ _ (G4 r rfl λhs live=>c8 (.ref a) t live (λ_=>ao.mono hs (λ_ _ e=>pM e) _ _ p1))))))))
def Qx{j k:Nat}{l:List V}{u:V}{a:Addr}(r:aX w φ O s.heap)(hj:φ.m[j]? =some a)(bB:O[j]? =some (.cA l k))(hl:l[k]? =some u):
  cn w A φ O s (PySem.call (.builtin "next") [.ref a] []) (ra u (·.set j (.cA l (k+1)))) λh φ v c=>ao h φ v c:=by
 symm
 show dg (r.objs j a _ hj bB) λl' cs eV h2 h3 h4=>?_;show aj (h4.get hl) λc h5 h6=>?_;have kW:a∈φ.m:=gZ hj;have ne:l'≠a:=by rintro rfl;show h2.1 kW
 show bK (id eV) λo ho hc hd=>?_;obtain⟨ol,Qy,lH,nl,Bx⟩:=id h3;left;show .val rfl (fN λQ hQ=>?_);show call_function_entry (by decide+kernel) (by decide+kernel) entry_next (Qt _) ?_;show ax (m:=someArgs "next" 1 2 _) (wpAny_of_eq (a:=[Value.ref a]) (by first|rfl|kernel_rfl!) ?_);show ax (wpAny_specialOf (name:=Str.ofString "__next__") eV.typeIs slot_listiter_next.lookup (qF rfl ?_));show ax (wpAny_callSpecial?_slot (name:=Str.ofString "__next__") eV.typeIs slot_listiter_next (wpAny_call_entry slot_listiter_next eV.typeIs entry_listiter_next ?_ (args_listiter_next _)));show ax (m:=field (.ref a) 0) (wpAny_field ho hd (x:= .ref l') rfl (Ac (c:=(Value.ref l'==Value.none)=true) g0 ?_));show ax (m:=field (.ref a) 1) (wpAny_field ho hd (x:= .int k 0) rfl ?_);show ax (m:=seqItems? (.ref l')) (wpAny_seqItems Qy Bx ?_);simp only[Int.toNat_natCast,(by simpa using h5:cs.toArray[k]? =some c)];show ax (wpAny_setField ho hd `S (aW (aA c rfl (aW (aA c rfl (hQ _ _ ?_))))));have hs:Heap.SameBut a s.heap (s.heap.update a (Obj.mapFields (·.setIfInBounds 1 (rawInt ((k:Int)+1))))):=Heap.SameBut.update ..;have By:(s.heap.update a (Obj.mapFields (·.setIfInBounds 1 (rawInt ((k:Int)+1))))).IsListIter a l' (k+1):=bj _ (Heap.get?_update_self _ ho (Obj.isFreed_of_fields (Obj.data_mapFields hd _))) ((Obj.cls_mapFields ..).trans hc) (by rw[Obj.data_mapFields hd];simp[rawInt]);generalize s.heap.update a (Obj.mapFields (·.setIfInBounds 1 (rawInt ((k:Int)+1))))=h' at hs By;have kk:=λb o (hb:b≠a)=>hs.extBut b o hb;have live:∃o,h'.get? a=some o:=let⟨o,e,_⟩:=By;⟨o,e⟩;show bj φ (.at (tk:=s.toks) kW kk live) (r.setAt hj kk live (aA _ bB (zk rfl)) (fC l' cs By h2 (h3.extBut hs.extBut ne) (aD.mono (mW (h:=s.heap) kW kk) (λ_ _ e=>e) _ _ h4))) (ao.mono (mW (h:=s.heap) kW kk) (λ_ _ e=>e) _ _ h6)
def Bz{id:String}{vs:List V}{cs:List Value}(r:aX w φ O s.heap)(pv:aD s.heap φ vs cs):cn w A φ O s (PySem.call (.builtin id) cs []) (x5 K id vs) λh φ v c=>ao h φ v c:=by
 show .args (T:=λcs=>PySem.call (.builtin id) cs []) pv (λa c p=>?_) (λa y c d p q=> .fX (T:=λd=>PySem.call (.builtin id) [c,d] []) q λx t=> .named (T:=λid=>PySem.call (.builtin id) [c,.str x t] []) (.guard λh0=>Qw r p h0) .fail) λ_ _ _ _ _ _ _ _ _=> .fail;have nx:∀a c,ao s.heap φ a c->cn w A φ O s (PySem.call (.builtin id) [c] []) (if id="next" then kB a (λj o=>match o with
    | .cA l k=>(match l[k]?with
     |some v=>ra v (·.set j (.cA l (k+1)))
     |none=>au)
    |_=>au)else au) λh φ v c=>ao h φ v c:=λa c p=>by
  show .named (T:=λid=>PySem.call (.builtin id) [c] []) (.kB (T:=λc=>PySem.call (.builtin "next") [c] []) p λj o d hj bB=>?_) .fail;induction o with
  |cA l k=>
   dsimp only;cases hl:l[k]?with
   |none=>show .fail
   |some u=>show Qx r hj bB hl
  |_=>show .fail
 cases a with
 |lst l=>show .named (T:=λid=>PySem.call (.builtin id) [c] []) (Qv r p) .fail
 |_=>show nx _ _ p
abbrev oe(x:Int):List Int->List Int
 |[]=>[x]
 |y::l=>if x<=y then x::y::l else y::oe x l
abbrev sortI:List Int->List Int
 |[]=>[]
 |x::l=>oe x (sortI l)
def BA(x:Int):∀l:List Int,(oe x l).Perm (x::l)
 |[]=> .refl _
 |y::l=>by
  by_cases h:x<=y
  ·rw[show oe x (y::l)=x::y::l from az h]
  ·rw[show oe x (y::l)=y::oe x l from aN h]
   show((BA x l).cons y).trans (List.Perm.swap x y l)
def sortI_perm:∀l:List Int,(sortI l).Perm l
 |[]=> .refl _
 |x::l=>(BA x (sortI l)).trans ((sortI_perm l).cons x)
def G5(x:Int):∀{l:List Int},l.Pairwise (·<=·)->(oe x l).Pairwise (·<=·)
 |[],_=>List.pairwise_singleton _ _
 |y::l,h=>by
  by_cases jq:x<=y
  ·rw[show oe x (y::l)=x::y::l from az jq]
   show List.pairwise_cons.mpr ⟨λz hz=>?_,h⟩;rcases Or.imp_left Eq.symm (cj hz)with rfl|hz
   ·show jq
   ·show Int.le_trans jq ((List.pairwise_cons.mp h).1 z hz)
  ·rw[show oe x (y::l)=y::oe x l from aN jq]
   show List.pairwise_cons.mpr ⟨λz hz=>?_,G5 x (List.pairwise_cons.mp h).2⟩;rcases cj ((BA x l).mem_iff.mp hz)with rfl|hz
   ·lia
   ·show(List.pairwise_cons.mp h).1 z hz
def BB:∀l:List Int,(sortI l).Pairwise (·<=·)
 |[]=> .nil
 |x::l=>G5 x (BB l)
def BC:∀{l l':List Int},l.Pairwise (·<=·)->l'.Pairwise (·<=·)->l.Perm l'->l=l'
 |[],l',_,_,p=>(List.Perm.nil_eq p)
 |x::l,[],_,_,p=>(List.Perm.eq_nil p)
 |x::l,y::l',h,h',p=>by
  show aI (List.pairwise_cons.mp h) λh1 h2=>?_;show aI (List.pairwise_cons.mp h') λh3 h4=>?_;have e:x=y:=by
   have a:y<=x:=by
    rcases cj (p.mem_iff.mp (List.mem_cons_self (a:=x) (l:=l)))with q|q
    ·lia
    ·show h3 x q
   have b:x<=y:=by
    rcases cj (p.mem_iff.mpr (List.mem_cons_self (a:=y) (l:=l')))with q|q
    ·lia
    ·show h1 y q
   lia
  subst e;show aJ _ (BC h2 h4 (p.cons_inv))
abbrev BD(l:List Int):Bool:=(List.range (l.length+1)).all λj=>decide ((l.take j).sum.natAbs<2^62)&&decide ((l.getD j 0).natAbs<2^62)
abbrev s9(id:String)(vs:List V):M V:=args vs
 (λa=>qH a λl=>match vt l with
  |some ns=>if id="sum" then(if BD ns=true then pure (.int ns.sum)else au)
   else if id="sorted" then(if l.length<64 then pure (.lst ((sortI ns).map .int))else au)
   else au
  |none=>au) Bu q9
abbrev G6(vs:List V):M V:=args vs
 (λa=>cq a λn=>pure (.dU 0 n 1))
 (λa b=>cq a λa=>cq b λb=>pure (.dU a b 1))
 λa b c=>cq a λa=>cq b λb=>cq c λc=>if c≠0/\c.natAbs<1073741824 then pure (.dU a b c)else au
set_option tactic.hygienic true in
def intsAre_of{h:Heap}{l:List V}:∀{cs:List Value} {ns:List Int},aD h φ l cs->vt l=some ns->IntsAre cs ns:=by
 induction l with
 |nil=>intro cs ns r e;delta aD at r;subst r;cases e;show .nil
 |cons v l ih=>
  intro cs ns r e;cases v<;>first|(cases e;done)|skip
  rename_i x;show aj (eo (e)) λnV h1 ay=>?_;subst ay;show ck r λc q ay h2 h3=>?_;subst ay;show aU (iX h2) λt aF=>?_;subst aF;show .cons x t (ih h3 h1)
def Qz{h:Heap}{cs:List Value}{ns:List Int}(q:IntsAre cs ns):aD h φ (ns.map .int) cs:=by
 induction q with
 |nil=>delta aD;rfl
 |cons i t _ ih=>show cF _ _ rfl fm ih
def QA{cs:List Value}{ns:List Int}(h:IntsAre cs ns):∃xs:Array (Int×Tok),cs.toArray=intItems xs/\xs.toList.map (·.1)=ns:=by
 induction h with
 |nil=>show aA (#[]) (by simp[intItems]) rfl
 |cons i t _ ih=>
  show aj ih λxs h1 h2=>?_;show aA (((i,t)::xs.toList).toArray) ?_ (by simp[h2]);have h4:=aJ Array.toList h1;simp only[(by simp[intItems]:(intItems xs).toList=xs.toList.map λp=>Value.int p.1 p.2)]at h4;simp[intItems,<-h4]
def G7{x:Int}(h:x.natAbs<2^62):InLong x:=by unfold InLong;omega
def QB{a:Addr}{cs:List Value}{ns:List Int}(hh:A.handled=none)(r:aX w φ O s.heap)(h2:s.heap.IsList a cs.toArray)(hI:IntsAre cs ns)(h0:BD ns=true):cn w A φ O s (PySem.call (.builtin "sum") [.ref a] []) (pure (.int ns.sum)) λh φ v c=>ao h φ v c:=by
 show aj (QA hI) λxs k1 k2=>?_;simp only[k1]at h2;have bV:xs.size=ns.length:=by simp only[<-k2,bq,Array.length_toList]
 have hs:∀j,j<=ns.length->((ns.take j).sum.natAbs<2^62/\(ns.getD j 0).natAbs<2^62):=λj hj=>by
  have:=List.all_eq_true.mp h0 j (List.mem_range.mpr `L);simpa using this
 have pre:∀j,preSum (numAt xs) j=(ns.take j).sum:=λj=>by simp only[preSum_eq,k2]
 show .one (sum_intList hh h2 (λj hj=>?_) λh' tk t' kk=>?_)
 ·have a1:=hs j `L
  have a2:=hs (j+1) `L;simp only[pre,numAt_eq,k2];show⟨G7 a1.2,G7 a2.1⟩
 ·simp only[pre,bV,List.take_length]
  show done r kk fm
def QC{a:Addr}{cs:List Value}{ns:List Int}(r:aX w φ O s.heap)(h2:s.heap.IsList a cs.toArray)(hI:IntsAre cs ns)(h0:cs.length<64):cn w A φ O s (PySem.call (.builtin "sorted") [.ref a] []) (pure (.lst ((sortI ns).map .int))) λh φ v c=>ao h φ v c:=by
 show .one (sorted_ints h2 hI h0 λout nV a1 a2 a3=>?_)
 symm
 cases BC a3 (BB ns) (a2.trans (sortI_perm ns).symm);show aU (sortedAll_at s.heap cs out) λe he=>?_;left;show done (tk:=s.toks) r (λ_ _=>sortedAll_old) ?_;have QD:φ.Out (s.heap.objs.size+1):=⟨λq=>by show aU (r.live _ q) λo e=>?_;show absurd (Heap.lt_size e) (Nat.not_lt.mpr (Nat.le_succ _)),λq=>by show aU (r.iU _ q) λo e=>?_;show absurd (Heap.lt_size e) (Nat.not_lt.mpr (Nat.le_succ _))⟩;show fC _ out.toList rfl QD ⟨_,he,rfl,_,rfl⟩ (Qz a1)
def QE{id:String}{vs:List V}{cs:List Value}(hh:A.handled=none)(r:aX w φ O s.heap)(pv:aD s.heap φ vs cs):cn w A φ O s (PySem.call (.builtin id) cs []) (s9 id vs) λh φ v c=>ao h φ v c:=by
 show .args (T:=λcs=>PySem.call (.builtin id) cs []) pv (λa c p=> .qH (T:=λc=>PySem.call (.builtin id) [c] []) p λl b cs h2 h3=>?_) (λ_ _ _ _ _ _=> .fail) λ_ _ _ _ _ _ _ _ _=> .fail;cases hn:vt l with
 |none=>show .fail
 |some ns=>
  show .named (T:=λid=>PySem.call (.builtin id) [.ref b] []) (.guard λh0=>QB hh r h2 (intsAre_of h3 hn) h0) ?_;show .named (T:=λid=>PySem.call (.builtin id) [.ref b] []) (.guard λh0=>QC r h2 (intsAre_of h3 hn) (h3.length▸h0)) .fail
def QF{vs:List V}{cs:List Value}(r:aX w φ O s.heap)(pv:aD s.heap φ vs cs):cn w A φ O s (PySem.call (.type "range") cs []) (G6 vs) λh φ v c=>ao h φ v c:=by
 show .args (T:=λcs=>PySem.call (.type "range") cs []) pv (λa c p=>?_) (λa b c d p q=>?_) λa b u c d e p q k=>?_
 ·show .cq (T:=λc=>PySem.call (.type "range") [c] []) p λi t=> .one (call_range_1 (done r (er _) ?_))
  delta ao;show oM _ _ _ _ rfl r.fresh (dT _ rfl)
 ·show .iJ (T:=λc d=>PySem.call (.type "range") [c,d] []) p q λi j t t'=> .one (call_range_2 (done r (er _) ?_))
  show oM _ _ _ _ rfl r.fresh (dT _ rfl)
 ·show .cq (T:=λc=>PySem.call (.type "range") [c,d,e] []) p λi t=> .iJ (T:=λd e=>PySem.call (.type "range") [.int i t,d,e] []) q k λi j t t'=> .guard λh0=> .one (call_range_3 h0.1 (done r (er _) ?_) (.inl (PyProof.noPylong_small h0.2)))
  delta ao;show oM _ _ _ _ rfl r.fresh (dT _ rfl)
abbrev vz(name:Str):Option String:=
 if name="join" then some "str.join" else if name="split" then some "str.split" else if name="lower" then some "str.lower" else if name="upper" then some "str.upper" else if name="count" then some "str.count" else none
abbrev x6(name:Str):Option String:=if name="append" then some "list.append" else if name="pop" then some "list.pop" else none
abbrev vA(name:Str):Option String:=if name="get" then some "dict.get" else none
abbrev fnOf(K:W.Frag)(C:Addr)(name:Str):Option Addr:=(qY K C name).bind λf=>if W.typeIn K (.ref f)=some (.type "function")then some f else none
abbrev p9(K:W.Frag)(d:Addr):Option (Obj×Array DictEntry×Nat):=(K.lookup d).bind λo=>if qD "dict" o.cls=true/\o.dict=none then(E6 o.data).map (Prod.mk o)else none
def G8{K:W.Frag}{d:Addr}{q:Obj×Array DictEntry×Nat}(h:p9 K d=some q):K.lookup d=some ⟨.type "dict",none,.dict q.2.1 q.2.2,q.1.slots⟩:=by
 show aj (dj h) λo h1 h=>?_;show aI (nN h) λh2 h=>?_;show aj (eo h) λes h3 h4=>?_;subst h4;show h1.trans (aJ some ((sH (sG h2.1) (M3 h3)).trans (by rw[h2.2])))
abbrev qa(K:W.Frag)(d:Addr):Bool:=(p9 K d).isSome
abbrev og(K:W.Frag)(a:V)(name:Str):M (V×List V):=λO=>match a with
 | .str x=>(vz name).map λid=>((.con (.builtin id),[.str x]),O)
 | .con (.ref d)=>if qa K d=true then(vA name).map λid=>((.con (.builtin id),[.con (.ref d)]),O)else none
 | .ref j=>match O[j]?with
  |some (.list _)=>(x6 name).map λid=>((.con (.builtin id),[.ref j]),O)
  |some (.dict _)=>(vA name).map λid=>((.con (.builtin id),[.ref j]),O)
  |some (.inst ..)=>match cY O j with
   |some (C,_,l)=>if W.plainGet K C name=true then(match l.lookup name with
     |none=>(fnOf K C name).map λf=>((.con (.ref f),[.ref j]),O)
     |some _=>if W.findIn K (.ref C) name=some none then(match ju K a name O with
       |some (v,aa)=>some ((v,[]),aa)
       |none=>none)else none)
    else none
   |none=>none
  |_=>none
 |_=>none
def m9{h:Heap}{c:Value}:ao h φ (.con c) c:=by delta ao;rfl
def all1{h:Heap}{v:V}{c:Value}(p:ao h φ v c):aD h φ [v] [c]:=by show cF c ([]) rfl p (by delta aD;rfl)
def nc{h:Heap}:aD h φ [] []:=by delta aD;rfl
def if2{α:Type}{c:Prop} [Decidable c]{a r:α}{o:Option α}(h:(if c then some a else o)=some r):c/\a=r\/o=some r:=by
 by_cases q:c
 ·rw[az q]at h;show .inl ⟨q,bN h⟩
 ·rw[aN q]at h;show .inr h
def G9{name:Str}{id:String}(h:vz name=some id):Slot "str" name id/\typeOf (.builtin id)=pure (.type "method_descriptor"):=by
 rcases if2 h with⟨rfl,rfl⟩|h
 ·show⟨F.slot_str_join,F.type_str_join⟩
 rcases if2 h with⟨rfl,rfl⟩|h
 ·show⟨F.slot_str_split,F.type_str_split⟩
 rcases if2 h with⟨rfl,rfl⟩|h
 ·show⟨F.slot_str_lower,F.type_str_lower⟩
 rcases if2 h with⟨rfl,rfl⟩|h
 ·show⟨F.slot_str_upper,F.type_str_upper⟩
 rcases if2 h with⟨rfl,rfl⟩|h
 ·show⟨F.slot_str_count,F.type_str_count⟩
 ·cases h
def Ha{name:Str}{id:String}(h:x6 name=some id):Slot "list" name id/\typeOf (.builtin id)=pure (.type "method_descriptor"):=by
 rcases if2 h with⟨rfl,rfl⟩|h
 ·show⟨F.slot_list_append,F.type_list_append⟩
 rcases if2 h with⟨rfl,rfl⟩|h
 ·show⟨F.slot_list_pop,F.type_list_pop⟩
 ·cases h
def x7{name:Str}{id:String}(h:vA name=some id):Slot "dict" name id/\typeOf (.builtin id)=pure (.type "method_descriptor"):=by
 rcases if2 h with⟨rfl,rfl⟩|h
 ·show⟨F.slot_dict_get,F.type_dict_get⟩
 ·cases h
def QG{d:Addr}(h:qa K d=true):∃es n sl,K.lookup d=some ⟨.type "dict",none,.dict es n,sl⟩:=by
 show aU (Option.isSome_iff_exists.mp h) λq h=>?_;show ET _ _ _ (G8 h)
set_option tactic.hygienic true in
def QH{C f:Addr}{name:Str}(h:fnOf K C name=some f):W.findIn K (.ref C) name=some (some (.ref f))/\W.typeIn K (.ref f)=some (.type "function"):=by
 show aj (dj h) λg hg h=>?_;show aI (fi h) λht h=>?_;cases bN h;show⟨Bm hg,ht⟩
noncomputable abbrev RM(h:Heap)(φ:Ph)(b:V×List V)(c:Value×List Value):Prop:=ao h φ b.1 c.1/\aD h φ b.2 c.2
def QI{j:Nat}{C d:Nat}{l:List (Str×V)}{a:Addr}{name:Str}{pl:Sem Bool}(r:aX w φ O s.heap)(b:cO K φ s.heap)(p:ao s.heap φ (.ref j) (.ref a))(hj:φ.m[j]? =some a)(hi:cY O j=some (C,d,l))(hg:W.plainGet K C name=true):
  cn w A φ O s (getMethod (.ref a) name pl) (λO=>match l.lookup name with
   |none=>(fnOf K C name).map λf=>((.con (.ref f),[.ref j]),O)
   |some _=>if W.findIn K (.ref C) name=some none then(match ju K (.ref j) name O with
     |some (v,aa)=>some ((v,[]),aa)
     |none=>none)else none) RM:=by
 intro v aa e;show ES (GI r hj hi) λdx es n h1 h2 I h3 h4 h5 h6=>?_;have h6:=h6 name;dsimp only at e;cases hl:l.lookup name with
 |none=>
  rw[hl]at e h6;show aj (eo e) λf hf e=>?_;show aI (QH hf) λvr ht=>?_;show W.method_fn b.k I (W.plainGet_of hg).1 (W.plainGet_of hg).2 vr ht ?_ ?_
  ·change(W.lookIn name (W.dictOf es n)).map _=_
   simp only[W.lookIn_dict,h6];rfl
  ·show aI (dh e) λbY aF=>?_;subst bY;subst aF
   show dw φ (.refl ..) r m9 (all1 p)
 |some u=>
  rw[hl]at e;show aI (fi e) λvr e=>?_;show W.method_usual b.k I (W.plainGet_of hg).1 (W.plainGet_of hg).2 vr rfl ?_;cases ha:ju K (.ref j) name O with
  |none=>rw[ha]at e;cases e
  |some q=>
   rw[ha]at e;show aI (dh (bN e)) λbY aF=>?_;subst bY;subst aF;show bg (Bp r b p _ _ ha) (λc s' q=>let⟨aB,x',r',q⟩:=q;(dw aB x' r' q nc)) λ_ _ x=>x
def x8{α β γ:Type}{o:Option α}{f:α->β}{t:Sem γ}{R:Heap->Ph->β->γ->Prop}(h:∀a,o=some a->cn w A φ O s t (pure (f a):M β) R):cn w A φ O s t (λO=>o.map λa=>(f a,O)) R:=by
 induction o with
 |none=>show .fail
 |some a=>show h a rfl
set_option tactic.hygienic true in
def BE:AD K w A (og K):=by
 intro a name ca φ O s pl r b p;cases a with
 |str x=>
  show aU (eU p) λt aF=>?_;subst aF;show x8 λid lM=> .one ?_;show getMethod_builtin (typeIs_str _ _ _) F.plainAttrs_str (G9 lM).1 (G9 lM).2 (λa h=>by cases(h)) (dw φ (.refl ..) r m9 (all1 jK))
 |con c=>
  cases(c)<;>first|show .fail|skip
  rename_i d;by_cases hd:qa K d=true
  ·intro v aa e
   subst p;show jG (QG hd) λes n sl hk=>?_;have ho:=b.k _ _ hk;show x8 (w:=w) (A:=A) (φ:=φ) (s:=s) (R:=RM) (λid lM=> .one ?_) v aa (show(vA name).map (λid=>((V.con (.builtin id),[V.con (.ref d)]),O))=_ from(az hd).symm.trans e);show getMethod_builtin ⟨_,ho,rfl⟩ F.plainAttrs_dict (x7 lM).1 (x7 lM).2 (λa h=>by cases(h);show aA _ ho rfl) ⟨φ,.refl ..,r,m9,all1 m9⟩
  ·intro v aa e
   show absurd (show(none:Option _)=_ from(aN hd).symm.trans e) λq=>nomatch q
 |ref j=>
  show aj p λa aF hj=>?_;subst aF;have pr:=all1 p;intro v aa e;unfold og at e;dsimp only at e
  symm
  cases bB:O[j]?with
  |none=>rw[bB]at e;cases(e)
  |some ob=>
   left;rw[bB]at e;induction ob with
   |list l=>
    obtain⟨cs,⟨n,ho⟩,_⟩:=r.objs j a _ hj bB;show x8 (w:=w) (A:=A) (φ:=φ) (s:=s) (R:=RM) (λid lM=> .one ?_) v aa e;show getMethod_builtin (aA _ ho rfl) F.plainAttrs_list (Ha lM).1 (Ha lM).2 (λa h=>by cases(h);show⟨_,ho,rfl⟩) (dw φ (.refl ..) r m9 pr)
   |dict l=>
    symm
    obtain⟨aC,⟨o,es,ep,ho,hc,_⟩,_⟩:=r.objs j a _ hj bB;left;show x8 (w:=w) (A:=A) (φ:=φ) (s:=s) (R:=RM) (λid lM=> .one ?_) v aa e;show getMethod_builtin (aA _ ho hc.1) F.plainAttrs_dict (x7 lM).1 (x7 lM).2 (λa h=>by cases(h);show⟨_,ho,hc.2.1⟩) (dw φ (.refl ..) r m9 pr)
   |inst abg abh=>
    dsimp only at e;cases hi:cY O j with
    |none=>rw[hi]at e;cases(e)
    |some q=>
     rw[hi]at e;show aI (fi e) λhg e=>?_;show QI r b p hj hi hg v aa e
   |_=>cases(e)
 |_=>show .fail
abbrev x9(x:String):M V:=pure (.con (.type x))
abbrev vB(vs:List V):M V:=args vs (λa=>match a with
 | .str _=>x9 "str"
 | .lst _=>x9 "list"
 |a=>kB a λ_ o=>match o with
  | .list _=>x9 "list"
  |_=>au) Bu q9
def QJ{O:Hp}{j:Nat}{l:List V}(h:O[j]? =some (.list l)):vB [.ref j] O=some (.con (.type "list"),O):=by
 delta vB args;dsimp only;rw[vw h];rfl
def QK{vs:List V}{cs:List Value}(r:aX w φ O s.heap)(pv:aD s.heap φ vs cs):cn w A φ O s (PySem.call (.type "type") cs []) (vB vs) λh φ v c=>ao h φ v c:=by
 show .args (T:=λcs=>PySem.call (.type "type") cs []) pv (λa c p=>?_) (λ_ _ _ _ _ _=> .fail) λ_ _ _ _ _ _ _ _ _=> .fail;have ob:∀a c,ao s.heap φ a c->cn w A φ O s (PySem.call (.type "type") [c] []) (kB a λ_ o=>match o with
  | .list _=>x9 "list"
  |_=>au) λh φ v c=>ao h φ v c:=λa c p=> .kB (T:=λc=>PySem.call (.type "type") [c] []) p λj o d hj bB=>by
  induction o with
  |list l=>
   show aj (r.objs j d _ hj bB) λcs h1 _=>?_;show .one (call_type_of h1.isList.typeIs (by decide+kernel) (bj φ (.refl ..) r m9))
  |_=>show .fail
 cases a with
 |str x=>
  show aU (eU p) λt aF=>?_;subst aF;show .one (call_type_of (typeIs_str _ _ _) (by decide+kernel) (bj φ (.refl ..) r m9))
 |lst l=>
  symm
  show dg (kL p) λa cs ay _ h1 _=>?_;subst ay;left;show .one (call_type_of h1.typeIs (by decide+kernel) (bj φ (.refl ..) r m9))
 |_=>show ob _ _ p
abbrev tb(v:Value):Option Int:=if h:v.ctorIdx=4 then some (Value.int.elim (motive:=λ_=>Int) v h λi _=>i)else none
def Hb{v:Value}{a:Int}(h:tb v=some a):∃t,v= .int a t:=by
 induction v<;>first|show fD (h)|show⟨_,aJ (Value.int · _) (bN h)⟩
abbrev intKeyed(e:DictEntry):Bool:=match tb e.key with
 |some k=>e.hash==hashInt k
 |none=>false
abbrev oh(K:W.Frag)(d:Addr):Option (Array DictEntry):=(p9 K d).bind λq=>if q.2.1.all intKeyed=true/\q.1.slots.size=0 then some q.2.1 else none
abbrev oZ:Value->Option V
 | .str x _=>some (.str x)
 | .int x _=>some (.int x)
 |_=>none
abbrev nd{β:Type}(a:V)(f:Addr->M β):M β:=match a with
 | .con c=>(match c with
  | .ref d=>f d
  |_=>au)
 |_=>au
abbrev ya(K:W.Frag)(id:String)(a k u:V):M V:=nd a λd=>cq k λk=>if id="dict.get"/\d≠sysModules then(match oh K d with
  |some es=>(match findBy Value.isInt es k with
   |some c=>bJ (oZ c)
   |none=>pure u)
  |none=>au)else au
abbrev tc(K:W.Frag)(id:String)(vs:List V):M V:=args vs (λ_=>au) (λa k=>ya K id a k .none) (ya K id)
def QL{h:Heap}{c:Value}{v:V}(e:oZ c=some v):ao h φ v c:=by
 induction c<;>first|(cases e;done)|skip
 ·cases e;show fm
 ·cases e;show jK
def bc.nd{α β:Type}{Y:List Addr}{h:Heap}{R:Heap->Ph->β->α->Prop}{T:Value->Sem α}{v:V}{c:Value}{f:Addr->M β}(p:ao h φ v c)(q:∀d,bc Y w A φ O s (T (.ref d)) (f d) R):bc Y w A φ O s (T c) (nd v f) R:=by
 cases v with
 |con c=>
  subst p;induction c<;>first|show q _|show .fail
 |_=>show .fail
def Hc{d:Addr}{es:Array DictEntry}(b:cO K φ s.heap)(e:oh K d=some es):s.heap.MapOf (PySem.intKind PG w) d (λk=>findBy Value.isInt es k):=by
 show aj (dj e) λq hq e=>?_;show aI (nN e) λhc e=>?_;have hk:=b.k _ _ (G8 hq);rw[Array.eq_empty_of_size_eq_zero hc.2,bN e]at hk;show EU _ es _ hk (cW rfl rfl rfl) rfl (λen he=>?_) (λ_=>rfl);have p:=Array.all_eq_true'.mp hc.1 en (bN e▸he);unfold intKeyed at p;cases hv:tb en.key with
 |none=>rw[hv]at p;show mN p
 |some k=>
  rw[hv]at p;show aU (Hb hv) λt vC=>?_;show aA k ((vC).symm▸beq_self_eq_true k) (dN p)
def Hd{es:Array DictEntry}{k:Int}{u:V}{c:Value}{t:Sem Value}(r:aX w φ O s.heap)(pu:ao s.heap φ u c)(h:∀{Q:Value->Shared->Prop},(∀tk,Q ((findBy Value.isInt es k).getD c) {s with toks:=tk})->wpAny (Mo w) A t Q (λ_ _=>False) s):
  cn w A φ O s t (match findBy Value.isInt es k with
   |some c=>bJ (oZ c)
   |none=>pure u) λh φ v c=>ao h φ v c:=by
 cases hf:findBy Value.isInt es k with
 |none=>show .one (h λtk=>by show(hf)▸(cC r pu))
 |some d=>
  dsimp only;cases hc:oZ d with
  |none=>show .fail
  |some v=>show .one (h λtk=>by show(hf)▸(cC r (QL hc)))
def QM{id:String}{vs:List V}{cs:List Value}(r:aX w φ O s.heap)(b:cO K φ s.heap)(pv:aD s.heap φ vs cs):cn w A φ O s (PySem.call (.builtin id) cs []) (tc K id vs) λh φ v c=>ao h φ v c:=by
 have He:∀{k:Int} {t:Tok},(PySem.intKind PG w).is k (.int k t)=true:=λ{k t}=>beq_self_eq_true k;show .args (T:=λcs=>PySem.call (.builtin id) cs []) pv (λ_ _ _=> .fail) (λa k c d p q=> .nd (T:=λc=>PySem.call (.builtin id) [c,d] []) p λx=> .cq (T:=λd=>PySem.call (.builtin id) [.ref x,d] []) q λi t=> .guard λh0=>?_)
  λa k u c d e p q pu=> .nd (T:=λc=>PySem.call (.builtin id) [c,d,e] []) p λx=> .cq (T:=λd=>PySem.call (.builtin id) [.ref x,d,e] []) q λi t=> .guard λh0=>?_
 ·rw[h0.1]
  cases he:oh K x with
  |none=>show .fail
  |some es=>
   have hm:=Hc (w:=w) b he;show Hd r Am λ{Q} h=>wpAny_call (codeAny_call_builtin F.slot_dict_get.plain F.entry_dict_get (F.slot_dict_get.check _ _ _ _ _ _ _ _ hm.typeIs (F.args_dict_get_2 _ _) (meets_dict_get (PySem.intKind PG w) (k:=i) x He (gm h0.2) A (wants _ _) s (aA _ hm (h _)))))
 ·rw[h0.1]
  cases he:oh K x with
  |none=>show .fail
  |some es=>
   have hm:=Hc (w:=w) b he;show Hd r pu λ{Q} h=>wpAny_call (codeAny_call_builtin F.slot_dict_get.plain F.entry_dict_get (F.slot_dict_get.check _ _ _ _ _ _ _ _ hm.typeIs (F.args_dict_get_3 _ _ _) (meets_dict_get_default (PySem.intKind PG w) (k:=i) x He (gm h0.2) e A (wants _ _) s (aA _ hm (h _)))))
abbrev BF(e:Int×Value):Bool:=match tb e.2 with
 |some k=>e.1==hashInt k&&e.2.scannable
 |none=>false
abbrev setIn(K:W.Frag)(d:Addr):Option (Obj×Array (Int×Value)×Nat×SetTable):=(K.lookup d).bind λo=>if qD "set" o.cls=true/\o.dict=none then(E7 o.data).map (Prod.mk o)else none
def QN{K:W.Frag}{d:Addr}{q:Obj×Array (Int×Value)×Nat×SetTable}(h:setIn K d=some q):K.lookup d=some ⟨.type "set",none,.set q.2.1 q.2.2.1 q.2.2.2,q.1.slots⟩:=by
 show aj (dj h) λo h1 h=>?_;show aI (nN h) λh2 h=>?_;show aj (eo h) λes h3 h4=>?_;subst h4;show h1.trans (aJ some ((sH (sG h2.1) (M4 h3)).trans (by rw[h2.2])))
abbrev rf(K:W.Frag)(d:Addr):Option (Array (Int×Value)):=(setIn K d).bind λq=>if q.2.1.all BF=true/\q.1.slots.size=0/\q.2.1.size<scanBound/\q.2.2.2.fits q.2.1.size=true then some q.2.1 else none
abbrev yb(K:W.Frag)(k:Int)(d:Addr):M Bool:=λO=>match rf K d with
 |some es=>some (es.toList.any λe=>Value.isInt k e.2,O)
 |none=>none
abbrev vD(x:Str)(j:Nat):M Bool:=λO=>match O[j]?with
 |some o=>(match o with
  | .dict l=>some ((l.lookup x).isSome,O)
  |_=>none)
 |none=>none
abbrev QO(K:W.Frag)(a b:V):M Bool:=match b with
 | .con _=>nd b λd=>cq a λk=>yb K k d
 | .ref j=>fX a λx=>vD x j
 |b=>Ar .In a b
abbrev eA(K:W.Frag)(op:CmpOp)(a b:V):M Bool:=match op with
 | .In=>QO K a b
 |op=>Ar op a b
def QP{d:Addr}{es:Array (Int×Value)}(b:cO K φ s.heap)(e:rf K d=some es):s.heap.SetOf (PySem.intKind PG w) d (λk=>es.toList.any λe=>Value.isInt k e.2) es.size:=by
 symm
 show aj (dj e) λq hq e=>?_;show aI (nN e) λhc e=>?_;have hk:=b.k _ _ (QN hq);show nJ hc λha o4 hb hf=>?_;left;rw[Array.eq_empty_of_size_eq_zero o4]at hk;rw[bN e]at hk ha hb hf;show MN _ es _ q.2.2.2 hk (cW rfl rfl rfl) rfl (λen he=>?_) (λk=>by show List.any_eq_true) hb hf rfl;have p:=Array.all_eq_true'.mp ha en (Array.mem_toList_iff.mp he);unfold BF at p;cases hv:tb en.2 with
 |none=>rw[hv]at p;show mN p
 |some k=>
  rw[hv]at p
  symm
  show aU (Hb hv) λt vC=>?_;left;show⟨⟨k,by rw[vC];show beq_self_eq_true k,dN (fb p).1⟩,(fb p).2⟩
def QQ{x:Int}{t:Tok}{d:Addr}(r:aX w φ O s.heap)(b:cO K φ s.heap):cn w A φ O s (compareOp .In (.int x t) (.ref d)) (yb K x d) λ_ _ k c=>c= .bool k:=by
 intro k aa e;have e:(match rf K d with|some es=>some (es.toList.any λe=>Value.isInt x e.2,O)|none=>none)=some (k,aa):=e;cases he:rf K d with
 |none=>rw[he]at e;cases e
 |some es=>
  simp only[he]at e;show aI (dh (bN e)) λbY aF=>?_;subst bY;subst aF;show wpAny_inSet_of (knd:=PySem.intKind PG w) (by change Value.isInt x (.int x t)=true;simp[Value.isInt]) rfl (QP (w:=w) b he) (bj φ .toks r rfl)
set_option tactic.hygienic true in
def QR{x:Str}{t:Tok}{j:Nat}{d:Addr}(r:aX w φ O s.heap)(b:cO K φ s.heap)(hj:φ.m[j]? =some d):cn w A φ O s (compareOp .In (.str x t) (.ref d)) (vD x j) λ_ _ k c=>c= .bool k:=by
 intro k aa e;unfold vD at e;cases bB:O[j]?with
 |none=>rw[bB]at e;cases e
 |some ob=>
  rw[bB]at e;induction ob<;>first|(cases e;done)|skip
  rename_i l;show aI (dh (bN e)) λbY aF=>?_;subst bY;subst aF;show bK (r.objs j d _ hj bB) λaC h1 _ h3=>?_;show wpAny_in_of (strKind_is PG w x t) (b.Av (gZ hj)) h1.mapOf (bj φ .toks r ?_);have:=h3 x;cases hl:l.lookup x with
  |some v=>rw[hl]at this;show aj this λc q _=>?_;rw[q];rfl
  |none=>rw[hl]at this;rw[this];rfl
def Hf(hu:A.units+8<cLine):uK K w A (eA K):=by
 intro op a b ca cb φ O s r bs pa pb;induction op with
 |In=>
  cases b with
  |con c=>show .nd (T:=compareOp .In ca) pb λd=> .cq (T:=λc=>compareOp .In c (.ref d)) pa λi t=>QQ r bs
  |ref j=>
   show aj pb λd aF hj=>?_;subst aF;show .fX (T:=λc=>compareOp .In c (.ref d)) pa λx t=>QR r bs hj
  |_=>show Fx .In hu a _ ca cb r pa pb
 |_=>show Fx _ hu a b ca cb r pa pb
variable{α β:Type}
abbrev rg(jW nf:List Str):List (Str×α)->List (Str×α)->Option (List (Str×α))
 |slots,[]=>some slots
 |slots,(k,v)::r=>if(jW.contains k||nf.contains k)=true/\(slots.lookup k).isSome=false then rg jW nf (slots++[(k,v)]) r else none
abbrev oi:List (Str×α)->List (Str×α)->List (Str×α)
 |slots,[]=>slots
 |slots,(n,d)::r=>oi (if(slots.lookup n).isNone=true then slots++[(n,d)]else slots) r
abbrev yc(jW nf:List Str)(ds:List α)(slots:List (Str×α)):Option (List (Str×α)):=
 if((jW.take (jW.length-ds.length)).filter λn=>(slots.lookup n).isNone).isEmpty=true then
  if(nf.all λn=>((oi slots ((jW.drop (jW.length-ds.length)).zip ds)).lookup n).isSome)=true then
   some ((jW++nf).filterMap λn=>((oi slots ((jW.drop (jW.length-ds.length)).zip ds)).lookup n).map (n,·))
  else none
 else none
abbrev iN(p:Arguments)(defs pos:List α)(kw:List (Str×α)):Option (List (Str×α)):=
 if p.posonlyargs=[]/\p.vararg=none/\p.kwarg=none/\pos.length<=(p.args.map (·.arg)).length then
  match rg (p.args.map (·.arg)) (p.kwonlyargs.map (·.arg)) ((p.args.map (·.arg)).zip pos) kw with
  |some slots=>yc (p.args.map (·.arg)) (p.kwonlyargs.map (·.arg)) (defs.drop (defs.length-(p.args.map (·.arg)).length)) slots
  |none=>none
 else none
def Hg{jW nf:List Str}{f:Str×Value->List (Str×Value)×List (Str×Value)->Sem (ForInStep (List (Str×Value)×List (Str×Value)))}
  (hf:∀k v slots ex,(jW.contains k||nf.contains k)=true->(slots.lookup k).isSome=false->f (k,v) (slots,ex)=pure (.yield (slots++[(k,v)],ex))):
  ∀{l slots BG ex},rg jW nf slots l=some BG->forIn l (slots,ex) f=pure (BG,ex)
 |[],_,_,_,h=>by cases h;rfl
 |(k,v)::r,slots,BG,ex,h=>by
  show aI (fi h) λhc h=>?_;rw[List.forIn_cons,hf k v slots ex hc.1 hc.2];show Hg hf h
def BH{f:Str×Value->List (Str×Value)->Sem (ForInStep (List (Str×Value)))}(hf:∀n d slots,f (n,d) slots=if(slots.lookup n).isNone=true then pure (.yield (slots++[(n,d)]))else pure (.yield slots)):
  ∀{l slots},forIn l slots f=pure (oi slots l)
 |[],_=>by rfl
 |(n,d)::r,slots=>by
  rw[List.forIn_cons,hf];by_cases c:(slots.lookup n).isNone=true
  ·rw[az c];show(BH hf).trans (aJ (λq=>pure (oi q r)) (az c).symm)
  ·rw[aN c];show(BH hf).trans (aJ (λq=>pure (oi q r)) (aN c).symm)
def Hh{S:Type}{slots:List (Str×Value)}{st:S}{f:Str->S->Sem (ForInStep S)}(hf:∀n,(slots.lookup n).isSome=true->f n st=pure (.yield st)):
  ∀{l:List Str},(l.all λn=>(slots.lookup n).isSome)=true->forIn l st f=pure st
 |[],_=>by rfl
 |n::r,h=>by
  show aI (fb (by show h)) λh1 h2=>?_;rw[List.forIn_cons,hf n h1];show Hh hf h2
abbrev QS(kw:Option Arg)(extra fG:List (Str×Value)):Sem (List (Str×Value)):=do
 let mut fG:=fG
 if let some a:=kw then
  if extra.length>sizeLine+1 then unsupported "dict:memory"
  let d<-alloc {cls:= .type "dict",data:= .dict #[]}
  for (k,v)in extra do nsSet d k v
  fG:=fG++[(a.arg,.ref d)]
 return fG
def Hi{fd:FuncData}{cs:List Value}{bo slots ex:List (Str×Value)}{defs:List Value}{fG:List (Str×Value)}{M:Model}{A:Around}{E:Value->Shared->Prop}{Q:List (Str×Value)->Shared->Prop}{s:Shared}
  (h1:fd.params.posonlyargs=[]) (h2:fd.params.vararg=none) (h4:cs.length<=(fd.params.args.map (·.arg)).length)
  (hl:∀P f,P=fd.params.args.map (·.arg)->(∀k v sl e,((fd.params.args.map (·.arg)).contains k||(fd.params.kwonlyargs.map (·.arg)).contains k)=true->(sl.lookup k).isSome=false->f (k,v) (sl,e)=pure (.yield (sl++[(k,v)],e)))->
   (fd.params.kwarg.isSome=true->∀k v sl e,((fd.params.args.map (·.arg)).contains k||(fd.params.kwonlyargs.map (·.arg)).contains k)=false->f (k,v) (sl,e)=pure (.yield (sl,e++[(k,v)])))->forIn bo (P.zip cs,[]) f=(pure (slots,ex):Sem _))
  (hd:∀(Q:Option (Array Value)->Shared->Prop),(∀o,(o.getD #[]).toList=defs->Q o s)->wpAny M A (seqItems? fd.defaults) Q E s)
  (hb:yc (fd.params.args.map (·.arg)) (fd.params.kwonlyargs.map (·.arg)) (defs.drop (defs.length-(fd.params.args.map (·.arg)).length)) slots=some fG) (h:wpAny M A (QS fd.params.kwarg ex fG) Q E s):wpAny M A (bindArgs fd ⟨cs,bo⟩) Q E s:=by
 show aI (fi hb) λhm hb=>?_;show aI (fi hb) λHj hb=>?_;have hb:=bN hb;have hP:fd.params.posonlyargs.map (·.arg)++fd.params.args.map (·.arg)=fd.params.args.map (·.arg):=by rw[h1];rfl
 show ax (lI (hl _ _ hP (λk v sl e p q=>?_) λkk k v sl e p=>?_) (aW (ax (hd _ λo ho=>?_))))
 ·show(az p).trans (aN (by rw[q];show g0))
 ·show(aN (by rw[p];show g0)).trans (az kk)
 rw[<-hP]at h4;rw[<-hP,<-ho]at hm Hj hb;show qF ?_ (qF ?_ (ax (lI (BH λn d slots=>rfl) (aW (ax (lI (Hh (λn hn=>?_) Hj) (aW (qF rfl ?_))))))))
 ·rw[decide_eq_false (Nat.not_lt.mpr h4)];rfl
 ·show(aJ not hm:_= !true)
 ·show aN (by rw[<-Option.not_isSome,hn];show g0)
 ·rw[hb,h2];show h
def Hk{fd:FuncData}{cs:List Value}{bo:List (Str×Value)}{defs:List Value}{fG:List (Str×Value)}{M:Model}{A:Around}{E:Value->Shared->Prop}{Q:List (Str×Value)->Shared->Prop}{s:Shared}
  (hd:∀(Q:Option (Array Value)->Shared->Prop),(∀o,(o.getD #[]).toList=defs->Q o s)->wpAny M A (seqItems? fd.defaults) Q E s)
  (hb:iN fd.params defs cs bo=some fG) (h:Q fG s):wpAny M A (bindArgs fd ⟨cs,bo⟩) Q E s:=by
 show aI (fi hb) λhc hb=>?_;cases hs:rg (fd.params.args.map (·.arg)) (fd.params.kwonlyargs.map (·.arg)) ((fd.params.args.map (·.arg)).zip cs) bo with
 |none=>rw[hs]at hb;cases hb
 |some slots=>
  rw[hs]at hb;show Hi (ex:=[]) hc.1 hc.2.1 hc.2.2.2 (λP f hP h5 _=>?_) hd hb ?_
  ·show(hP)▸(Hg h5 hs)
  ·show(hc.2.2.1)▸(aW h)
variable{h:Heap}
abbrev cS(h:Heap)(φ:Ph)(l:List (Str×V))(l':List (Str×Value)):Prop:=fo (λa b=>a.1=b.1/\ao h φ a.2 b.2) l l'
def cS.of:∀{l:List (Str×V)} {l':List (Str×Value)},hH h φ l l'->cS h φ l l'
 |[],[],_=> .nil
 |[],_::_,⟨e,_⟩=>by cases e
 |_::_,[],⟨e,_⟩=>by cases e
 |(n,v)::l,(n',c)::l',⟨e,r⟩=>by
  simp only[List.map_cons,List.cons.injEq]at e r
  symm
  show ck r λc' r' q h1 h2=>?_;cases q;left;show .cons ⟨e.1,h1⟩ (cS.of ⟨e.2,h2⟩)
def cS.look{n:Str}{l:List (Str×V)}{l':List (Str×Value)}(q:cS h φ l l'):(∃v c,l.lookup n=some v/\l'.lookup n=some c/\ao h φ v c)\/(l.lookup n=none/\l'.lookup n=none):=by
 induction q with
 |nil=>show .inr ⟨rfl,rfl⟩
 | @cons a b _ _ e _ ih=>
  rw[di,di,e.1];cases n==b.1 with
  |true=>show .inl (cF _ _ rfl rfl e.2)
  |false=>show ih
def cS.same{n:Str}{l:List (Str×V)}{l':List (Str×Value)}(q:cS h φ l l'):(l.lookup n).isSome=(l'.lookup n).isSome/\(l.lookup n).isNone=(l'.lookup n).isNone:=by
 rcases q.look (n:=n)with⟨v,c,h1,h2,_⟩|⟨h1,h2⟩<;>rw[h1,h2]<;>show⟨rfl,rfl⟩
def fo.BI{α β:Type}{R:α->β->Prop}{l m:List α}{l' m':List β}(h:fo R l l')(q:fo R m m'):fo R (l++m) (l'++m'):=by
 induction h with
 |nil=>show q
 |cons h _ ih=>show .cons h ih
def fo.imp{α β:Type}{R S:α->β->Prop}(f:∀a b,R a b->S a b){l:List α}{l':List β}(h:fo R l l'):fo S l l':=by
 induction h with
 |nil=>show .nil
 |cons h _ ih=>show .cons (f _ _ h) ih
def cS.one{n:Str}{v:V}{c:Value}(r:ao h φ v c):cS h φ [(n,v)] [(n,c)]:= .cons ⟨rfl,r⟩ .nil
def cS.zip:∀{ns:List Str} {l:List V} {l':List Value},aD h φ l l'->cS h φ (ns.zip l) (ns.zip l')
 |[],_,_,_=> .nil
 |_::_,[],_,r=>by delta aD at r;subst r;show .nil
 |n::ns,v::l,_,r=>by
  show ck r λc q ay h1 h2=>?_;subst ay;show .cons ⟨rfl,h1⟩ (cS.zip h2)
def cS.step{no ko:List Str}{kw:List (Str×V)}{kc:List (Str×Value)}(BJ:cS h φ kw kc):∀{l:List (Str×V)} {l':List (Str×Value)} {r:List (Str×V)},cS h φ l l'->rg no ko l kw=some r->∃r',rg no ko l' kc=some r'/\cS h φ r r':=by
 induction BJ with
 |nil=>intro l l' r q e;show aA l' rfl (bN e▸q)
 | @cons a b _ _ e1 _ ih=>
  intro l l' r q e;obtain⟨b,c⟩:=b;cases e1.1;show aI (fi e) λhc e=>?_;change∃r',(if(no.contains a.1||ko.contains a.1)=true/\(l'.lookup a.1).isSome=false then rg no ko (l'++[(a.1,c)]) _ else none)=some r'/\_;rw[az ⟨hc.1,q.same.1▸hc.2⟩];show ih (q.BI (cS.one e1.2)) e
def cS.fill{ds:List (Str×V)}{dc:List (Str×Value)}(BJ:cS h φ ds dc):∀{l:List (Str×V)} {l':List (Str×Value)},cS h φ l l'->cS h φ (oi l ds) (oi l' dc):=by
 induction BJ with
 |nil=>intro l l' q;show q
 | @cons a b _ _ e1 _ ih=>
  intro l l' q;obtain⟨b,c⟩:=b;cases e1.1;show ih ?_;rw[<-q.same.2];cases(List.lookup a.1 l).isNone with
  |true=>show q.BI (cS.one e1.2)
  |false=>show q
def cS.pick{l:List (Str×V)}{l':List (Str×Value)}(q:cS h φ l l'):∀ns:List Str,cS h φ (ns.filterMap λn=>(l.lookup n).map (n,·)) (ns.filterMap λn=>(l'.lookup n).map (n,·))
 |[]=> .nil
 |n::ns=>by
  rw[List.filterMap_cons,List.filterMap_cons]
  symm
  rcases q.look (n:=n)with⟨v,c,h1,h2,h3⟩|⟨h1,h2⟩
  ·left
   rw[h1,h2];show .cons ⟨rfl,h3⟩ (q.pick ns)
  ·left
   rw[h1,h2];show q.pick ns
set_option tactic.hygienic true in
def BK{p:Arguments}{ds vs:List V}{dc cs:List Value}{aC:List (Str×V)}{bo:List (Str×Value)}{r:List (Str×V)}(hd:aD h φ ds dc)(hv:aD h φ vs cs)(hk:cS h φ aC bo)(e:iN p ds vs aC=some r):
  ∃r',iN p dc cs bo=some r'/\cS h φ r r':=by
 unfold iN at e|-;rw[<-hv.length];split at e
 ·rename_i hc
  rw[az hc];split at e
  ·rename_i slots hs
   show aj (cS.step hk (cS.zip (ns:=p.args.map (·.arg)) hv) hs) λsl h1 h2=>?_;rw[h1];change∃r',yc _ _ _ sl=some r'/\_;unfold yc at e|-;rw[<-hd.length,<-(hd.drop (ds.length-(p.args.map (·.arg)).length)).length];have e2:(λn=>(List.lookup n (oi sl (((p.args.map (·.arg)).drop ((p.args.map (·.arg)).length-(ds.drop (ds.length-(p.args.map (·.arg)).length)).length)).zip (dc.drop (ds.length-(p.args.map (·.arg)).length))))).isSome)=
    λn=>(List.lookup n (oi slots (((p.args.map (·.arg)).drop ((p.args.map (·.arg)).length-(ds.drop (ds.length-(p.args.map (·.arg)).length)).length)).zip (ds.drop (ds.length-(p.args.map (·.arg)).length))))).isSome:=funext λn=>((cS.fill (cS.zip (ns:=(p.args.map (·.arg)).drop ((p.args.map (·.arg)).length-(ds.drop (ds.length-(p.args.map (·.arg)).length)).length)) (hd.drop (ds.length-(p.args.map (·.arg)).length))) h2).same (n:=n)).1.symm
   rw[(funext λn=>(h2.same (n:=n)).2.symm),e2];split at e
   ·rename_i hm
    rw[az hm];split at e
    ·rename_i ho
     rw[az ho];cases e;show aA _ rfl ((cS.fill (cS.zip (ns:=(p.args.map (·.arg)).drop ((p.args.map (·.arg)).length-(ds.drop (ds.length-(p.args.map (·.arg)).length)).length)) (hd.drop (ds.length-(p.args.map (·.arg)).length))) h2).pick _)
    ·cases e
   ·cases e
  ·cases e
 ·cases e
structure qb(h:Heap)(φ:Ph)(sc:Scope)(cl:List (Str×Addr))(kC:ab):Prop where
 names:∀y a,cl.lookup y=some a->sc.names.lookup y=some .free
 has:∀y,sc.names.lookup y=some .free->∃a,cl.lookup y=some a
 inj:∀y z a,cl.lookup y=some a->cl.lookup z=some a->y=z
 cell:∀y a,cl.lookup y=some a->a∉φ.m/\∃v,h.IsCell a v
 vals:∀y v,kC.lookup y=some v->sc.names.lookup y=some .free/\∃a c,cl.lookup y=some a/\h.IsCell a (some c)/\ao h φ v c
abbrev vE(sc:Scope):Bool:=sc.names.all λx=>sc.names.lookup x.1==some x.2
def cS.fL{aB:Ph}{s':Shared}(x:a0 Y φ s aB s')(hY:∀a∈Y,a∈φ.x){l:List (Str×V)}{l':List (Str×Value)}(q:cS s.heap φ l l'):cS s'.heap aB l l':=q.imp λ_ _ h=>⟨h.1,h.2.fL x hY⟩
def cS.mono{h h':Heap}{aB:Ph}(hs:iH φ aB h h')(hn:∀(i:Nat) (a:Addr),φ.m[i]? =some a->aB.m[i]? =some a){l:List (Str×V)}{l':List (Str×Value)}(q:cS h φ l l'):cS h' aB l l':=q.imp λ_ _ h=>⟨h.1,ao.mono hs hn _ _ h.2⟩
def QT{f:Str×Value->PUnit->Sem (ForInStep PUnit)}(hf:∀n v u,f (n,v) u=(do storeName env n v;pure (.yield ⟨⟩)))(l:List (Str×V)):
  ∀{fG:List (Str×Value)} {J:ab} {s:Shared},bW K w env J φ O s->Own Y sc env φ->cS s.heap φ l fG->(∀p∈l,cR sc p.1=true)->
   wpAny (Mo w) A (forIn fG ⟨⟩ f) (λ_ s'=>a0 Y φ s φ s'/\bW K w env (l.reverse++J) φ O s') (λ_ _=>False) s:=by
 induction l with
 |nil=>
  intro fG J s n o q _;cases q;show aW ⟨.refl ..,n⟩
 |cons h l ih=>
  intro fG J s n o q hn;cases q with
  | @cons a' b' _ l' e q=>
   obtain⟨b,c⟩:=b';show aI e λe p=>?_;dsimp only at e p;subst e;rw[List.forIn_cons,hf];show ax (ax (bg (F7 n o p (hn _ (.head _))) (λ_ aw fE=>?_) λ_ _ x=>x));show aW (bg (ih fE.2 (o.step fE.1) (cS.fL fE.1 o.sub q) λp hp=>hn p (.tail _ hp)) (λ_ a8 c0=>?_) λ_ _ x=>x);show⟨fE.1.trans c0.1,?_⟩;rw[List.reverse_cons,List.append_assoc];show c0.2
def BL{sc:Scope}{cl:List (Str×Addr)}{kC:ab}{fG:List (Str×Value)}{bT:List (Str×V)}{qual:Str}{func:Option Addr}{code:Value}{E:Value->Shared->Prop}{Q:Env->Shared->Prop}(r:aX w ⟨m,x⟩ O s.heap)(b:cO K ⟨m,x⟩ s.heap)(hk:sc.kind= .function)(qZ:vE sc=true)(hc:qb s.heap ⟨m,x⟩ sc cl kC)
  (hb:cS s.heap ⟨m,x⟩ bT fG) (hn:∀p∈bT,cR sc p.1=true) (hE:∀v s,E v s->False)
  (h:∀(env:Env) (s':Shared) (Y:List Addr),env.scope=sc->env.code=code->fj s.heap Y->(∀qU,Step ⟨m,qU⟩ s ⟨m,qU⟩ s')->(∀a∈Y,a∉x)->Own Y sc env ⟨m,Y++x⟩->bW K w env (bT.reverse++kC) ⟨m,Y++x⟩ O s'->Q env s'):
  wpAny (Mo w) A (newFunctionEnv sc mainGlobals cl fG qual func code none builtinsNs) Q E s:=by
 simp only[newFunctionEnv];show ax (wpAny_alloc ?_);show ax (wpAny_layCells _ (λname kind cells=>by cases oU:kind==NameKind.cell<;>simp[oU]) _ _ _ _ ?_);generalize oV:s.heap.push {cls:= .type (if(none:Option Env).isSome then "dict" else "frame"),data:= .dict #[]}=H1;have kT:H1.objs.size=s.heap.objs.size+1:=by rw[<-oV,Heap.size_push]
 have lt:∀a v,s.heap.IsCell a v->a<H1.objs.size:=λa v hc=>by simp only[kT];show Nat.lt_succ_of_lt hc.lt
 have ci:=xB (lo:=H1.objs.size) (cl:=cl) sc.names (sc.names.filterMap λx=>if x.2== .cell then some x.1 else none) H1 cl (Nat.le_refl _)
  ⟨λy a e=> .inl ⟨e,let⟨_,v,hc⟩:=hc.cell y a e;lt a v hc⟩,λy z a ha e1 e2=>hc.inj y z a e1 e2⟩
  λy hy hk=>List.mem_filterMap.mpr (aA y hy (az (by rw[hk];rfl)))
 show aI (xE sc.names H1) λvc A7=>?_;have mn:∀b o,s.heap.get? b=some o->(pushCells H1 sc.names).get? b=some o:=λb o e=>pushCells_keeps _ _ b o ((λb o e=>oV▸Heap.get?_push_of_some _ e:∀b o,s.heap.get? b=some o->H1.get? b=some o) b o e);generalize BM:List.range' s.heap.objs.size ((pushCells H1 sc.names).objs.size-s.heap.objs.size)=YY;have sV:∀a,s.heap.objs.size<=a->a<(pushCells H1 sc.names).objs.size->a∈YY:=λa h1 h2=>BM▸List.mem_range'_1.mpr ⟨h1,Nat.lt_of_lt_of_le h2 (Nat.le_of_eq (Nat.add_sub_cancel' (a9 h1 (Nat.le_of_lt h2))).symm)⟩;have nZ:fj s.heap YY:=λa ha=>by
  rw[<-BM]at ha;have:=(List.mem_range'_1.mp ha).1;cases e:s.heap.get? a with
  |none=>rfl
  |some o=>show absurd (Heap.lt_size e) (Nat.not_lt.mpr this)
 have live:∀a∈YY,∃o,(pushCells H1 sc.names).get? a=some o:=λa ha=>by
  rw[<-BM]at ha;show aI (List.mem_range'_1.mp ha) λh1 h2=>?_;by_cases e:a=s.heap.objs.size
  ·subst e;show⟨_,pushCells_keeps _ _ _ _ (oV▸dT _ rfl)⟩
  ·have h3:=h2
   have h4:s.heap.objs.size+((pushCells H1 sc.names).objs.size-s.heap.objs.size)=(pushCells H1 sc.names).objs.size:=Nat.add_sub_cancel' (a9 (by rw[kT];show Nat.le_succ _) vc);simp only[h4]at h3;show A7 a ((kT)▸Nat.lt_of_le_of_ne h1 λq=>e q.symm) h3
 have A8:∀y,sc.names.lookup y=some .free->(cellsFrom H1.objs.size sc.names cl).lookup y=cl.lookup y:=λy hy=>xD _ _ _ _ λk hk e hc=>by
  obtain⟨z,kk⟩:=k;cases e;cases hc;have:=(λx k hx=>dN (List.all_eq_true.mp qZ _ hx):∀x k,(x,k)∈sc.names->sc.names.lookup x=some k) _ _ hk;rw[hy]at this;cases this
 generalize Hl:(({scope:=sc,locals:=s.heap.objs.size,globals:=mainGlobals,cells:=cellsFrom H1.objs.size sc.names cl,qual:=qual,func:=func,code:=code,frame:=some s.heap.objs.size,builtins:=builtinsNs}:Env))=env;have fits:gB ⟨m,YY++x⟩ env kC (pushCells H1 sc.names):=by
  subst Hl;show⟨hk,rfl,rfl,λq=>?_,(aA (λ_=>none) ?_ (λy v e k=>?_)),λy v e k=>?_,λy k=>?_,λy a e=>?_,λy z a e1 e2=>?_⟩
  ·show aU (r.live _ q) λo e=>?_;show Nat.lt_irrefl _ (Heap.lt_size e)
  ·show(oV▸Heap.Ns.new s.heap _:H1.Ns s.heap.objs.size λ_=>none).keeps (pushCells_keeps _ _)
  ·unfold Env.kindOf at k;rw[(hc.vals y v e).1]at k;cases k
  ·obtain⟨hf,a,c,h1,h2,h3⟩:=hc.vals y v e
   show cF a c ((A8 y hf).trans h1) (h2.keeps mn) (ao.mono (ur (φ:=⟨m,x⟩) nZ mn) (λ_ _ e=>e) _ _ h3)
  ·show xC _ _ _ _ ?_
   rcases k with k|k
   ·show .inl (mem_of_lookup k)
   ·show .inr (hc.has y k)
  ·rcases ci.at_ y a e with⟨h1,_⟩|⟨h1,h2,h3,_⟩
   ·obtain⟨h4,v,h5⟩:=hc.cell y a h1;show⟨h4,v,h5.keeps mn⟩
   ·show⟨λq=>by show aU (r.live _ q) λo e=>?_;have:=Heap.lt_size e;rw[kT]at h1;show absurd (Nat.lt_of_lt_of_le this (Nat.le_of_succ_le h1)) (Nat.lt_irrefl _),none,h3⟩
  ·by_cases ha:H1.objs.size<=a
   ·show ci.inj y z a ha e1 e2
   ·rcases ci.at_ y a e1 with⟨h1,_⟩|⟨h1,_⟩
    ·rcases ci.at_ z a e2 with⟨h2,_⟩|⟨h2,_⟩
     ·show hc.inj y z a h1 h2
     ·show absurd h2 ha
    ·show absurd h1 ha
 have own:Own YY sc env ⟨m,YY++x⟩:=by
  subst Hl;show⟨λa ha=>List.mem_append_left _ ha,λy=> .inl rfl,sV s.heap.objs.size (Nat.le_refl _) (Nat.lt_of_lt_of_le (by rw[kT];show Nat.lt_succ_self _) vc),λy a e1 e2=>?_⟩;rcases ci.at_ y a e2 with⟨h1,_⟩|⟨h1,h2,_⟩
  ·rw[hc.names y a h1]at e1;cases e1
  ·show sV a (by rw[kT]at h1;show Nat.le_of_lt `A) h2
 show ax (bg (QT (λ_ _ _=>rfl) bT (⟨r.mj nZ mn live,b.mj nZ mn,fits⟩:bW K w env kC ⟨m,YY++x⟩ O {s with heap:=pushCells H1 sc.names}) own (cS.mono (ur (φ:=⟨m,x⟩) nZ mn) (λ_ _ e=>e) hb:cS (pushCells H1 sc.names) ⟨m,YY++x⟩ bT fG) hn) (λ_ a8 QU=>aI QU λbu dK=>aW (h env a8 YY (by kernel_rfl) (by kernel_rfl) nZ (λqU=>?_) (λa ha q=>?_) (own.step bu) dK)) λ_ _ x=>x.elim)
 ·show(a0.less (Y:=[]) (Z:=YY) (by rw[List.append_nil];show(a0.heap (tk:=s.toks) mn:a0 YY ⟨m,YY++x⟩ s ⟨m,YY++x⟩ {s with heap:=pushCells H1 sc.names}).trans bu) nZ).nY
 ·show aU (r.iU a q) λo e=>?_
  rw[nZ a ha]at e;cases e
abbrev dF:Fl->Option V
 | .ret v=>some v
 | .next=>some .none
 |_=>none
def BN{h:Heap}{fl:Fl}{a:Flow}{v:V}(e:dF fl=some v)(p:mq h φ fl a):ao h φ v (match(generalizing:=false) a with| .ret c=>c|_=> .none):=by
 induction fl with
 |next=>cases e;induction a<;>first|show p.elim|(delta ao;rfl)
 |ret v'=>cases e;induction a<;>first|show p.elim|show p
 |_=>cases e
def QV{a:Addr}{o:Obj}{fd:FuncData}{body:List Stmt}{kC bT:ab}{defs vs:List V}{dc cs:List Value}{aC:List (Str×V)}{bo:List (Str×Value)}{mb:ab->M (ab×Fl)}{v:V}(gQ:A.depth<recursionLimit)(r:aX w φ O s.heap)(b:cO K φ s.heap)
  (ho:s.heap.get? a=some o) (hd:o.data= .func fd) (qc:fd.body= .stmts body) (vF:fd.globals=mainGlobals) (vG:fd.builtins=builtinsNs) (iW:s.heap.CodeRec fd.code fd.qualname) (QW:fd.scope.isCoroutine=false) (BO:fd.scope.isGenerator=false) (hk:fd.scope.kind= .function) (qZ:vE fd.scope=true)
  (vH:∀(E:Value->Shared->Prop) (Q:Option (Array Value)->Shared->Prop),(∀o,(o.getD #[]).toList=dc->Q o s)->wpAny (Mo w) A.in1 (seqItems? fd.defaults) Q E s) (kX:aD s.heap φ defs dc) (pv:aD s.heap φ vs cs) (pk:hH s.heap φ aC bo)
  (hb:iN fd.params defs vs aC=some bT) (hn:(bT.all λp=>cR fd.scope p.1)=true) (hc:qb s.heap φ fd.scope fd.closure kC)
  (hs:∀Y env,env.scope=fd.scope->∀J,St K w (A.deeper env) Y fd.scope env (execs body env) J (mb J)) {q:ab×Fl} (e:mb (bT.reverse++kC) O=some (q,aa)) (ev:dF q.2=some v):
  codeAny (Mo w) A (.call (.ref a) ⟨cs,bo⟩) (kN [] w φ s v aa) s:=by
 show aj (BK kX pv (cS.of pk) hb) λfG nU kb=>?_;show codeAny_call_function gQ ho hd QW BO qc iW (Hk (vH _) nU ?_);rw[vF,vG];show bg (BL r b hk qZ hc kb (λp hp=>List.all_eq_true.mp hn p hp) (λ_ _ h=>h) (E:=λ_ _=>False) (Q:=λenv a8=>a8.heap.NoLimit/\codeAny (Mo w) A (.func body env) (kN [] w ⟨φ.1,φ.2⟩ s v aa) a8) λenv aw Y gE o5 hY aP yd ow n=>?_) (λ_ _ h=>h) λ_ _ h=>h.elim;show⟨n.base.lim,codeAny_func ?_⟩;show bg (hs Y env gE _ _ _ _ n ow q aa e) (λfl a8 QX=>ku QX λcB bu ct p _=>?_) λ_ _ h=>h.elim;obtain⟨m₂,rfl⟩:=qR bu.x;have sub:∀a∈φ.2,a∈Y++φ.2:=λa ha=>List.mem_append_right _ ha;show fC _ ⟨m₂,φ.2⟩ rfl ?_ (ct.jt sub) (ao.mono (n5 sub) (λ_ _ e=>e) _ _ (BN ev p));show(a0.less (Y:=[]) (Z:=Y) (by rw[List.append_nil];show((aP (Y++φ.2)).more λ_ h=>(nomatch h)).trans bu) hY).nY
abbrev toV:Value->V
 | .none=> .none
 | .bool b=> .bool b
 | .int i _=> .int i
 | .str x _=> .str x
 |c=> .con c
def QY{h:Heap}{φ:Ph}(c:Value):ao h φ (toV c) c:=by
 induction c<;>first|(delta toV ao;rfl)|show fm|show jK
def Hm{h:Heap}{φ:Ph}:∀l:List Value,aD h φ (l.map toV) l
 |[]=>by delta aD;rfl
 |c::l=>by show cF c l rfl (QY c) (Hm l)
abbrev ye(sc:Scope):Bool:=sc.names.all λx=>x.2 != .free
abbrev rh(sc:Scope):Bool:= !sc.isCoroutine&& !sc.isGenerator&&sc.kind== .function&&vE sc
abbrev kY(K:W.Frag)(fd:FuncData):Bool:=fd.globals==mainGlobals&&fd.builtins==builtinsNs&&fd.closure.isEmpty&&W.codeIn K fd.code fd.qualname&&rh fd.scope&&ye fd.scope
def bz{a b:Bool}{G:Prop}(h:(a&&b)=true)(k:a=true->b=true->G):G:=by
 induction a
 ·show absurd h g0
 ·show k rfl h
def BP{sc:Scope}{G:Prop}(h:rh sc=true)(k:sc.isCoroutine=false->sc.isGenerator=false->sc.kind= .function->vE sc=true->G):G:=
 bz h λh s4=>bz h λh s3=>bz h λs1 s2=>k (Bool.not_eq_true' _|>.mp s1) (Bool.not_eq_true' _|>.mp s2) (eq_of_beq s3) s4
def BQ{h:Heap}{φ:Ph}{sc:Scope}(f:ye sc=true):qb h φ sc [] []:=
 ⟨λ_ _ e=>(nomatch e),λ_ e=>absurd (List.all_eq_true.mp f _ (mem_of_lookup e):(NameKind.free !=NameKind.free)=true) g0,λ_ _ _ e=>(nomatch e),λ_ _ e=>(nomatch e),λ_ _ e=>(nomatch e)⟩
def BR{K:W.Frag}{fd:FuncData}{G:Prop}(h:kY K fd=true)(k:fd.globals=mainGlobals->fd.builtins=builtinsNs->fd.closure=[]->W.codeIn K fd.code fd.qualname=true->rh fd.scope=true->ye fd.scope=true->G):G:=
 bz h λh f6=>bz h λh f5=>bz h λh f4=>bz h λh f3=>bz h λf1 f2=>k (eq_of_beq f1) (eq_of_beq f2) (List.isEmpty_iff.mp f3) f4 f5 f6
abbrev Hn:FuncBody->Option (List Stmt)
 | .stmts b=>some b
 |_=>none
abbrev defsIn(K:W.Frag)(v:Value):Option (List Value):=if v.ctorIdx=0 then some []else(mO v).bind λT=>(K.lookup T).bind λo=>(z7 o.data).map λq=>q.1.toList
noncomputable abbrev Runner:=Scope->List Stmt->ab->M (ab×Fl)
abbrev ri(X:Runner)(fd:FuncData)(ds:List V)(kC:ab)(vs:List V)(aC:List (Str×V)):M V:=do
 let body<-bJ (Hn fd.body)
 let bT<-bJ (iN fd.params ds vs aC)
 if(bT.all λp=>cR fd.scope p.1)=true then do
  let q<-X fd.scope body (bT.reverse++kC)
  bJ (dF q.2)
 else au
abbrev oo(K:W.Frag)(X:Runner)(g:Addr)(vs:List V)(aC:List (Str×V)):M V:=do
 let fd<-bJ (fM K g)
 if kY K fd=true then do
  let ds<-bJ (defsIn K fd.defaults)
  ri X fd (ds.map toV) [] vs aC
 else au
abbrev mx(K:W.Frag)(w:World)(A:Around)(X:Runner):Prop:=∀sc body Y env,dX sc env->∀J,St K w A Y sc env (execs body env) J (X sc body J)
end
section
variable{Y Z m x:List Addr}{K:W.Frag}{w:World}{A:Around}{sc:Scope}{env:Env}{J:ab}{φ:Ph}{O aa:Hp}{s:Shared}{F:aG}{X:Runner}
def BS{g:Addr}{fd:FuncData}(e:fM K g=some fd):∃d sl,K.lookup g=some ⟨.type "function",d,.func fd,sl⟩:=by
 show aj (dj e) λo h1 h=>?_;show aI (nN h) λh2 h=>?_;show gk _ _ (h1.trans (aJ some (sH (sG h2) (M1 h))))
def yf{d:Value}{ds:List Value}{E:Value->Shared->Prop}{Q:Option (Array Value)->Shared->Prop}(b:cO K φ s.heap)(e:defsIn K d=some ds)(h:∀o:Option (Array Value),(o.getD #[]).toList=ds->Q o s):wpAny (Mo w) A (seqItems? d) Q E s:=by
 unfold defsIn at e;by_cases q:d.ctorIdx=0
 ·rw[az q]at e
  cases e;show(Value.none.elim (motive:=λd=>d= .none) d q rfl)▸(ax (aW (aW (h _ rfl))))
 ·rw[aN q]at e
  show aj (dj e) λT h1 e=>?_;show aj (dj e) λo h2 e=>?_;show aj (eo e) λes h3 h4=>?_;show(Eq.symm (uu h1))▸(wpAny_seqItems (b.k _ _ h2) (E5 h3) (h _ h4))
def Ho{a:Addr}{o:Obj}{fd:FuncData}{kC:ab}{ds vs:List V}{dc cs:List Value}{aC:List (Str×V)}{bo:List (Str×Value)}{v:V}(gQ:A.depth<recursionLimit)(r:aX w φ O s.heap)(b:cO K φ s.heap)
  (ho:s.heap.get? a=some o) (hd:o.data= .func fd) (vF:fd.globals=mainGlobals) (vG:fd.builtins=builtinsNs) (iW:s.heap.CodeRec fd.code fd.qualname) (gE:rh fd.scope=true)
  (vH:∀(E:Value->Shared->Prop) (Q:Option (Array Value)->Shared->Prop),(∀o,(o.getD #[]).toList=dc->Q o s)->wpAny (Mo w) A.in1 (seqItems? fd.defaults) Q E s) (kX:aD s.heap φ ds dc) (pv:aD s.heap φ vs cs) (pk:hH s.heap φ aC bo)
  (hc:qb s.heap φ fd.scope fd.closure kC) (hX:∀env,mx K w (A.deeper env) X) (e:ri X fd ds kC vs aC O=some (v,aa)):
  codeAny (Mo w) A (.call (.ref a) ⟨cs,bo⟩) (kN [] w φ s v aa) s:=by
 symm
 show aj (jQ e) λbody h1 e=>?_;show aj (jQ e) λbT h2 e=>?_;show aI (fO e) λh3 e=>?_;show br (cy e) λq ag e1 e2=>?_;show aI (lD e2) λe3 e4=>?_;dsimp only at e3 e4;subst e4;show BP gE λs1 s2 s3 s4=>?_;left;have qc:fd.body= .stmts body:=by
  cases hb:fd.body<;>rw[hb]at h1<;>cases h1;rfl
 show QV gQ r b ho hd qc vF vG iW s1 s2 s3 s4 vH kX pv pk h2 h3 hc (λY env he J=>hX env fd.scope body Y env (λx=> .inl (by rw[<-he];rfl)) J) e1 e3
def Hq{g:Addr}{vs:List V}{cs:List Value}{aC:List (Str×V)}{bo:List (Str×Value)}{v:V}(gQ:A.depth<recursionLimit)(r:aX w φ O s.heap)(b:cO K φ s.heap)(pv:aD s.heap φ vs cs)(pk:hH s.heap φ aC bo)
  (hX:∀env,mx K w (A.deeper env) X) (e:oo K X g vs aC O=some (v,aa)):codeAny (Mo w) A (.call (.ref g) ⟨cs,bo⟩) (kN [] w φ s v aa) s:=by
 symm
 show aj (jQ e) λfd oq e=>?_;show fg (BS oq) λd sl hk=>?_;show aI (fO e) λh1 e=>?_;show aj (jQ e) λds QZ e=>?_;show BR h1 λf1 f2 f3 f4 f5 f6=>?_;left;show Ho gQ r b (b.k _ _ hk) rfl f1 f2 (W.codeRec_of b.k f4) f5 (λE Q h=>yf b QZ h) (Hm ds) pv pk (f3.symm▸BQ f6) hX e
abbrev BU(sc:Scope)(l:List V):Bool:=rh sc&&decide ((sc.names.filterMap λx=>if x.2== .free then some x.1 else none)=oN.reverse)&&decide (l.length=2)
abbrev Hr(X:Runner)(l:List V)(vs:List V)(aC:List (Str×V)):M V:=do
 let q<-bJ sF
 if BU q.2.2 l=true then do
  let bT<-bJ (iN q.1 [] vs aC)
  if(bT.all λp=>cR q.2.2 p.1)=true then do
   let r<-X q.2.2 q.2.1 (bT.reverse++oN.zip l)
   bJ (dF r.2)
  else au
 else au
def Q0{h:Heap}{sc:Scope}{a1 a2:Addr}{c1 c2:Value}{v1 v2:V}(hs:rh sc=true)(hf:(sc.names.filterMap λx=>if x.2== .free then some x.1 else none)=oN.reverse)(eI:a1≠a2)
  (h1:φ.Out a1) (g1:h.IsCell a1 (some c1)) (h2:φ.Out a2) (g2:h.IsCell a2 (some c2)) (p1:ao h φ v1 c1) (p2:ao h φ v2 c2):
  qb h φ sc [("text",a1),("place",a2)] (oN.zip [v1,v2]):=by
 replace hs:vE sc=true:=bz hs λ_ h=>h
 have yg:∀y,y∈oN->sc.names.lookup y=some .free:=λy hy=>by
  have:y∈sc.names.filterMap λx=>if x.2== .free then some x.1 else none:=by rw[hf];show List.mem_reverse.mpr hy
  obtain⟨⟨z,k⟩,hz,he⟩:=List.mem_filterMap.mp this;by_cases hk:(k==NameKind.free)=true
  ·rw[az hk]at he;cases he;rw[dN hk]at hz;show(λx k hx=>dN (List.all_eq_true.mp hs _ hx):∀x k,(x,k)∈sc.names->sc.names.lookup x=some k) _ _ hz
  ·rw[aN hk]at he;cases he
 have Q1:=λy hy=>by
  have:y∈sc.names.filterMap λx=>if x.2== .free then some x.1 else none:=List.mem_filterMap.mpr ⟨(y,.free),mem_of_lookup hy,by simp⟩;rw[hf]at this;show List.mem_reverse.mp this
 have look:∀{α:Type} (y:Str) (a b r:α),[(("text":Str),a),(("place":Str),b)].lookup y=some r->(y="text"/\r=a)\/(y="place"/\r=b):=λy a b r e=>by
  rw[di]at e;by_cases q:(y==("text":Str))=true
  ·rw[q]at e;cases e;show .inl ⟨dN q,rfl⟩
  ·rw[Bool.eq_false_iff.mpr q,di]at e
   by_cases q:(y==("place":Str))=true
   ·rw[q]at e;cases e;show .inr ⟨dN q,rfl⟩
   ·rw[Bool.eq_false_iff.mpr q]at e;simp at e
 have t1:∀{α:Type} (a b:α),[(("text":Str),a),(("place":Str),b)].lookup ("text":Str)=some a:=λa b=>by simp
 have t2:∀{α:Type} (a b:α),[(("text":Str),a),(("place":Str),b)].lookup ("place":Str)=some b:=λa b=>by
  rfl
 show⟨λy a e=>?_,λy e=>?_,λy z a e1 e2=>?_,λy a e=>?_,λy v e=>?_⟩
 ·rcases look y a1 a2 a e with⟨rfl,_⟩|⟨rfl,_⟩
  ·show yg _ (.head _)
  ·show yg _ (.tail _ (.head _))
 ·have:=Q1 y e
  rcases cj this with rfl|this
  ·show⟨a1,t1 a1 a2⟩
  ·rcases cj this with rfl|this
   ·show⟨a2,t2 a1 a2⟩
   ·cases this
 ·rcases look y a1 a2 a e1 with⟨rfl,rfl⟩|⟨rfl,rfl⟩<;>rcases look z _ _ _ e2 with⟨rfl,q⟩|⟨rfl,q⟩
  ·rfl
  ·show absurd q eI
  ·show absurd q.symm eI
  ·rfl
 ·rcases look y a1 a2 a e with⟨rfl,rfl⟩|⟨rfl,rfl⟩
  ·show⟨h1.1,_,g1⟩
  ·show⟨h2.1,_,g2⟩
 ·rcases look y v1 v2 v e with⟨rfl,rfl⟩|⟨rfl,rfl⟩
  ·show⟨yg _ (.head _),a1,c1,t1 a1 a2,g1,p1⟩
  ·show⟨yg _ (.tail _ (.head _)),a2,c2,t2 a1 a2,g2,p2⟩
def BV{α:Type}{l:List α}(h:l.length=2):∃a b,l=[a,b]:=by
 induction l with
 |nil=>show Nat.noConfusion h
 |cons a l=>
  induction l with
  |nil=>show Nat.noConfusion (Nat.succ.inj h)
  |cons b l=>
   induction l with
   |nil=>show gk a b rfl
   |cons c l=>show Nat.noConfusion (Nat.succ.inj (Nat.succ.inj h))
def BW{α:Type}{l:List α}(h:l.length=3):∃a b c,l=[a,b,c]:=by
 induction l with
 |nil=>show Nat.noConfusion h
 |cons a l _=>show fg (BV (Nat.succ.inj h)) λb c hr=>⟨a,b,c,aJ (a::·) hr⟩
def rj{P:Nat->Prop}(n:Nat)(h:∀k,k<n->P k)(hn:P n)(k:Nat)(hk:k<n+1):P k:=(Nat.lt_succ_iff_lt_or_eq.mp hk).elim (h k) λe=>e▸hn
def yh{P:Nat->Prop}(h0:P 0)(h1:P 1)(h2:P 2)(h3:P 3):∀k,k<4->P k:=rj 3 (rj 2 (rj 1 (rj 0 (λk h=>absurd h (Nat.not_lt_zero k)) h0) h1) h2) h3
def Hs{P:Nat->Prop}(h0:P 0)(h1:P 1)(h2:P 2)(h3:P 3)(h4:P 4)(h5:P 5)(h6:P 6):∀k,k<7->P k:=rj 6 (rj 5 (rj 4 (yh h0 h1 h2 h3) h4) h5) h6
def Q2{l vs:List V}{cf:Value}{cs:List Value}{aC:List (Str×V)}{bo:List (Str×Value)}{v:V}(gQ:A.depth<recursionLimit)(r:aX w φ O s.heap)(b:cO K φ s.heap)(pf:ao s.heap φ (.fK l) cf)(pv:aD s.heap φ vs cs)(pk:hH s.heap φ aC bo)
  (hX:∀env,mx K w (A.deeper env) X) (e:Hr X l vs aC O=some (v,aa)):codeAny (Mo w) A (.call cf ⟨cs,bo⟩) (kN [] w φ s v aa) s:=by
 symm
 obtain⟨a,cc,rfl,_,⟨o,fd,k,oc,q⟩,pl⟩:=pf;obtain⟨⟨p,body,sc⟩,hp,e⟩:=jQ e;show aI (fO e) λh1 e=>?_;show aj (jQ e) λbT h2 e=>?_;show sD q.read.parts λargs abi bS qd q1 q2 q3=>?_;rw[hp]at qd;cases qd;simp only[BU,Bool.and_eq_true,decide_eq_true_eq]at h1;obtain⟨⟨hs,hf⟩,hl⟩:=h1;obtain⟨v1,v2,rfl⟩:∃v1 v2,l=[v1,v2]:=by
  show BV hl
 show ck (Bw pl) λc1 c2 ay p1 p2=>?_;subst ay;obtain⟨a1,a2,lH⟩:∃a1 a2,fd.closure=[(("text":Str),a1),(("place":Str),a2)]:=by
  have hn:=q.read.names;show fg (BV (q.len)) λx y hc=>?_;rw[hc]at hn;show gk x.2 y.2 (hc.trans (by rw[show x=(("text":Str),x.2)from Prod.ext (List.cons.inj hn).1 rfl,show y=(("place":Str),y.2)from Prod.ext (List.cons.inj (List.cons.inj hn).2).1 rfl]))
 have eI:a1≠a2:=by
  have:=q.read.apart;rw[lH]at this;simpa using this
 obtain⟨k1,Q3,g1,Q4⟩:=q.cells 0 ("text",a1) c1 (by rw[lH];rfl) rfl;obtain⟨k2,Q5,g2,Q6⟩:=q.cells 1 ("place",a2) c2 (by rw[lH];rfl) rfl;left;have rk:qb s.heap φ fd.scope fd.closure (oN.zip [v1,v2]):=by
  simp only[lH,q3];show Q0 hs hf eI k1 (aA Q3 g1 Q4) k2 (aA Q5 g2 Q6) p1 p2
 have iW:s.heap.CodeRec fd.code fd.qualname:=by
  show br q.cdata λvs tq d1 d2=>?_;show EY k oc vs tq q.read.code q.E2 d1 d2
 show Ho (ds:=[]) (dc:=[]) (kC:=oN.zip [v1,v2]) (X:=X) gQ r b q.get q.data q.read.glob q.read.nL iW (q3▸hs) (λE Q h=>?_) nc pv pk rk hX ?_
 ·show(Eq.symm (q.read.defs))▸(yf (K:=K) b (by rfl) h)
 ·unfold ri
  rw[q2,q1,q3];rw[h2];show e
abbrev rm(K:W.Frag)(X:Runner)(C:Addr)(vs:List V)(aC:List (Str×V)):M V:=do
 let fI<-bJ ((qY K C "__init__").bind λf=>if W.makesIn K C=true/\W.typeIn K (.ref f)=some (.type "function")then some f else none)
 let j<-(λO=>some (O.length,O++[.attrs [],.inst C O.length]):M Nat)
 let r<-oo K X fI (.ref (j+1)::vs) aC
 match r with
 | .none=>pure (.ref (j+1))
 |_=>au
def hH.step{aB:Ph}{s':Shared}{aC:List (Str×V)}{bo:List (Str×Value)}(p:hH s.heap φ aC bo)(x:Step φ s aB s'):hH s'.heap aB aC bo:=⟨p.1,p.2.step x⟩
def Q7{C:Addr}{vs:List V}{cs:List Value}{aC:List (Str×V)}{bo:List (Str×Value)}{v:V}(gQ:A.depth+1<recursionLimit)(r:aX w φ O s.heap)(b:cO K φ s.heap)(pv:aD s.heap φ vs cs)(pk:hH s.heap φ aC bo)
  (hX:∀env,mx K w ((A.under (.builtin "type.__call__" ⟨.ref C::cs,bo⟩)).deeper env) X) (e:rm K X C vs aC O=some (v,aa)):codeAny (Mo w) A (.call (.ref C) ⟨cs,bo⟩) (kN [] w φ s v aa) s:=by
 symm
 show aj (jQ e) λfI Q8 e=>?_;have hf:W.findIn K (.ref C) "__init__"=some (some (.ref fI))/\W.makesIn K C=true/\W.typeIn K (.ref fI)=some (.type "function"):=by
  show aj (dj Q8) λg hg h=>?_;show aI (fi h) λht h=>?_;cases bN h;show⟨Bm hg,ht⟩
 show iS hf λhi hm ht=>?_;show br (cy e) λj ag e1 e=>?_;cases e1;show br (cy e) λu aH e2 e=>?_;have hu:u= .none/\v= .ref (O.length+1)/\aa=aH:=by
  cases u<;>first|(show cW rfl (dh (fh e)).1 (dh (fh e)).2)|show jI e
 show iS hu λbY aF ay=>?_;subst bY;subst aF;subst ay;have fresh:s.heap.get? s.heap.objs.size=none:=fj.push (o:={cls:= .none}) _ `S;have r1:aX w (φ.grow [s.heap.objs.size]) (O++[.attrs []]) (s.heap.push W.emptyDict):=r.push fresh (er (h:=s.heap) W.emptyDict) ⟨_,(dT _ rfl:(s.heap.push W.emptyDict).get? s.heap.objs.size=some W.emptyDict)⟩ (cF ([]) 0 (dT _ rfl:(s.heap.push W.emptyDict).get? s.heap.objs.size=some W.emptyDict) ⟨Nat.le_refl _,λe he=>by simp at he⟩ (λx=>by simp));have Ht:(s.heap.push W.emptyDict).get? (s.heap.push W.emptyDict).objs.size=none:=fj.push (o:={cls:= .none}) _ `S;have r2:=r1.push (ob:= .inst C O.length) (a:=(s.heap.push W.emptyDict).objs.size) Ht (er (h:=s.heap.push W.emptyDict) (W.instObj C s.heap.objs.size)) ⟨_,(dT _ rfl:((s.heap.push W.emptyDict).push (W.instObj C s.heap.objs.size)).get? (s.heap.push W.emptyDict).objs.size=some (W.instObj C s.heap.objs.size))⟩ (aA s.heap.objs.size (pM (sQ r:(φ.grow [s.heap.objs.size]).m[O.length]? =some s.heap.objs.size)) (dT _ rfl:((s.heap.push W.emptyDict).push (W.instObj C s.heap.objs.size)).get? (s.heap.push W.emptyDict).objs.size=some (W.instObj C s.heap.objs.size)));have yi:=(a0.grown (tk:=s.toks) fresh (er (h:=s.heap) W.emptyDict):Step φ s (φ.grow [s.heap.objs.size]) {s with heap:=s.heap.push W.emptyDict}).trans (a0.grown (s:={s with heap:=s.heap.push W.emptyDict}) (tk:=s.toks) Ht (er (h:=s.heap.push W.emptyDict) (W.instObj C s.heap.objs.size)));have g2:((φ.grow [s.heap.objs.size]).grow [(s.heap.push W.emptyDict).objs.size]).m[O.length+1]? =some (s.heap.objs.size+1):=by
  have:=sQ (s:={s with heap:=s.heap.push W.emptyDict}) (a:=(s.heap.push W.emptyDict).objs.size) r1;simp only[List.length_append,List.length_singleton]at this;rw[this,(Heap.size_push ..)]
 simp only[List.append_assoc]at r2;obtain⟨hh,gg,dd,tt,os⟩:=s;left;show W.make_core (W.makes_of b.k hm) (W.looks_findIn b.k hi) (λself=>W.bind_fn b.k self ht) (.inl rfl) ?_;show codeAny_mono (Hq (s:=⟨(hh.push W.emptyDict).push (W.instObj C hh.objs.size),gg,dd,tt,os⟩) (vs:= .ref (O.length+1)::vs) (aC:=aC) (v:= .none) (aa:=aa) (by show gQ) r2 (b.step yi) ?_ (pk.step yi) hX e2) λres s' hr=>?_
 ·change aD _ _ _ _
  show cF _ _ rfl (by delta ao;show aA _ rfl g2) (pv.step yi)
 ·show dg hr λc aB ay x3 r3 p3=>?_;subst ay
  subst p3;show⟨rfl,_,aB,rfl,yi.trans x3,r3,?_⟩;show aA _ rfl (x3.get _ _ g2)
set_option tactic.hygienic true in
def Q9{h:Heap}{a:Addr}{aC:List (Str×Value)}(ha:h.DictOf (PySem.strKind PG w) a aC)(hl:aC.length<=1):
  ∃o es ep,h.get? a=some o/\o.ExactDict/\o.data= .dict es ep/\((aC=[]/\es= #[])\/∃k c t,aC=[(k,c)]/\es= #[⟨hashStr w k,.str k t,c⟩]):=by
 show ER ha λo es ep h1 h2 h3 h4 h5 h6=>?_;show qB o es ep h1 h2 h3 ?_;obtain⟨el⟩:=es;cases aC with
 |nil=>cases h5;show .inl ⟨rfl,rfl⟩
 |cons p r=>
  induction r with
  |cons _ _=>simp at hl
  |nil=>
   obtain⟨k,c⟩:=p;cases h5 with
   |cons q1 q2 r=>
    cases r;rename_i e;obtain⟨hh,key,val⟩:=e;show aU (Value.isStrOf_shape q1) λt aF=>?_;subst aF;show aj (h4 ⟨hh,.str k t,val⟩ `S) λk' q3 q4=>?_;have:k'=k:=by
     show aU (Value.isStrOf_shape (show Value.isStrOf k' (.str k t)=true from q3)) λu hu=>?_;cases hu;rfl
    subst this;dsimp only at q2 q4;subst q2;show .inr (l9 k' val t rfl (by rw[q4];rfl))
def Ra{a:Addr}{Q:Option Value->Shared->Prop}{E:Value->Shared->Prop}(hT:s.TypeIs (.ref a) "dict")(h:Q (some (.builtin "dict.__iter__")) s):wpAny (Mo w) A (specialOf (.ref a) "__iter__") Q E s:=
 wpAny_specialOf hT F.slot_dict_iter.lookup h
def Rb{d a:Addr}{aC:List (Str×Value)}{Q:Unit->Shared->Prop}{E:Value->Shared->Prop}(hd:s.heap.get? d=some {cls:= .type "dict",data:= .dict #[]})(ha:s.heap.DictOf (PySem.strKind PG w) a aC)(hl:aC.length<=1)(eI:a≠d)(ro:(a==sysModules)=false)
  (h:∀h' es ep,(∀b o,b≠d->s.heap.get? b=some o->h'.get? b=some o)->h'.get? d=some {cls:= .type "dict",data:= .dict es ep}->((aC=[]/\es= #[])\/∃k c t,aC=[(k,c)]/\es= #[⟨hashStr w k,.str k t,c⟩])->Q () {s with heap:=h'}):
  wpAny (Mo w) A (mergeMapping d (.ref a) true) Q E s:=by
 show sD (Q9 ha hl) λo es ep h1 h2 h3 h4=>?_;show ax (wpAny_isInstance ha.typeIs isSubtype_dict_dict ?_);show ax (Ra ha.typeIs (ax (aW ?_)));change wpAny _ _ (if(a==sysModules)=true then _ else _) _ _ _;rw[ro];show ax (wpAny_dictEntries hd rfl ?_);show ax (wpAny_dictEntries h1 h3 ?_)
 symm
 rcases h4 with⟨rfl,rfl⟩|⟨k,c,t,rfl,rfl⟩
 ·left
  rw[<-Array.forIn_toList];show ax (aW ?_);show ax (wpAny_dictEntries h1 h3 ?_);show ax (wpAny_dictEpoch h1 h3 ?_);show ax (aW (aW ?_));show h s.heap #[] 0 (λ_ _ _ e=>e) hd (.inl ⟨rfl,rfl⟩)
 ·left
  rw[<-Array.forIn_toList];show ax (ax (aW (aW ?_)));show ax (wpAny_dictEntries h1 h3 ?_);show ax (wpAny_dictEpoch h1 h3 ?_);have hr:List.range (#[({hash:=hashStr w k,key:= .str k t,val:=c}:DictEntry)]).size=[0]:=rfl;simp only[hr];simp only[List.forIn_cons,List.forIn_nil];show ax (ax (ax (wpAny_dictEntries h1 h3 ?_)));have he:(#[({hash:=hashStr w k,key:= .str k t,val:=c}:DictEntry)])[0]? =some {hash:=hashStr w k,key:= .str k t,val:=c}:=rfl;rw[he];have find:∀{Q:Option Nat->Shared->Prop},Q none s->wpAny (Mo w) A (dictFind d (.str k t) (hashStr w k)) Q E s:=λ{Q} q=>
   wpAny_dictFind_of (knd:=PySem.strKind PG w) (k:=k) (by change Value.isStrOf k (.str k t)=true;unfold Value.isStrOf;simp:(PySem.strKind PG w).is k (.str k t)=true) hd rfl (λe he=>by simp at he) (by simpa using q)
  show ax (eM (ax (find ?_)));show ax (find (wpAny_updateDictKeys hd rfl ?_));have key:(s.heap.update d (Obj.mapDictKeys (·.push ⟨hashStr w k,.str k t,c⟩))).get? d=some {cls:= .type "dict",data:= .dict #[⟨hashStr w k,.str k t,c⟩] 1}:=Heap.get?_update_self _ hd rfl;have kk:∀b o,b≠d->s.heap.get? b=some o->(s.heap.update d (Obj.mapDictKeys (·.push ⟨hashStr w k,.str k t,c⟩))).get? b=some o:=λb o hb e=>(Heap.get?_update_ne _ _ _ _ hb).trans e;show ax (wpAny_dictEpoch (kk a o eI h1) h3 ?_);simp only[bne_self_eq_false,Bool.false_eq_true,if_false];show aW (aW (aW (h _ _ _ kk key (.inr (l9 k c t rfl rfl)))))
abbrev rp(d:V):M (List (Str×V)):=λO=>match d with
 | .ref j=>match O[j]?with
  |some (.dict l)=>if l.length<=1 then some (l,O)else none
  |_=>none
 |_=>none
def words_of{l:List (Str×V)}{aC:List (Str×Value)}{h:Heap}(hl:l.length<=1)(hk:aC.length<=l.length)(q:∀x,match l.lookup x with
  |some v=>∃c,valueAt aC x=some c/\ao h φ v c
  |none=>valueAt aC x=none):hH h φ l aC:=by
 cases l with
 |nil=>cases List.eq_nil_of_length_eq_zero (Nat.le_zero.mp hk);show⟨rfl,nc⟩
 |cons p r=>
  cases List.eq_nil_of_length_eq_zero (Nat.le_zero.mp (Nat.le_of_succ_le_succ hl));obtain⟨k,v⟩:=p;have:=q k;simp only[di,beq_self_eq_true]at this;show aj this λc h1 h2=>?_;clear q hl;cases aC with
  |nil=>cases h1
  |cons p r=>
   cases List.eq_nil_of_length_eq_zero (Nat.le_zero.mp (Nat.le_of_succ_le_succ hk));obtain⟨k',c'⟩:=p;have h1:Option.map (·.2) (match decide (k'=k)with|true=>some (k',c')|false=>none)=some c:=h1;cases e:decide (k'=k)with
   |true=>
    rw[e]at h1;cases of_decide_eq_true e;cases h1;show⟨rfl,all1 h2⟩
   |false=>
    rw[e]at h1;cases h1
def Rc{cf:Value}{f:V}{first:List Value}{args:List (Bool×Sem Value)}{t:Sem Value}{pos:Pos}{Q:Value->Shared->Prop}{E:Value->Shared->Prop}(hk:gq K f=true)
  (h:wpAny (Mo w) A (evalArgs cf true args (backToKw pos [(none,t)])) (λa aw=>(∃φ,K.In aw.heap/\ao aw.heap φ f cf)/\wpAny (Mo w) A (call cf (first++a.pos) a.kw) Q E aw) E s):wpAny (Mo w) A (callWith pos cf first args (backToKw pos [(none,t)])) Q E s:=by
 show ax (eM (bg h (λa aw fE=>ax (wpAny_standAt ?_)) λ_ _ x=>x))
 symm
 obtain⟨⟨φ,X,p⟩,hq⟩:=fE;show aj (FK (w:=w) hk _ X p) λk AG L=>?_;left;have BX:(args.any (·.1)||(backToKw pos [((none:Option Str),t)]).any (·.1.isNone))=true:=by
  change(args.any (·.1)||true)=true;rw[Bool.or_true]
 rw[BX];show ax (L.here ?_);have tail:∀{t:Sem Value},wpAny (Mo w) A t Q E aw->wpAny (Mo w) A (t>>=λr=>holding [r] point>>=λ_=>pure r) Q E aw:=
  λht=>ax (bg ht (λr a8 hr=>ax (eM (wpAny_point (aW hr)))) λ_ _ x=>x)
 rcases AG with rfl|rfl|rfl
 ·show tail (by show Calls.wpAny_keep hq)
 ·show tail (wpAny_operate' hq)
 ·show tail (wpAny_operate' hq)
noncomputable abbrev rq:Obj:={cls:= .type "dict",data:= .dict #[]}
abbrev Hu(w:World)(aC:List (Str×Value))(es:Array DictEntry):Prop:=(aC=[]/\es= #[])\/∃k c t,aC=[(k,c)]/\es= #[⟨hashStr w k,.str k t,c⟩]
def Rd{x:Sem Value}{cf:Value}{Q:Addr->Shared->Prop}{E:Value->Shared->Prop}(h:wpAny (Mo w) A x (λcd eY=>∃a aC,cd= .ref a/\eY.heap.get? s.heap.objs.size=some rq/\eY.heap.DictOf (PySem.strKind PG w) a aC/\aC.length<=1/\a≠s.heap.objs.size/\(a==sysModules)=false/\
   ∀h' es ep,(∀b o,b≠s.heap.objs.size->eY.heap.get? b=some o->h'.get? b=some o)->h'.get? s.heap.objs.size=some {cls:= .type "dict",data:= .dict es ep}->Hu w aC es->Q s.heap.objs.size {eY with heap:=h'}) E {s with heap:=s.heap.push rq}):
  wpAny (Mo w) A (mergedKeywords cf [(none,x)]) Q E s:=by
 show ax (wpAny_alloc (ax (eM ?_)));show ax (E8 (ax (aW (a:=()) (ax (bg h (λcd eY q=>?_) λ_ _ x=>x)))));show uk q λa aC ay hd dk dl eI ro hQ=>?_;subst ay;show ax (wpAny_onRaise (eM (wpAny_tryCatch (wpAny_onRaise (Rb hd dk dl eI ro (λh' es ep k5 g5 sh=>aW ?_))))));show Ab (aW (a:=()) (aW (hQ h' es ep k5 g5 sh)))
def Rf{d:Addr}{cf:Value}{aC:List (Str×Value)}{es:Array DictEntry}{ep:Nat}{Q:List (Str×Value)->Shared->Prop}{E:Value->Shared->Prop}(g:s.heap.get? d=some {cls:= .type "dict",data:= .dict es ep})(sh:Hu w aC es)(h:Q aC s):wpAny (Mo w) A (keywordsIn cf d) Q E s:=by
 show ax (wpAny_dictEntries g rfl ?_);rw[<-Array.forIn_toList]
 symm
 rcases sh with⟨rfl,rfl⟩|⟨k,c,t,rfl,rfl⟩
 ·left
  show ax (Ab (aW h))
 ·left
  show ax (E8 (aW (Ab (aW h))))
def Rg{x:Sem Value}{cf:Value}{ts:List (Sem Value)}{pos:Pos}{Q:Args->Shared->Prop}{E:Value->Shared->Prop}(h:wpAny (Mo w) A (spliced (backTo pos (ts.map λt=>(false,t)))) (λcs a8=>wpAny (Mo w) A x (λcd eY=>∃a aC,cd= .ref a/\eY.heap.get? a8.heap.objs.size=some rq/\eY.heap.DictOf (PySem.strKind PG w) a aC/\aC.length<=1/\a≠a8.heap.objs.size/\(a==sysModules)=false/\
   ∀h',(∀b o,b≠a8.heap.objs.size->eY.heap.get? b=some o->h'.get? b=some o)->Q ⟨cs,aC⟩ {eY with heap:=h'}) E {a8 with heap:=a8.heap.push rq}) E s):
  wpAny (Mo w) A (evalArgs cf true (backTo pos (ts.map λt=>(false,t))) [(none,x)]) Q E s:=by
 have sel:∀{jp:List Value×Option Value->Sem Args},wpAny (Mo w) A (do let l<-spliced (backTo pos (ts.map λt=>(false,t)));jp (l,none)) Q E s->
   wpAny (Mo w) A (match true,backTo pos (ts.map λt=>(false,t))with|true,[(true,x)]=>do{let d<-x;let y<-pure ([],some d);jp y}|_,_=>do{let l<-spliced (backTo pos (ts.map λt=>(false,t)));let y<-pure (l,none);jp y}) Q E s:=by
  intro jp h;cases ts with
  |nil=>show h
  |cons a r=>induction r<;>show h
 show sel (ax (bg h (λcs a8 q=>eM (qF rfl (ax (Rd (bg q (λcd eY q=>?_) λ_ _ x=>x))))) λ_ _ x=>x));show uk q λa aC e hd dk dl eI ro hQ=>?_;show zY a aC e hd dk dl eI ro (λh' es ep k5 g5 sh=>ax (aW (ax (eM (Rf (s:={eY with heap:=h'}) g5 sh (aW (hQ h' k5)))))))
set_option tactic.hygienic true in
def Rh{d:V}{aC:List (Str×V)}{O aa:Hp}(e:rp d O=some (aC,aa)):∃j,d= .ref j/\O[j]? =some (.dict aC)/\aC.length<=1/\aa=O:=by
 cases d<;>first|(cases e;done)|skip
 rename_i j;unfold rp at e;dsimp only at e;cases h:O[j]?with
 |none=>rw[h]at e;cases e
 |some o=>
  rw[h]at e;induction o<;>first|(cases e;done)|skip
  show aI (fi e) λhl e=>?_;apply g4 (bN e);show dw j rfl h hl rfl
def Ri(hF:gO K w A F){f e:Expr}{args:List Expr}{ev:Expr->M V}{pos kp:Pos}(hp:AB f=true)(hs:args.all jr=true)
  (hf:Ev K w A env J (eval f env) (ev f)) (ha:∀e∈args,Ev K w A env J (eval e env) (ev e)) (he:Ev K w A env J (eval e env) (ev e)):
  Ev K w A env J (eval (.Call f args [⟨none,e,kp⟩] pos) env) (do let v<-ev f;if gq K v=true then(do let vs<-dR (args.map ev);let d<-ev e;let aC<-rp d;F v vs aC)else au):=by
 intro φ O s n;have jR:eval (.Call f args [⟨none,e,kp⟩] pos) env=(do callWith pos (<-eval f env) [] (backTo pos (starEach args env)) (backToKw pos [(none,eval e env)])):=by
  cases f<;>first|rfl|show absurd hp g0
 simp only[jR];show .bind (hf φ O s n) λba ag aw cf v aP aS pf=>?_;have n₁:=n.step aP aS;intro u aa e'
 symm
 show aI (fO e') λhk e'=>?_;show br (cy e') λvs aH e1 e'=>?_;show br (cy e') λdv cI e2 e'=>?_;show br (cy e') λaC oX e3 e4=>?_;show ku (Rh e3) λj Rj hj hl bB=>?_;left;show Rc hk ?_;show fN λQ hQ=>?_;have sp:=uL (uO (pos:=pos) hs ha) ba ag aw n₁ vs aH e1;rw[sP hs,show(args.map λe=>(false,eval e env))=(args.map λe=>eval e env).map λt=>(false,t)from by simp only[List.map_map];rfl]at sp|-;show Rg (bg sp (λcs a8 c0=>?_) λ_ _ x=>x);show bK c0 λcB bu ct pv=>?_;have dK:=n₁.step bu ct;have c9:Step cB a8 cB {a8 with heap:=a8.heap.push rq}:=Step.heap (tk:=a8.toks) (er _);have fresh:a8.heap.get? a8.heap.objs.size=none:=fj.push (o:={cls:= .none}) _ (List.mem_singleton.mpr rfl);have dm:a8.heap.objs.size∉cB.m:=λq=>by show aU (ct.live _ q) λo e=>?_;rw[fresh]at e;cases e
 have hd:(a8.heap.push rq).get? a8.heap.objs.size=some rq:=dT _ rfl;show bg (FN (k:=⟨none,e,kp⟩) (pos:=pos) he cB aH _ (dK.step c9 (ct.keeps (er _))) _ _ e2) (λcd eY kA=>?_) λ_ _ x=>x;show bK kA λp7 fc mS pd=>?_;rw[Rj]at pd;clear kA;show aj pd λa aF ha=>?_;subst aF;show bK (mS.objs j a _ ha hj) λbo dk dl dq=>?_;have Hv:=fc.keep _ _ hd dm (λq=>(nomatch q));have Hw:a8.heap.objs.size∉p7.m:=λq=>by
  show aj fc.grow λψ e hn=>?_;rw[e]at q;rcases gN q with q|q
  ·show dm q
  ·simp only[hn _ q]at hd;cases hd
 have am:=gZ ha;show zY a bo rfl Hv dk (a9 dl hl) (λq=>Hw (q▸am)) ?_ (λh' k5=>?_)
 ·rw[beq_eq_false_iff_ne]
  show λq=>(dK.base.step (c9.trans fc)).Aa.1.1 (q▸am)
 have Hx:∀b o,eY.heap.get? b=some o->ma o->b≠a8.heap.objs.size:=λb o e f q=>by
  simp only[q,Hv]at e;cases e;show f
 have mv:Step cB a8 p7 {eY with heap:=h'}:=(c9.trans fc).Bc (tk:=eY.toks) fresh k5;have s8:=mS.gA (λb o e ho=>k5 b o (λq=>by
  rcases ho with ho|⟨_,ho⟩
  ·show Hw (q▸ho)
  ·show Hx b o e ho q) e) λb hb=>by
   show aU (mS.iU b hb) λo e=>?_;show⟨o,k5 b o (λq=>?_) e⟩;rw[fc.x]at hb;show aU (ct.iU _ hb) λo e=>?_;simp only[q,fresh]at e;cases e
 show hQ ⟨cs,bo⟩ {eY with heap:=h'} ⟨(aA p7 ((dK.base.step mv).k) ((pf.step bu).step mv)),?_⟩;show bg (gO.call (s:={eY with heap:=h'}) hF s8 (dK.base.step mv) ((pf.step bu).step mv) (pv.step mv) ⟨(words_of hl dl dq).1,aD.mono (λb o e ho f=>⟨k5 b o (Hx b o e f) e,ho⟩:iH p7 p7 eY.heap h') (λ_ _ e=>e) _ _ (words_of hl dl dq).2⟩ u aa (bB▸e4)) (λc s' q=>let⟨aB,x',r',q⟩:=q;(bj aB ((bu.trans mv).trans x') r' q)) λ_ _ x=>x
def Hy{jW nf:List Str}{f:Str×Value->List (Str×Value)×List (Str×Value)->Sem (ForInStep (List (Str×Value)×List (Str×Value)))}
  (hf:∀k v slots ex,(jW.contains k||nf.contains k)=false->f (k,v) (slots,ex)=pure (.yield (slots,ex++[(k,v)]))):
  ∀{l:List (Str×Value)} {slots ex},(l.all λp=>!(jW.contains p.1||nf.contains p.1))=true->forIn l (slots,ex) f=pure (slots,ex++l)
 |[],_,_,_=>by simp only[List.forIn_nil,List.append_nil]
 |(k,v)::r,slots,ex,h=>by
  show aI (fb (by simpa only[List.all_cons]using h)) λh1 h2=>?_;rw[List.forIn_cons,hf k v slots ex (by simpa using h1)];show Eq.trans (show _=forIn r (slots,ex++[(k,v)]) f from rfl) ?_;rw[Hy hf h2,List.append_assoc];rfl
def Rk{w:World}{A:Around}{E:Value->Shared->Prop}{s:Shared}{dx:Addr}{es:List DictEntry}{n:Nat}{name:Str}{c:Value}{Q:Unit->Shared->Prop}(h3:s.heap.get? dx=some (W.dictOf es n))(hk:∀e∈es,∃x t,e.key= .str x t)(hz:es.length<=900)
  (h:∀h',h'.get? dx=some (W.dictOf (W.putL name (PyData.keyHash w.params name) (.str name s.toks) c es) (W.putN name es n))->(∀b o,b≠dx->s.heap.get? b=some o->h'.get? b=some o)->Q () {s with heap:=h',toks:=s.toks+1}):wpAny (Mo w) A (nsSet dx name c) Q E s:=by
 show ax (ax (wpAny_askSetting (aW (ax (wpAny_mkText (ax (wpAny_loadPart h3 ?_)))))));have qZ:(!es.toArray.any (·.key.isStr name)&&es.toArray.any (·.refKey))=false:=by
  rw[(by rw[<-Array.any_toList];show Bn hk:es.toArray.any (·.refKey)=false),Bool.and_false]
 dsimp only;rw[aRefKeyMayBeTheName_at,qZ];have bV:(W.putL name (PyData.keyHash w.params name) (.str name s.toks) c es).length<=es.length+1:=by
  rw[x4];split<;>simp
 show wpAny_updatePart h3 ?_;show h _ (GN (w:=w) (name:=name) (t:=s.toks) (c:=c) (es:=es) (n:=n) (h:=s.heap) h3) λb o hb e=>(Heap.get?_update_ne _ _ _ _ hb).trans e
def Rl{w:World}{fd:FuncData}{cs:List Value}{bo:List (Str×Value)}{ex:Arg}{defs:List Value}{fG:List (Str×Value)}{A:Around}{E:Value->Shared->Prop}{Q:List (Str×Value)->Shared->Prop}{s:Shared}
  (hd:∀(Q:Option (Array Value)->Shared->Prop),(∀o,(o.getD #[]).toList=defs->Q o s)->wpAny (Mo w) A (seqItems? fd.defaults) Q E s)
  (hex:fd.params.kwarg=some ex) (bV:bo.length<=1) (yj:(bo.all λp=>!((fd.params.args.map (·.arg)).contains p.1||(fd.params.kwonlyargs.map (·.arg)).contains p.1))=true)
  (hb:iN {fd.params with kwarg:=none} defs cs []=some fG)
  (h:∀h' tk es n,(∀b o,s.heap.get? b=some o->h'.get? b=some o)->h'.get? s.heap.objs.size=some {cls:= .type "dict",data:= .dict es n}->((bo=[]/\es= #[])\/∃k c t,bo=[(k,c)]/\es= #[⟨hashStr w k,.str k t,c⟩])->
   Q (fG++[(ex.arg,.ref s.heap.objs.size)]) {s with heap:=h',toks:=tk}):wpAny (Mo w) A (bindArgs fd ⟨cs,bo⟩) Q E s:=by
 show aI (fi hb) λhc hb=>?_;show Hi (ex:=bo) hc.1 hc.2.1 hc.2.2.2 (λP f hP _ h6=>?_) hd hb ?_
 ·show(hP)▸(Hy (λk v sl e q=>h6 (aJ _ (hex)) k v sl e q) yj)
 rw[hex];show Ac (by rw[sizeLine_eq];lia) (ax (wpAny_alloc ?_));clear yj;cases bo with
 |nil=>
  show ax (aW (aW (h _ s.toks #[] 0 (er (h:=s.heap) {cls:= .type "dict",data:= .dict #[]}) (dT _ rfl:(s.heap.push {cls:= .type "dict",data:= .dict #[]}).get? s.heap.objs.size=some {cls:= .type "dict",data:= .dict #[]}) (.inl ⟨rfl,rfl⟩))))
 |cons p r=>
  obtain rfl:r=[]:=List.eq_nil_of_length_eq_zero (Nat.le_zero.mp (Nat.le_of_succ_le_succ bV));rw[List.forIn_cons];show ax (ax (ax (Rk (s:={s with heap:=s.heap.push {cls:= .type "dict",data:= .dict #[]}}) (es:=[]) (n:=0) (dT _ rfl:(s.heap.push {cls:= .type "dict",data:= .dict #[]}).get? s.heap.objs.size=some {cls:= .type "dict",data:= .dict #[]}) (λe he=>by simp at he) `S λh' g' k'=>?_)));show aW ?_;show aW (aW (h h' (s.toks+1) _ _ (λb o e=>k' b o (λq=>?_) ((er (h:=s.heap) {cls:= .type "dict",data:= .dict #[]}) b o e)) g' (.inr (l9 p.1 p.2 s.toks rfl rfl))));rw[q]at e;show absurd (Heap.lt_size e) (Nat.lt_irrefl _)
abbrev te(X:Runner)(fd:FuncData)(vs:List V)(aC:List (Str×V)):M V:=do
 let body<-bJ (Hn fd.body)
 let ex<-bJ fd.params.kwarg
 let base<-bJ (iN {fd.params with kwarg:=none} [] vs [])
 let d<-(λO=>some (O.length,O++[.dict aC]):M Nat)
 if((aC.all λp=>!((fd.params.args.map (·.arg)).contains p.1||(fd.params.kwonlyargs.map (·.arg)).contains p.1))&&decide (aC.length<=1)&&((base++[(ex.arg,V.ref d)]).all λp=>cR fd.scope p.1))=true then do
  let q<-X fd.scope body (base++[(ex.arg,V.ref d)]).reverse
  bJ (dF q.2)
 else au
abbrev jv(K:W.Frag)(X:Runner)(g:Addr)(vs:List V)(aC:List (Str×V)):M V:=do
 let fd<-bJ (fM K g)
 if fd.params.kwarg.isSome=true then(if(kY K fd&&fd.defaults== .none)=true then te X fd vs aC else au)else oo K X g vs aC
def Rm{h:Heap}{a:Addr}{es:Array DictEntry}{n:Nat}{aC:List (Str×V)}{bo:List (Str×Value)}(g:h.get? a=some {cls:= .type "dict",data:= .dict es n})(hl:bo.length<=1)
  (sh:(bo=[]/\es= #[])\/∃k c t,bo=[(k,c)]/\es= #[⟨hashStr w k,.str k t,c⟩]) (p:hH h φ aC bo):nM w h φ (.dict aC) a:=by
 rcases sh with⟨rfl,rfl⟩|⟨k,c,t,rfl,rfl⟩
 ·have:aC=[]:=by
   have:=p.1;simpa using this
  subst this;show bj ([]) ((EV _ _ _ g (cW rfl rfl rfl) rfl (λe he=>by simp at he) .nil List.nodup_nil)) (Nat.le_refl _) (λx=>by rfl)
 ·match aC,p with
  |[(k',v)],p=>
   symm
   show aI p λp1 p2=>?_;simp only[List.map_cons,List.map_nil,List.cons.injEq,and_true]at p1;subst p1;show ck p2 λc' r q1 q2 _=>?_;simp only[List.map_cons,List.map_nil,List.cons.injEq]at q1;show aI q1 λbY _=>?_;subst bY;left;have hk:(PySem.strKind PG w).is k' (.str k' t)=true:=by change Value.isStrOf k' (.str k' t)=true;unfold Value.isStrOf;simp
   show bj ([(k',c)]) ((EV _ _ _ g (cW rfl rfl rfl) rfl (λe he=>?_) (.cons hk rfl .nil) `S)) (Nat.le_refl _) (λy=>?_)
   ·have:e=⟨hashStr w k',.str k' t,c⟩:=by simpa using he
    subst this;show aA k' hk rfl
   ·by_cases hy:y=k'
    ·obtain rfl:=Eq.symm hy
     show(lookup_cons_self)▸(aA c (by simp[valueAt]) q2)
    ·rw[uU hy]
     have:¬k'=y:=λe=>hy e.symm;simp[valueAt,this]
def Rn{a:Addr}{o:Obj}{fd:FuncData}{vs:List V}{cs:List Value}{aC:List (Str×V)}{bo:List (Str×Value)}{v:V}(gQ:A.depth<recursionLimit)(r:aX w φ O s.heap)(b:cO K φ s.heap)
  (ho:s.heap.get? a=some o) (hd:o.data= .func fd) (vF:fd.globals=mainGlobals) (vG:fd.builtins=builtinsNs) (rk:fd.closure=[]) (iW:s.heap.CodeRec fd.code fd.qualname) (gE:rh fd.scope=true) (Ro:ye fd.scope=true) (vH:fd.defaults= .none)
  (pv:aD s.heap φ vs cs) (pk:hH s.heap φ aC bo) (hX:∀env,mx K w (A.deeper env) X) (e:te X fd vs aC O=some (v,aa)):
  codeAny (Mo w) A (.call (.ref a) ⟨cs,bo⟩) (kN [] w φ s v aa) s:=by
 symm
 show aj (jQ e) λbody h1 e=>?_;show aj (jQ e) λex h2 e=>?_;show aj (jQ e) λbase h3 e=>?_;show br (cy e) λd ag e1 e=>?_;cases e1;show aI (fO e) λh4 e=>?_;show br (cy e) λq aH e1 e2=>?_;show aI (lD e2) λe3 e4=>?_;dsimp only at e3 e4;subst e4;simp only[Bool.and_eq_true,decide_eq_true_eq]at h4;obtain⟨⟨h5,h6⟩,h7⟩:=h4;show BP gE λs1 s2 s3 s4=>?_;have qc:fd.body= .stmts body:=by
  cases hb:fd.body<;>rw[hb]at h1<;>cases h1;rfl
 show aj (BK (nc (h:=s.heap) (φ:=φ)) pv (cS.of (⟨rfl,nc⟩:hH s.heap φ [] [])) h3) λfG nU kb=>?_;left;have rt:bo.length<=1:=by
  have:=aJ List.length pk.1;simp only[bq,bq]at this;lia
 have yj:(bo.all λp=>!((fd.params.args.map (·.arg)).contains p.1||(fd.params.kwonlyargs.map (·.arg)).contains p.1))=true:=by
  have e1:(bo.all λp=>!((fd.params.args.map (·.arg)).contains p.1||(fd.params.kwonlyargs.map (·.arg)).contains p.1))=((bo.map (·.1)).all λy=>!((fd.params.args.map (·.arg)).contains y||(fd.params.kwonlyargs.map (·.arg)).contains y)):=by simp only[List.all_map];rfl
  simp only[e1,<-pk.1,<-(by simp only[List.all_map];rfl:(aC.all λp=>!((fd.params.args.map (·.arg)).contains p.1||(fd.params.kwonlyargs.map (·.arg)).contains p.1))=((aC.map (·.1)).all λy=>!((fd.params.args.map (·.arg)).contains y||(fd.params.kwonlyargs.map (·.arg)).contains y)))];show h5
 show codeAny_call_function gQ ho hd s1 s2 qc iW (Rl (ex:=ex) (defs:=[]) (λQ h=>by rw[vH];show yf (K:=K) b rfl h) h2 rt yj nU (λh' tk es n k5 g5 sh=>?_));have fresh:s.heap.get? s.heap.objs.size=none:=fj.push (o:={cls:= .none}) _ `S;have r':=r.push fresh k5 ⟨_,g5⟩ (Rm g5 rt sh (⟨pk.1,aD.mono ((a0.grown (Y:=[]) (φ:=φ) (tk:=tk) fresh k5).gA λ_ h=>(nomatch h)) (λ_ _ e=>pM e) _ _ pk.2⟩:hH h' (φ.grow [s.heap.objs.size]) aC bo));have Hz:Step φ s (φ.grow [s.heap.objs.size]) {s with heap:=h',toks:=tk}:=a0.grown fresh k5;have Rp:cS h' (φ.grow [s.heap.objs.size]) (base++[(ex.arg,V.ref O.length)]) (fG++[(ex.arg,.ref s.heap.objs.size)]):=
  fo.BI (cS.mono ((a0.grown (Y:=[]) (φ:=φ) (tk:=tk) fresh k5).gA λ_ h=>(nomatch h)) (λ_ _ e=>pM e) kb) (.cons ⟨rfl,by delta ao;show aA _ rfl (sQ (a:=s.heap.objs.size) r)⟩ .nil)
 generalize hφ:φ.grow [s.heap.objs.size]=aB at*;obtain⟨m,x⟩:=aB;rw[vF,vG,rk];have hc:qb h' ⟨m,x⟩ fd.scope [] []:=BQ Ro;show bg (BL (s:={s with heap:=h',toks:=tk}) r' (b.step Hz) s3 s4 hc Rp (λp hp=>List.all_eq_true.mp h7 p hp) (λ_ _ h=>h) (E:=λ_ _=>False) (Q:=λenv a8=>a8.heap.NoLimit/\codeAny (Mo w) A (.func body env) (kN [] w φ s v aa) a8) λenv aw Y gE o5 hY aP yd ow n=>?_) (λ_ _ h=>h) λ_ _ h=>h.elim;rw[List.append_nil]at n;show⟨n.base.lim,codeAny_func ?_⟩;show bg (hX env fd.scope body Y env (λx=> .inl (by rw[<-gE];rfl)) _ _ _ _ n ow q aa e1) (λfl a8 uN=>ku uN λcB bu ct p _=>?_) λ_ _ h=>h.elim;obtain⟨m₂,rfl⟩:=qR bu.x;have sub:∀a∈x,a∈Y++x:=λa ha=>List.mem_append_right _ ha;show fC _ ⟨m₂,x⟩ rfl (Hz.trans ?_) (ct.jt sub) (ao.mono (n5 sub) (λ_ _ e=>e) _ _ (BN e3 p));show(a0.less (Y:=[]) (Z:=Y) (by rw[List.append_nil];show((aP (Y++x)).more λ_ h=>(nomatch h)).trans bu) hY).nY
def HA{g:Addr}{vs:List V}{cs:List Value}{aC:List (Str×V)}{bo:List (Str×Value)}{v:V}(gQ:A.depth<recursionLimit)(r:aX w φ O s.heap)(b:cO K φ s.heap)(pv:aD s.heap φ vs cs)(pk:hH s.heap φ aC bo)
  (hX:∀env,mx K w (A.deeper env) X) (e:jv K X g vs aC O=some (v,aa)):codeAny (Mo w) A (.call (.ref g) ⟨cs,bo⟩) (kN [] w φ s v aa) s:=by
 show aj (jQ e) λfd oq e=>?_;show fg (BS oq) λd sl hk=>?_;by_cases iu:fd.params.kwarg.isSome=true
 ·rw[az iu]at e
  symm
  show aI (fO e) λh1 e=>?_;show bz h1 λh1 f7=>BR h1 λf1 f2 f3 f4 f5 f6=>?_;left;show Rn gQ r b (b.k _ _ hk) rfl f1 f2 f3 (W.codeRec_of b.k f4) f5 f6 (eq_of_beq f7) pv pk hX e
 ·rw[aN iu]at e
  show Hq gQ r b pv pk hX e
abbrev HB(fd:FuncData):Obj:={cls:= .type "function",data:= .func fd}
end
section
variable{M:Model}{A:Around}{E:Value->Shared->Prop}{s:Shared}
def Rq{name qualname:Str}{params:Arguments}{body:List Stmt}{scope:Scope}{env:Env}{mg}{c Pl:Addr}{pos:Pos}{firstLine:Nat}{cl:List (Str×Addr)}{Q:Value->Shared->Prop}(rk:closureFor scope env=pure cl)(eI:cl.isEmpty=false)(iu:params.kwonlyargs=[])
  (hg:s.heap.Ns env.globals mg) (o5:env.code= .ref c) (Rr:s.heap.IsCode c Pl #[]) (ot:s.heap.TableAt c Pl #[]) (yk:env.globals≠Pl) (hb:s.heap.BuiltinsAt mg Pl) (Rt:docOf body=none)
  (h:∀c' f h' tk fd,(∀b o,b≠Pl->s.heap.get? b=some o->h'.get? b=some o)->s.heap.objs.size<=c'->s.heap.objs.size<=f->h'.CodeRec (.ref c') qualname->h'.get? f=some (HB fd)->(∃ps,h'.get? Pl=some {cls:= .none,data:= .fields ps})->
   fd.closure=cl->fd.params=params->fd.body= .stmts body->fd.scope=scope->fd.globals=env.globals->fd.builtins=builtinsNs->fd.defaults= .none->fd.code= .ref c'->fd.qualname=qualname->Q (.ref f) {s with heap:=h',toks:=tk}):
  wpAny M A (makeFunction name qualname params (.stmts body) scope env [] [] [] pos firstLine) Q E s:=by
 show ax (aW ?_);rw[iu];show ax (aW (ax (aW (ax (lI rk (aW ?_))))));show A0 (λq=>g0 (eI.symm.trans q)) (ax (wpAny_newTextTuple ?_));have kk:=er (h:=s.heap) {cls:= .type "tuple",data:= .seq ((cl.mergeSort λa b=>a.1.cps.toList<=b.1.cps.toList).map (.ref ·.2)).toArray};show ax (wpAny_functionCodeX o5 (Rr.keeps kk) (ot.keeps kk) rfl λc' h' tk hx Ru bR abj BY Rv htb=>?_)
 symm
 show EO (hb) λbm o BZ Rw _ Rx Ry Rz RA RB=>?_;left;show ax (wpAny_builtinsFor ((hg.keeps kk).extBut hx yk) BZ Rw (hx _ _ Rx (kk _ _ Ry)) Rz RA RB ?_);show ax (wpAny_nsGet ((hg.keeps kk).extBut hx yk) ?_);rw[(Heap.size_push .. :(s.heap.push {cls:= .type "tuple",data:= .seq ((cl.mergeSort λa b=>a.1.cps.toList<=b.1.cps.toList).map (.ref ·.2)).toArray}).objs.size=s.heap.objs.size+1)]at Ru;show ax (lI (aJ (λo=>match o with|some s=>mkText s|none=>pure .none) Rt) (aW ?_));show wpAny_newObj_type ?_ (by size_fits);show h c' h'.objs.size _ tk _ ((λob b o hb e=>Heap.get?_push_of_some _ (hx b o hb (kk b o e)):∀(ob:Obj) b o,b≠Pl->s.heap.get? b=some o->(h'.push ob).get? b=some o) _) (by show Nat.le_of_lt `A) `L ?_ (dT _ rfl) (let⟨o,e⟩:=(⟨_,Rv.2⟩:∃ps,h'.get? Pl=some {cls:= .none,data:= .fields ps});⟨o,Heap.get?_push_of_some _ e⟩) rfl rfl rfl rfl rfl rfl rfl rfl rfl;show z0 BY λc₂ vI vJ vK uS vL ct=>?_;show oM c₂ vI vJ vK uS (Heap.get?_push_of_some _ vL) ct
end
def HC{env:Env}{r:List Stmt}:∀l:List Stmt,execs (l++r) env=(do
  match<-execs l env with
  | .next=>execs r env
  |f=>return f)
 |[]=>rfl
 |st::l=>by
  rw[List.cons_append,xP,xP,HC l,bind_assoc];congr 1;funext fl;induction fl<;>first|rfl|(rfl)
def cO.jt{K:W.Frag}{m X x':List Addr}{h:Heap}(b:cO K ⟨m,X⟩ h)(hx:∀a∈x',a∈X):cO K ⟨m,x'⟩ h:=by
 have off:∀a,Ph.Out ⟨m,X⟩ a->Ph.Out ⟨m,x'⟩ a:=λa ho=>⟨ho.1,λq=>ho.2 (hx a q)⟩;obtain⟨b1,b2,b3,b4,b5,b6,b7,b8,⟨b9,oP⟩,qO⟩:=b;show⟨b1,λa o e=>off a (b2 a o e),b3,b4,off _ b5,b6,off _ b7,off _ b8,⟨off _ b9,oP⟩,qO⟩
abbrev jY:List Stmt:=match(PG.main.body[21]? :Option Stmt)with
 |some (.FunctionDef _ _ body _ _ _ _ _ _ _)=>body
 |_=>[]
abbrev ia:Scope:=match(PG.main.body[21]? :Option Stmt)with
 |some (.FunctionDef _ _ _ _ _ _ sc _ _ _)=>sc
 |_=>{kind:= .function,names:=[],isGenerator:=false,isCoroutine:=false,more:=[]}
def RC{G:Prop}(k:∀s1 s2 qe rb qf pos post,jY=s1::s2:: .FunctionDef "read" qe rb [] none [] qf none "read" pos::post->sF=some (qe,rb,qf)->qe.kwonlyargs=[]->(∀env,defaultsOf qe env=([],[]))->(∀env,annTrees qe none env=[])->docOf rb=none->(∀env,fF env qf.names []=[(("text":Str),(env.cells.lookup ("text":Str)).getD 0),(("place":Str),(env.cells.lookup ("place":Str)).getD 0)])->(∀x∈qf.names,x.2= .free->x.1=("place":Str)\/x.1=("text":Str))->G):G:=
 k _ _ _ _ _ _ _ rfl rfl rfl (λ_=>rfl) (λ_=>rfl) rfl (λ_=>rfl)<|by
  intro x hx hf;rcases cj hx with rfl|hx
  ·cases hf
  rcases cj hx with rfl|hx
  ·cases hf
  rcases cj hx with rfl|hx
  ·show .inl rfl
  rcases cj hx with rfl|hx
  ·show .inr rfl
  rcases cj hx with rfl|hx
  ·cases hf
  cases hx
def HD:ia.names.lookup ("text":Str)=some .cell:=by decide+kernel
def HE:ia.names.lookup ("place":Str)=some .cell:=by decide+kernel
abbrev ng(sc:Scope):Scope:={sc with names:=sc.names.map λx=>if x.2== .cell then(x.1,.free)else x}
def RD:cR (ng ia) ("read":Str)=true:=by decide+kernel
abbrev HF(K:W.Frag)(fd:FuncData):Option (Addr×Array Value):=(mO fd.code).bind λc=>(K.lookup c).bind λo=>if qD "code" o.cls=true then(uv o.data).map (Prod.mk c)else none
abbrev vM(K:W.Frag)(fd:FuncData):Bool:=match HF K fd with
 |some q=>decide ((q.2.getD 11 .none).ctorIdx=10/\(q.2.getD 18 .none).ctorIdx=6/\(q.2.getD 7 .none).ctorIdx=4/\(q.2.getD 9 .none).ctorIdx=3/\(q.2.getD 10 .none).ctorIdx=4)
 |none=>false
abbrev vN(K:W.Frag):Bool:=match((W.nsIn K mainGlobals "__builtins__").bind λo=>o.bind mO)with
 |some bm=>bm !=builtinsNs&&bm !=mainGlobals&&((K.lookup bm).any λo=>qD "module" o.cls&&(o.dict==some builtinsNs&&o.data.ctorIdx==0))
 |none=>false
abbrev ru:M Unit:=λO=>match(O[(0:Nat)]? :Option bx)with
 |some .tab=>some ((),O.set 0 (.cell .none))
 |_=>none
abbrev rv(K:W.Frag)(X:Runner)(fd:FuncData)(vs:List V):M V:=do
 if(kY K fd&&fd.defaults== .none&&vM K fd&&vN K)=true then do
  let bT<-bJ (iN fd.params [] vs [])
  if(bT.all λp=>cR fd.scope p.1)=true then do
   let q<-X ia (jY.take 2) bT.reverse
   match q.2 with
   | .next=>do
    let t<-bJ (q.1.lookup ("text":Str))
    let p<-bJ (q.1.lookup ("place":Str))
    ru
    let r<-X (ng ia) (jY.drop 3) ((("read":Str),V.fK [t,p])::q.1)
    bJ (dF r.2)
   |_=>au
  else au
 else au
def HG{sc:Scope}{env:Env}(h:env.scope=sc):dX (ng sc) env:=λx=>by
 have e:∀names:List (Str×NameKind),(names.map λx=>if x.2==NameKind.cell then(x.1,NameKind.free)else x).lookup x=(names.lookup x).map λk=>if k== .cell then .free else k:=by
  intro names;induction names with
  |nil=>rfl
  |cons p r ih=>
   obtain⟨y,k⟩:=p;simp only[List.map_cons];by_cases hy:x=y
   ·subst hy
    by_cases hk:(k==NameKind.cell)=true
    ·rw[az hk,di,di];simp only[beq_self_eq_true,Option.map_some,az hk]
    ·rw[aN hk,di,di];simp only[beq_self_eq_true,Option.map_some,aN hk]
   ·by_cases hk:(k==NameKind.cell)=true
    ·rw[az hk,di,di];simp only[(gm hy:(x==y)=false)];show ih
    ·rw[aN hk,di,di];simp only[(gm hy:(x==y)=false)];show ih
 change env.scope.names.lookup x=(sc.names.map _).lookup x\/_=_/\_=_;simp only[e,h];change sc.names.lookup x=_\/(ng sc).names.lookup x=some .free/\env.scope.names.lookup x=some .cell;cases hk:sc.names.lookup x with
 |none=>show .inl rfl
 |some k=>
  by_cases hc:(k==NameKind.cell)=true
  ·show .inr ⟨?_,?_⟩
   ·change(sc.names.map _).lookup x=_
    rw[e,hk,Option.map_some,az hc]
   ·simp only[h,hk,dN hc]
  ·rw[Option.map_some,aN hc];show .inl rfl
def RE{sc:Scope}{x:Str}(h:(ng sc).names.lookup x=some .cell):False:=by
 have:=mem_of_lookup h;obtain⟨⟨y,k⟩,hy,he⟩:=cG this;by_cases hk:(k==NameKind.cell)=true
 ·rw[az hk]at he;cases he
 ·rw[aN hk]at he;cases he;show hk rfl
section
variable{Y Z m x:List Addr}{K:W.Frag}{w:World}{A:Around}{sc:Scope}{env:Env}{J:ab}{φ:Ph}{O aa:Hp}{s:Shared}{F:aG}{X:Runner}
def RF{vs:Array Value}{i:Nat}{p:Addr}(h:vs.getD i .none= .ref p):vs[i]? =some (.ref p):=by
 rw[Array.getD_eq_getD_getElem?]at h;cases e:vs[i]?with
 |none=>rw[e]at h;cases h
 |some v=>rw[e]at h;show aJ some h
def RG{v:Value}(h:v.ctorIdx=10):∃a,v= .ref a:=Value.ref.elim (motive:=λv=>∃a,v= .ref a) v h λa=>⟨a,rfl⟩
def RH{v:Value}(h:v.ctorIdx=6):∃a t,v= .str a t:=Value.str.elim (motive:=λv=>∃a t,v= .str a t) v h λa t=>⟨a,t,rfl⟩
def HH{v:Value}(h:v.ctorIdx=4):∃a t,v= .int a t:=Value.int.elim (motive:=λv=>∃a t,v= .int a t) v h λa t=>⟨a,t,rfl⟩
def RI{v:Value}(h:v.ctorIdx=3):∃a,v= .bool a:=Value.bool.elim (motive:=λv=>∃a,v= .bool a) v h λa=>⟨a,rfl⟩
def RJ{d:Data}(h:d.ctorIdx=0):d= .plain:=Data.plain.elim (motive:=λd=>d= .plain) d h rfl
def HJ{fd:FuncData}{h:Heap}{Pl:Addr}(b:cO K φ h)(e:vM K fd=true)(ht:φ.m[0]? =tabIn K fd.code)(hm:φ.m[0]? =some Pl)(hp:h.get? Pl=some {cls:= .none,data:= .fields #[]}):∃c,fd.code= .ref c/\h.IsCode c Pl #[]/\h.TableAt c Pl #[]:=by
 unfold vM at e;cases hl:HF K fd with
 |none=>rw[hl]at e;show mN e
 |some q=>
  rw[hl]at e
  symm
  show zT (of_decide_eq_true e) λe1 e2 e3 e4 e5=>?_;show aj (dj hl) λc hc hl=>?_;show aj (dj hl) λo ho hl=>?_;show aI (nN hl) λiL hl=>?_;show aj (eo hl) λvs HL hq=>?_;subst hq;have hk:=ho.trans (aJ some (sH (sG iL) (E4 HL)));show aU (RG e1) λp h1=>?_;show fg (RH e2) λ_ _ h2=>?_;show fg (HH e3) λ_ _ h3=>?_;show aU (RI e4) λ_ h4=>?_;show fg (HH e5) λ_ _ h5=>?_;have ou:tabIn K fd.code=some p:=by
   unfold tabIn;rw[hc];change(K.lookup c).bind _=_;rw[ho];change(uv o.data).bind _=_;show(HL)▸(aJ mO h1)
  rw[ht,ou]at hm;cases hm;left;show dw c (uu hc) ⟨_,vs,_,_,_,_,_,_,_,_,b.k _ _ hk,rfl,h1,h2,h3,h4,h5,hp,rfl,trivial,λq=>(b.off _ _ hk).1 (gZ ((ht.trans ou).trans (aJ some q.symm)))⟩ (fC _ vs (b.k _ _ hk) rfl rfl (RF h1)) hp
def RK{h:Heap}{Pl:Addr}{mg:Str->Option Value}(b:cO K φ h)(e:vN K=true)(hm:Pl∈φ.m)(hg:h.Ns mainGlobals mg):h.BuiltinsAt mg Pl:=by
 unfold vN at e;cases hn:((W.nsIn K mainGlobals "__builtins__").bind λo=>o.bind mO)with
 |none=>rw[hn]at e;show mN e
 |some bm=>
  rw[hn]at e;show aI (fb e) λe e3=>?_;show aj (dj hn) λo1 hn hv=>?_;show aj (dj hv) λv hv hr=>?_;simp only[hv,uu hr]at hn;show aj ((Option.any_eq_true _ _).mp e3) λo hk e3=>?_;show aI (fb e3) λe4 e3=>?_;show aI (fb e3) λe5 e6=>?_;have hk:=hk.trans (aJ some (sH (sG e4) (RJ (dN e6))));rw[dN e5]at hk;show MG bm _ (W.mg_of b.k hg hn) (bne_iff_ne.mp (fb e).1) (bne_iff_ne.mp (fb e).2) (λq=>(b.off _ _ hk).1 (q▸hm)) (b.k _ _ hk) rfl rfl rfl
def RL{O aa:Hp}{u:Unit}(e:ru O=some (u,aa)):O[(0:Nat)]? =some bx.tab/\aa=O.set 0 (.cell .none):=by
 delta ru at e;generalize O[(0:Nat)]? =o at e;induction o with
 |none=>cases e
 |some a=>induction a<;>first|(cases e;show⟨rfl,rfl⟩)|cases e
def RN{P:Addr->Value->Prop}{x1 x2:Str}{a1 a2:Addr}{c1 c2:Value}(h1:P a1 c1)(h2:P a2 c2)(i:Nat)(p:Str×Addr)(v:Value)(e:[(x1,a1),(x2,a2)][i]? =some p)(e':[c1,c2][i]? =some v):P p.2 v:=by
 rcases i with _|_|_
 ·cases bN e;cases bN e';show h1
 ·cases bN e;cases bN e';show h2
 ·cases e
def RO{h:Heap}{c:Addr}{q:Str}(r:h.CodeRec (.ref c) q):∃o vs t,h.get? c=some o/\o.data= .fields vs/\vs[1]? =some (.str q t):=by
 show z3 r λc₂ vI vJ vK uS vL B1 B2=>?_;cases Value.ref.inj uS;show pL vI vJ vK vL B1 B2
def RP{a:Addr}{o:Obj}{fd:FuncData}{vs:List V}{cs:List Value}{v:V}(hh:A.handled=none)(gQ:A.depth<recursionLimit)(r:aX w φ O s.heap)(b:cO K φ s.heap)(ho:s.heap.get? a=some o)(hd:o.data= .func fd)(hL:fd.body= .stmts jY/\fd.scope=ia)(hT:qE K=tabIn K fd.code)
  (pv:aD s.heap φ vs cs) (hX:∀env,mx K w (A.deeper env) X) (e:rv K X fd vs O=some (v,aa)):codeAny (Mo w) A (.call (.ref a) ⟨cs,[]⟩) (kN [] w φ s v aa) s:=by
 symm
 obtain⟨m,x⟩:=φ;show aI (fO e) λh1 e=>?_;show aj (jQ e) λbT h2 e=>?_;show aI (fO e) λh3 e=>?_;show br (cy e) λq aH e1 e=>?_;obtain⟨cV,fl⟩:=q;cases fl<;>first|show jI e|skip
 show aj (jQ e) λv1 e2 e=>?_;show aj (jQ e) λv2 e3 e=>?_;show br (cy e) λ_ cI e4 e=>?_;show br (cy e) λRQ p8 e5 e=>?_;show aI (lD e) λe8 e7=>?_;clear e
 replace e7:aa=p8:=e7
 subst e7;have ht:=RL e4;clear e4;show bz h1 λh1 f9=>bz h1 λh1 f8=>bz h1 λh1 f7=>BR h1 λf1 f2 f3 f4 f5 f6=>BP f5 λs1 s2 s3 s4=>?_
 replace f7:=eq_of_beq f7
 clear h1 f5;show aj (BK (nc (h:=s.heap) (φ:=⟨m,x⟩)) pv (cS.of (⟨rfl,nc⟩:hH s.heap ⟨m,x⟩ [] [])) h2) λfG nU kb=>?_;left;show codeAny_call_function gQ ho hd s1 s2 hL.1 (W.codeRec_of b.k f4) (Hk (defs:=[]) (λQ h=>by rw[f7];show yf (K:=K) b rfl h) nU ?_);rw[f1,f2,f3];have hc:qb s.heap ⟨m,x⟩ fd.scope [] []:=BQ f6;show bg (BL r b s3 s4 hc kb (λp hp=>List.all_eq_true.mp h3 p hp) (λ_ _ h=>h) (E:=λ_ _=>False) (Q:=λenv a8=>a8.heap.NoLimit/\codeAny (Mo w) A (.func jY env) (kN [] w ⟨m,x⟩ s v aa) a8) λenv aw Y gE o5 hY aP yd ow n=>?_) (λ_ _ h=>h) λ_ _ h=>h.elim;rw[List.append_nil]at n;show⟨n.base.lim,codeAny_func ?_⟩;show RC λB3 B4 qe rb qf pos post q1 q2 q3 q4 q5 q6 q7 q8=>?_;have vO:env.scope=ia:=gE.trans hL.2;have jP:dX ia env:=λx=> .inl (by rw[<-vO];rfl);rw[hL.2]at ow;have rx:jY.take 2=[B3,B4]:=by rw[q1];rfl
 have RR:jY.drop 3=post:=by rw[q1];rfl
 rw[rx]at e1;rw[RR]at e5;show lI ((aJ (λl=>execs l env) (show jY=[B3,B4]++ .FunctionDef "read" qe rb [] none [] qf none "read" pos::post from q1)).trans (HC _)) ?_;show ax (bg (hX env ia [B3,B4] Y env jP _ _ _ _ n ow (cV,.next) aH e1) (λfl a8 c0=>?_) λ_ _ h=>h.elim);show ku c0 λcB bu ct HM ry=>?_;cases O0 HM;clear HM c0;show aU (qR bu.x) λm₂ em=>?_;subst em;dsimp only;have dK:bW K w env cV ⟨m₂,Y++x⟩ aH a8:=n.xO ow bu ct ry;have kt:env.kindOf "text"=some .cell:=by simp only[Env.kindOf,vO];show HD
 have kp:env.kindOf "place"=some .cell:=by simp only[Env.kindOf,vO];show HE
 show ck (ry.cells _ _ e2 (.inl kt)) λa1 c1 l1 g1 p1=>?_;show ck (ry.cells _ _ e3 (.inl kp)) λa2 c2 l2 g2 p2=>?_;have RT:a1≠a2:=λq=>by
  have:=ry.inj ("text":Str) ("place":Str) a1 l1 (q▸l2);show absurd this `D
 show aj ry.ns λmm ym _=>?_;have y1:a1∈Y:=ow.cell _ _ HD l1;have y2:a2∈Y:=ow.cell _ _ HE l2;have sub:∀a∈env.locals::x,a∈Y++x:=λa ha=>(cj ha).elim (λe=>List.mem_append_left _ (e▸ow.loc)) (List.mem_append_right _);have iv:bW K w env cV ⟨m₂,env.locals::x⟩ aH a8:=⟨dK.rel.jt sub,dK.base.jt sub,dK.fits.jt sub⟩;have HN:Own [env.locals] (ng ia) env ⟨m₂,env.locals::x⟩:=⟨λa ha=>fW ha▸ .head _,HG vO,.head _,λy a e _=>(RE e).elim⟩;have o1:Ph.Out ⟨m₂,env.locals::x⟩ a1:=⟨(ry.all _ _ l1).1,λq=>(cj q).elim (λe=>uT g1 ym e) λq=>yd a1 y1 q⟩;have o2:Ph.Out ⟨m₂,env.locals::x⟩ a2:=⟨(ry.all _ _ l2).1,λq=>(cj q).elim (λe=>uT g2 ym e) λq=>yd a2 y2 q⟩;obtain⟨Pl,yn⟩:∃Pl,m₂[(0:Nat)]? =some Pl:=by
  have h0:0<aH.length:=(cQ ht.1).1;have hl:m₂.length=aH.length:=ct.len;show⟨m₂[0],eH (hl▸h0)⟩
 have yo:Pl∈m₂:=gZ yn;have RU:a8.heap.get? Pl=some {cls:= .none,data:= .fields #[]}:=ct.objs 0 Pl .tab yn ht.1;show bK (HJ (φ:=⟨m₂,env.locals::x⟩) iv.base f8 (iv.base.tab.1.trans hT) yn RU) λc iW RV B5=>?_;show aU iv.base.glob λmg o6=>?_;have BZ:=RK (φ:=⟨m₂,env.locals::x⟩) iv.base f9 yo o6;have yk:env.globals≠Pl:=by
  rw[iv.fits.glob];intro e;show iv.base.xi.1 (e▸yo)
 have rk:closureFor qf env=pure [(("text":Str),a1),(("place":Str),a2)]:=by
  simp only[F9 (λy hy hf=>(q8 y hy hf).elim (λe=>⟨a2,e▸l2⟩) λe=>⟨a1,e▸l1⟩),q7,l1,l2];rfl
 show lI (xP _ _ _) (ax (lI (exec_def _ _ _ _ _ _ _) ?_));rw[q4,q5];show(ax (wpAny_standAt (ax (eM (ax (aW (ax (eM (aW (eM (ax (aW ?_))))))))))));show Rq (c:=c) (Pl:=Pl) rk rfl q3 (iv.fits.glob▸o6) (o5.trans iW) RV B5 yk BZ q6 λc' f h' tk HO k' g6 RW BY rz B6 w1 w2 w3 w4 w5 w6 w7 w8 w9=>?_;have c9:Step ⟨m₂,env.locals::x⟩ a8 ⟨m₂,env.locals::x⟩ {a8 with heap:=h',toks:=tk}:=a0.at yo k' (let⟨_,e⟩:=B6;⟨_,e⟩);have g9:aX w ⟨m₂,env.locals::x⟩ (aH.set 0 (.cell .none)) h':=iv.rel.setAt yn k' (let⟨_,e⟩:=B6;⟨_,e⟩) (aA _ ht.1 (λ_=>rfl)) B6;have mZ:=iv.step c9 g9;have new:∀d,a8.heap.objs.size<=d->Ph.Out ⟨m₂,env.locals::x⟩ d:=λd hd=>⟨λq=>by show aU (iv.rel.live _ q) λo e=>?_;show absurd (Heap.lt_size e) (Nat.not_lt.mpr hd),λq=>by show aU (iv.rel.iU _ q) λo e=>?_;show absurd (Heap.lt_size e) (Nat.not_lt.mpr hd)⟩;have RX:=(ao.mono (n5 sub) (λ_ _ e=>e) _ _ p1:ao a8.heap ⟨m₂,env.locals::x⟩ v1 c1).step c9;have RY:=(ao.mono (n5 sub) (λ_ _ e=>e) _ _ p2:ao a8.heap ⟨m₂,env.locals::x⟩ v2 c2).step c9;have cellAt:∀{d:Addr} {v:Value},d∉m₂->a8.heap.IsCell d (some v)->∃ob,h'.get? d=some ob/\ob.data= .cell (some v):=λ{d v} hd ⟨ob,g,g'⟩=>aA ob (k' d ob (λq=>hd (q▸yo)) g) g';have rep:ao h' ⟨m₂,env.locals::x⟩ (.fK [v1,v2]) (.ref f):=by
  show nK (RO BY) λvI vJ vK vL B1 B2=>?_;show fC f [c1,c2] rfl (new f RW) (EX (HB HO) HO c' vI ⟨rz,rfl,rfl,⟨⟨qe,rb,qf,q2,w2,w3,w4⟩,w5.trans iv.fits.glob,w6,w7,w8,by rw[w1];rfl,by rw[w1];simpa using RT⟩,new c' g6,vL,c8 vJ vK B1 (w9.symm▸B2),by rw[w1];rfl,w1.symm▸RN (P:=λa c=>Ph.Out ⟨m₂,env.locals::x⟩ a/\∃ob,h'.get? a=some ob/\ob.data= .cell (some c)) ⟨o1,cellAt o1.1 g1⟩ ⟨o2,cellAt o2.1 g2⟩⟩) (cF c1 [c2] rfl RX (all1 RY))
 show ax (wpAny_standAt (ax (bg (pR mZ HN rep RD) (λ_ eY kA=>aW ?_) λ_ _ x=>x.elim)));show aI kA λfc RZ=>?_;rw[ht.2]at e5;show bg (hX env (ng ia) post [env.locals] env (HG vO) _ _ _ _ RZ (HN.step fc) RQ _ e5) (λfl GU R0=>?_) λ_ _ h=>h.elim;show ku R0 λGV mv s8 R1 _=>?_;show aU (qR mv.x) λHP em=>?_;subst em;have HQ:∀a∈x,a∈env.locals::x:=λa ha=> .tail _ ha;have yl:∀a∈[env.locals],a∈Y:=λa ha=>fW ha▸ow.loc;show⟨_,⟨HP,x⟩,rfl,?_,s8.jt HQ,ao.mono (n5 HQ) (λ_ _ e=>e) _ _ (BN e8 R1)⟩;have total:a0 Y ⟨m,Y++x⟩ s ⟨HP,Y++x⟩ GU:=((((aP (Y++x)).more λ_ h=>(nomatch h)).trans bu).trans ((c9.nY (x':=Y++x)).more λ_ h=>(nomatch h))).trans (((fc.more yl).nY (x':=Y++x)).trans ((mv.more yl).nY (x':=Y++x)));show(a0.less (Y:=[]) (Z:=Y) (by rw[List.append_nil];show total) hY).nY
def R2:PlainAttrs "re.Pattern":=
 ⟨(aA ("object.__getattribute__") (by kernel_rfl) (by decide+kernel)),by kernel_rfl⟩
def B7:Slot "re.Pattern" "search" "re.Pattern.search":=
 .of (owner:="re.Pattern") (n:="search") (by kernel_rfl) (by decide+kernel) (by decide+kernel) (by decide+kernel)
  (by first|show .inl (by decide+kernel)|show .inr (by decide+kernel)) (by kernel_rfl)
def R3:typeOf (.builtin "re.Pattern.search")=pure (.type "method_descriptor"):=by kernel_rfl
def R4:entryFor table "re.Pattern.search"=some Builtin.«re.Pattern.search»:=entryFor_of_tree (by kernel_rfl)
def R5(a b:Value):argsOk "re.Pattern.search" ⟨[a,b],[]⟩:=by
 kernel_rfl
abbrev nh:Array Nat:= #[14,10,4,1,1,22,0,31,16,127,0,13,7,22,0,31,16,127,0,1]
abbrev ni:Array Nat:= #[14,14,4,1,1,9,4294966783,0,0,2147483648,0,0,0,0,0,13,11,9,4294966783,0,0,2147483648,0,0,0,0,0,1]
abbrev nj(c:Nat):Bool:=31<c&&c !=127
def R6(c:Nat)(h:nj c=true)(seen:Sre.Seen):Sre.inSet nh c nh.size 5 true seen= .ok (false,((seen.add 22).add 16).add 0):=by
 rw[nj,Bool.and_eq_true,decide_eq_true_eq,bne_iff_ne,ne_eq]at h;have e1:Sre.inSet nh c nh.size 5 true seen=if(decide (0<=c)&&decide (c<=31))=true then .ok (true,seen.add 22)else Sre.inSet nh c 19 8 true (seen.add 22):=rfl;have e2:Sre.inSet nh c 19 8 true (seen.add 22)=if(c==127)=true then .ok (true,(seen.add 22).add 16)else Sre.inSet nh c 18 10 true ((seen.add 22).add 16):=rfl;have e3:Sre.inSet nh c 18 10 true ((seen.add 22).add 16)= .ok (false,((seen.add 22).add 16).add 0):=rfl;rw[e1,aN (by simp;lia),e2,aN (by simpa using h.2),e3]
def R7:∀c:Nat,c<256->nj c=true->(ni.getD (5+(1+c/32)) 0).testBit (c%32)=false:=by decide+kernel
def R8(c:Nat)(h:nj c=true)(seen:Sre.Seen):Sre.inSet ni c ni.size 5 true seen= .ok (false,(seen.add 9).add 0):=by
 have e1:Sre.inSet ni c ni.size 5 true seen=if(decide (c<256)&&(ni.getD (5+(1+c/32)) 0).testBit (c%32))=true then .ok (true,seen.add 9)else Sre.inSet ni c 27 14 true (seen.add 9):=rfl;have e3:Sre.inSet ni c 27 14 true (seen.add 9)= .ok (false,(seen.add 9).add 0):=rfl;rw[e1,aN,e3];by_cases hc:c<256
 ·simp only[R7 c hc h];simp
 ·simp[hc]
abbrev vP(code:Array Nat):Prop:=code=nh\/code=ni
def B8{code:Array Nat}(hc:vP code){m:Sre.M}(hm:m.code=code)(ht:∀i,i<m.lim->nj (m.text.getD i 0)=true):∀(bD s:Nat) (seen:Sre.Seen),∃HR,Sre.M.admitted m bD s seen= .ok (none,HR)
 |0,s,seen=>⟨seen,rfl⟩
 |bD+1,s,seen=>by
  unfold Sre.M.admitted;by_cases hs:s>=m.lim
  ·rw[az hs];show⟨_,rfl⟩
  ·rw[aN hs,hm]
   rcases hc with rfl|rfl
   ·rw[R6 _ (ht s `L)];show B8 (.inl rfl) hm ht bD (s+1) _
   ·rw[R8 _ (ht s `L)];show B8 (.inr rfl) hm ht bD (s+1) _
def R9{code text:Array Nat}(hc:vP code)(ht:∀i,i<text.size->nj (text.getD i 0)=true):∃m,Sre.forSearch code text 0 0 text.size false=m/\m.answer=some false/\m.frames=[]/\m.outcome=none:=by
 have key:∀m:Sre.M,m.code=code->m.text=text->m.lim=text.size->m.frames=[]->m.outcome=none->∃m',m.attemptFrom 0 true=m'/\m'.answer=some false/\m'.frames=[]/\m'.outcome=none:=by
  intro m h1 h2 h3 h4 h5;unfold Sre.M.attemptFrom;rw[(by unfold Sre.M.hasFirstSet;rw[h1];rcases hc with rfl|rfl<;>rfl:m.hasFirstSet=true)];obtain⟨HR,e⟩:=B8 hc h1 (by rw[h2,h3];show ht) (m.lim+1-0) 0 m.seen;show(e)▸(dw _ rfl rfl h4 h5)
 unfold Sre.forSearch;dsimp only;split
 ·show dw _ rfl rfl rfl rfl
 ·show key _ rfl rfl rfl rfl rfl
end
end Mine
namespace Mine
open PySem PySem.Spec PySem.Calls PyProof.Rows
open PySem.Builtin.Re
noncomputable instance:Decidable (vP c):=inferInstanceAs (Decidable (_\/_))
abbrev B9(K:W.Frag)(p:Addr):Option (Array Value):=(K.lookup p).bind λo=>if qD "re.Pattern" o.cls=true/\o.dict=none then(uv o.data).bind λfs=>(mO (fs.getD 5 .none)).bind λq=>(K.lookup q).bind λo2=>if reRawNat (fs.getD 6 .none)≠1/\reRawNat (fs.getD 2 .none)=0 then(z7 o2.data).map (·.1)else none else none
def HS{K:W.Frag}{p:Addr}{items:Array Value}(h:B9 K p=some items):∃o fs q o2 n,K.lookup p=some o/\o.cls= .type "re.Pattern"/\o.dict=none/\o.data= .fields fs/\fs.getD 5 .none= .ref q/\K.lookup q=some o2/\o2.data= .seq items n/\(reRawNat (fs.getD 6 .none)≠1/\reRawNat (fs.getD 2 .none)=0):=by
 symm
 show aj (dj h) λo h1 h=>?_;show aI (nN h) λh2 h=>?_;show aj (dj h) λfs h3 h=>?_;show aj (dj h) λq h4 h=>?_;show aj (dj h) λo2 h5 h=>?_;show aI (nN h) λh6 h=>?_;show aj (eo h) λx h7 h8=>?_;subst h8;left;show MP o fs q o2 x.2 h1 (sG h2.1) h2.2 (E4 h3) (uu h4) h5 (E5 h7) h6
abbrev vQ(K:W.Frag)(p:Addr):Option (Array Nat):=(B9 K p).map λitems=>(items.map reRawOf).map Int.toNat
abbrev jZ(K:W.Frag)(p:Addr):Bool:=match vQ K p with
 |some c=>decide (vP c)
 |none=>false
abbrev searchM(K:W.Frag)(id:String)(vs:List V):M V:=args vs (λ_=>au) (λa b=>nd a λp=>fX b λx=>if id="re.Pattern.search"/\jZ K p=true/\cg x=true/\x.cps.all nj=true then pure .none else au) q9
section
variable{K:W.Frag}{w:World}{A:Around}{φ:Ph}{O aa:Hp}{s:Shared}
def Sa{M:Model}{A:Around}{E:Value->Shared->Prop}{m:Sre.M}{Q:Option Sre.M->Shared->Prop}(h1:m.answer=some false)(h2:m.frames=[])(h3:m.outcome=none)(h:Q none s):wpAny M A (reRunToEnd m) Q E s:=by
 have hr:m.runFor reTurnSteps={m with outcome:=some .failed}:=by
  change(if m.outcome.isSome=true then m else Sre.M.runFor 3 m.step)=_;rw[h3,(by unfold Sre.M.step;rw[h3,h1,h2];rfl:m.step={m with outcome:=some .failed})];rfl
 have hd:reDrive (2^64) m=pure {m with outcome:=some .failed}:=by
  change(if(m.runFor reTurnSteps).outcome.isSome=true then pure (m.runFor reTurnSteps)else _)=_;rw[hr];rfl
 unfold reRunToEnd;rw[hd];show ax (aW (ax ?_));have loop:∀(l:List Nat) (Q:PUnit->Shared->Prop),Q ⟨⟩ s->wpAny M A (forIn l PUnit.unit λi (_:PUnit)=>if({m with outcome:=some .failed}:Sre.M).seen.has i=true then do rule (Sre.names.getD i "");pure (ForInStep.yield PUnit.unit)else pure (ForInStep.yield PUnit.unit)) Q E s:=by
  intro l;induction l with
  |nil=>intro Q h;show aW h
  |cons i l ih=>
   intro Q h;rw[List.forIn_cons];split
   ·show ax (ax (wpAny_rule (aW (ih Q h))))
   ·show ax (aW (ih Q h))
 show bg (loop _ (λ_ s'=>s'=s) rfl) (λ_ s' jO=>?_) λ_ _ x=>x;obtain rfl:=Eq.symm jO;show aW h
def Sb(v:Value):reNamed "re.Pattern.search" "search" ["string","pos","endpos"] 1 [v] []=pure [some v,none,none]:=by rfl
def Sd{id:String}{vs:List V}{cs:List Value}(r:aX w φ O s.heap)(b:cO K φ s.heap)(pv:aD s.heap φ vs cs):cn w A φ O s (PySem.call (.builtin id) cs []) (searchM K id vs) λh φ v c=>ao h φ v c:=by
 show .args (T:=λcs=>PySem.call (.builtin id) cs []) pv (λ_ _ _=> .fail) (λ_ _ _ d p1 p2=> .nd (T:=λc=>PySem.call (.builtin id) [c,d] []) p1 λp=> .fX (T:=λd=>PySem.call (.builtin id) [.ref p,d] []) p2 λx t=> .guard λhh=>?_) λ_ _ _ _ _ _ _ _ _=> .fail;show nJ hh λlM hp hx hc=>?_;intro v aa e;apply g4 (fh e).symm;subst lM;unfold jZ at hp
 symm
 cases Ca:vQ K p with
 |none=>rw[Ca]at hp;show mN hp
 |some code=>
  rw[Ca]at hp;have o5:=of_decide_eq_true hp;clear hp;show aj (eo Ca) λitems hp g6=>?_;subst g6;show EZ (HS hp) λo fs q o2 n hk iL _ hf hq tf hs hw=>?_;left;clear hp;show wpAny_call (codeAny_call_builtin B7.plain R4 (B7.check _ _ _ _ _ _ _ _ (aA _ (b.k _ _ hk) iL:s.TypeIs (.ref p) "re.Pattern") (R5 _ _) ?_));show ax (ax (wpAny_of_eq (Sb _) (ax (aW (ax (aW (ax (wpAny_fieldsOf (b.k _ _ hk) hf ?_))))))));show ax (wpAny_of_eq (rfl:reTextOf (.str x t)=pure (x.cps,0)) ?_);dsimp only;have f1:(reRawNat (fs.getD 6 .none)==0&&((x.cps,0):Array Nat×Nat).2==1)=false:=by rw[show(((x.cps,0):Array Nat×Nat).2==1)=false from rfl,Bool.and_false]
  have f2:(reRawNat (fs.getD 6 .none)==1&&((x.cps,0):Array Nat×Nat).2==0)=false:=by
   have:(reRawNat (fs.getD 6 .none)==1)=false:=gm hw.1;rw[this,Bool.false_and]
  rw[f1,f2];show ax (aW (a:=()) ?_);rw[hq];show ax (ax (wpAny_seqItems (b.k _ _ tf) hs (aW (aW ?_))));unfold reAnswer;dsimp only;have hl:min (2^63-1:Int).toNat x.cps.size=x.cps.size:=by
   have:=md hx;have e2:x.length=x.cps.size:=rfl;lia
  have hg:∀i,i<x.cps.size->nj (x.cps.getD i 0)=true:=λi hi=>by
   have:=Array.all_eq_true.mp hc i hi;rw[Array.getD_eq_getD_getElem?,Array.getElem?_eq_getElem hi];show this
  show ku (R9 o5 hg) λm hm a1 a2 a3=>?_;have hz:min (Int.toNat 0) x.cps.size=0:=Nat.zero_min _;rw[hl,hz,hw.2];change wpAny _ _ (reRunToEnd (Sre.forSearch ((items.map reRawOf).map Int.toNat) x.cps 0 0 x.cps.size false)>>=_) _ _ _;rw[hm];show ax (Sa a1 a2 a3 ?_);show aW (cC r (by delta ao;rfl))
end
end Mine
namespace Mine
open PySem PySem.Spec PySem.Calls PyProof.Rows
def Se{h:Heap}{φ:Ph}{l:List V}:∀{cs:List Value},l.length=cs.length->(∀(i:Nat) v c,l[i]? =some v->cs[i]? =some c->ao h φ v c)->aD h φ l cs:=by
 induction l with
 |nil=>intro cs e _;cases List.eq_nil_of_length_eq_zero e.symm;show nc
 |cons v l ih=>
  intro cs e q;induction cs with
  |nil=>cases e
  |cons c cs=>
   show cF c cs rfl (q 0 v c rfl rfl) (ih (Nat.succ.inj e) λi v c h1 h2=>q (i+1) v c h1 h2)
abbrev Sf(v:V)(f:Int->Int->Int->M V):M V:=match v with
 | .dU a b c=>f a b c
 |_=>au
abbrev HT(vs:List V):M V:=args vs (λv=>Sf v λa b c=>if Builtin.Range.small a b c=true/\0<=Builtin.Range.rangeSize a b c/\(Builtin.Range.rangeSize a b c).toNat<=1000000 then pure (.lst (mU a (Builtin.Range.rangeSize a b c).toNat c))else au) Bu q9
abbrev gR(K:W.Frag)(a:V)(name:Str):M (V×List V):=match a with
 | .con (.ref d)=>if jZ K d=true/\name=("search":Str)then pure (.con (.builtin "re.Pattern.search"),[.con (.ref d)])else og K a name
 |_=>og K a name
section
variable{K:W.Frag}{w:World}{A:Around}{φ:Ph}{O aa:Hp}{s:Shared}
def Sg{h:Heap}{φ:Ph}{a c:Int}{n:Nat}{aq:Array Value}(hn:aq.size=n)(it:∀(i:Nat) v,aq[i]? =some v->∃t,v= .int (a+i*c) t):aD h φ (mU a n c) aq.toList:=by
 show Se (by simp[mU,hn]) λi v d hv hc=>?_;obtain⟨t,rfl⟩:=it i d (by simpa using hc);rw[mU,List.getElem?_map,Option.map_eq_some_iff]at hv;obtain⟨k,hk,rfl⟩:=hv;obtain⟨hh,e⟩:=cQ hk;show(show k=i by simpa using e.symm)▸(fm)
def Sh{vs:List V}{cs:List Value}(hh:A.handled=none)(r:aX w φ O s.heap)(pv:aD s.heap φ vs cs):cn w A φ O s (PySem.call (.type "list") cs []) (HT vs) λh φ v c=>ao h φ v c:=by
 show .args (T:=λcs=>PySem.call (.type "list") cs []) pv (λv c p=>?_) (λ_ _ _ _ _ _=> .fail) λ_ _ _ _ _ _ _ _ _=> .fail;cases v with
 |dU a b c=>
  show z0 (p) λrr t u v' dW _ hr=>?_;subst dW;show .guard λh0=> .one (call_list_range (n:=(Builtin.Range.rangeSize a b c).toNat) hh hr h0.1 `L (a9 h0.2.2 `D) λh' tk qQ c' k g it=>done r k ?_);show fC _ qQ.toList rfl r.fresh ⟨_,g,rfl,c',by simp⟩ (Sg it.1 it.2)
 |_=>show .fail
def Si{d:Addr}(h:jZ K d=true):∃fs sl,K.lookup d=some ⟨.type "re.Pattern",none,.fields fs,sl⟩:=by
 unfold jZ at h;cases hp:vQ K d with
 |none=>rw[hp]at h;show mN h
 |some c=>
  show aj (eo hp) λitems hp _=>?_;show EZ (HS hp) λo fs q o2 n h1 h2 Sj h3 _ _ _ _=>?_;show gk fs o.slots (h1.trans (aJ some ((sH h2 h3).trans (by rw[Sj]))))
set_option tactic.hygienic true in
def Sk:AD K w A (gR K):=by
 intro a name ca φ O s pl r b p;cases a with
 |con c=>
  induction c<;>first|show BE _ name ca φ O s pl r b p|skip
  rename_i d;by_cases hc:jZ K d=true/\name=("search":Str)
  ·delta ao at p
   subst p;show fg (Si hc.1) λfs sl hk=>?_;rw[hc.2];show .val (b:=((.con (.builtin "re.Pattern.search"),[.con (.ref d)]):V×List V)) (congrFun (az (⟨hc.1,rfl⟩:jZ K d=true/\("search":Str)=("search":Str))) O) (getMethod_builtin (aA _ (b.k _ _ hk) rfl) R2 B7 R3 (λa h=>by cases(h);show aA _ (b.k _ _ hk) rfl) (dw φ (.refl ..) r m9 (all1 m9)))
  ·intro v aa e
   show BE _ name ca φ O s pl r b p v aa (show og K _ name O=_ from(congrFun (aN hc) O).symm.trans e)
 |_=>show BE _ name ca φ O s pl r b p
abbrev joinM(id:String)(vs:List V):M V:=args vs (λ_=>au) (λa b=>fX a λx=>if id="str.join" then kB b (λ_ o=>match o with
 | .list l=>(match mw l with
  |some ys=>if od x ys<=1000000 then pure (.str (Txt.join x ys))else au
  |none=>au)
 |_=>au)else au) q9
def Sl{id:String}{vs:List V}{cs:List Value}(r:aX w φ O s.heap)(pv:aD s.heap φ vs cs):cn w A φ O s (PySem.call (.builtin id) cs []) (joinM id vs) λh φ v c=>ao h φ v c:=by
 show .args (T:=λcs=>PySem.call (.builtin id) cs []) pv (λ_ _ _=> .fail) (λa b c d p q=> .fX (T:=λc=>PySem.call (.builtin id) [c,d] []) p λx t=> .named (T:=λid=>PySem.call (.builtin id) [.str x t,d] []) (.kB (T:=λd=>PySem.call (.builtin "str.join") [.str x t,d] []) q λj o a hj hl=>?_) .fail) λ_ _ _ _ _ _ _ _ _=> .fail;induction o with
 |list l=>
  show aj (r.objs j a _ hj hl) λcs h1 h2=>?_;dsimp only;cases hy:mw l with
  |none=>show .fail
  |some ys=>show .guard λh0=> .one (join_list h1.isList (by show GY h2 hy) (by show a9 `A `D) λt' k=>cC r jK)
 |_=>show .fail
abbrev isRef:V->Bool
 | .ref _=>true
 |_=>false
abbrev vR(K:W.Frag)(id:String)(vs:List V):M V:=match vs with
 |[]=>au
 |a::r=>match a with
  | .con _=>if id="re.Pattern.search" then searchM K id vs else tc K id vs
  | .ref _=>if id="next" then x5 K id vs else m8 id vs
  | .lst _=>if id="len" then m8 id vs else if id="iter" then x5 K id vs else s9 id vs
  | .dO .. =>x5 K id vs
  | .str _=>if(r.head?.map isRef).getD false=true then joinM id vs else Bv id vs
  |_=>Bv id vs
def bc.either{α β:Type}{Y:List Addr}{t:Sem α}{m m':M β}{R:Heap->Ph->β->α->Prop}{c:Prop} [Decidable c](h:bc Y w A φ O s t m R)(h':bc Y w A φ O s t m' R):bc Y w A φ O s t (if c then m else m') R:=by
 split
 ·show h
 ·show h'
def Sm{id:String}{vs:List V}{cs:List Value}(hh:A.handled=none)(r:aX w φ O s.heap)(b:cO K φ s.heap)(pv:aD s.heap φ vs cs):cn w A φ O s (PySem.call (.builtin id) cs []) (vR K id vs) λh φ v c=>ao h φ v c:=by
 induction vs with
 |nil=>show .fail
 |cons a l=>
  cases a with
  |con c=>show .either (Sd r b pv) (QM r b pv)
  |ref j=>show .either (Bz r pv) (G2 r b pv)
  |lst l=>show .either (G2 r b pv) (.either (Bz r pv) (QE hh r pv))
  |dO f v=>show Bz r pv
  |str x=>show .either (Sl r pv) (G0 r pv)
  |_=>show G0 r pv
abbrev Cb(T:String)(vs:List V):M V:=if T="list" then HT vs else if T="range" then G6 vs else if T="type" then vB vs else au
def Sn{T:String}{vs:List V}{cs:List Value}(hh:A.handled=none)(r:aX w φ O s.heap)(pv:aD s.heap φ vs cs):cn w A φ O s (PySem.call (.type T) cs []) (Cb T vs) λh φ v c=>ao h φ v c:=by
 unfold Cb;split
 ·rename_i h;subst h;show Sh hh r pv
 ·split
  ·rename_i h;subst h;show QF r pv
  ·split
   ·rename_i h;subst h;show QK r pv
   ·show .fail
abbrev Cc(K:W.Frag)(X:Runner)(f:V)(vs:List V)(aC:List (Str×V)):M V:=match f with
 | .con (.builtin id)=>if aC.isEmpty=true then vR K id vs else au
 | .con (.type T)=>if aC.isEmpty=true then Cb T vs else au
 | .con (.ref g)=>if iI K=some g then(if aC.isEmpty=true then(do let fd<-bJ (fM K g);rv K X fd vs)else au)else if(fM K g).isSome=true then jv K X g vs aC else rm K X g vs aC
 | .dO (.ref g) o=>jv K X g (o::vs) aC
 | .fK l=>Hr X l vs aC
 |_=>au
abbrev Cd(K:W.Frag)(Ex:aG->Runner):Nat->aG
 |0=>λ_ _ _=>au
 |n+1=>Cc K (Ex (Cd K Ex n))
abbrev Ce(n:Nat)(A:Around):Prop:=A.handled=none/\A.depth+2*n<recursionLimit/\A.units+6*n+12<cLine
abbrev vS(K:W.Frag):Prop:=∀g fd,iI K=some g->fM K g=some fd->fd.body= .stmts jY/\fd.scope=ia
abbrev HU(K:W.Frag)(w:World)(Ex:aG->Runner):Prop:=∀A F,A.handled=none->A.units+10<cLine->gO K w A F->gO K w A.in1 F->mx K w A (Ex F)
variable{F:aG}{X:Runner}{Ex:aG->Runner}
def HV{f:Value}{cs:List Value}{bo:List (Str×Value)}{v:V}(h:codeAny (Mo w) A (.call f ⟨cs,bo⟩) (kN [] w φ s v aa) s):
  wpAny (Mo w) A (PySem.call f cs bo) (λc s'=>∃aB,Step φ s aB s'/\aX w aB aa s'.heap/\ao s'.heap aB v c) (λ_ _=>False) s:=
 wpAny_call (codeAny_mono h λr s' So=>dg So λc aB e x r' p=>by subst e;show bj aB x r' p)
def Cf{h:Heap}{bo:List (Str×Value)}(p:hH h φ [] bo):bo=[]:=by
 have:=p.1;simpa using this.symm
def Cg{f:V}{vs:List V}{aC:List (Str×V)}{cf:Value}{cs:List Value}{bo:List (Str×Value)}{v:V}(gQ:A.depth+1<recursionLimit)(hh:A.handled=none)(hL:vS K)(r:aX w φ O s.heap)(b:cO K φ s.heap)(pf:ao s.heap φ f cf)(pv:aD s.heap φ vs cs)(pk:hH s.heap φ aC bo)
  (hX:∀env,mx K w (A.deeper env) X) (vT:∀C cs bo env,mx K w ((A.under (.builtin "type.__call__" ⟨.ref C::cs,bo⟩)).deeper env) X) (e:Cc K X f vs aC O=some (v,aa)) (hf:∀c,f= .con c->∃g,c= .ref g):
  codeAny (Mo w) A (.call cf ⟨cs,bo⟩) (kN [] w φ s v aa) s:=by
 cases f with
 |con c=>
  show aU (hf c rfl) λg aF=>?_;subst aF;subst pf;change (if iI K=some g then(if aC.isEmpty=true then(do let fd<-bJ (fM K g);rv K X fd vs)else au)else if(fM K g).isSome=true then jv K X g vs aC else rm K X g vs aC) O=_ at e;by_cases h1:iI K=some g
  ·rw[az h1]at e
   show aI (fO e) λh2 e2=>?_;show aj (jQ e2) λfd oq e3=>?_;have o7:aC=[]:=List.isEmpty_iff.mp h2;subst o7;have oU:=Cf pk;subst oU;show fg (BS oq) λd sl hk=>?_;show RP hh `L r b (b.k _ _ hk) rfl (hL g fd h1 oq) ?_ pv hX e3;unfold qE;simp only[h1,Option.bind_some,oq,Option.bind_some]
  ·rw[aN h1]at e
   by_cases h2:(fM K g).isSome=true
   ·rw[az h2]at e
    show HA `L r b pv pk hX e
   ·rw[aN h2]at e
    show Q7 gQ r b pv pk (vT g cs bo) e
 |dO g o=>
  induction g with
  |ref g=>
   show dg pf λa d ay _ ho po=>?_;subst ay;show W.method_call ho (HA `L r b ?_ pk hX e);show cF d cs rfl po pv
  |_=>show jI (show(au:M V) O=_ from e)
 |fK l=>show Q2 `L r b pf pv pk hX e
 |_=>show jI (show(au:M V) O=_ from e)
def Sp(gQ:A.depth+1<recursionLimit)(hh:A.handled=none)(hL:vS K)(hX:∀env,mx K w (A.deeper env) X)(vT:∀C cs bo env,mx K w ((A.under (.builtin "type.__call__" ⟨.ref C::cs,bo⟩)).deeper env) X):gO K w A (Cc K X):=by
 show⟨λf vs aC cf cs bo φ O s r b pf pv pk=>?_,λf vs cf cs φ O s hf r b pf pv v aa e=>?_⟩
 ·intro v aa e
  by_cases q:f.ctorIdx=4
  ·show aU (V.con.elim (motive_1:=λf=>∃c,f= .con c) f q λc=>⟨c,rfl⟩) λc hr=>?_;subst hr
   subst pf;induction cf with
   |builtin id=>
    show aI (fO (e)) λh1 e1=>?_;have o7:aC=[]:=List.isEmpty_iff.mp h1;subst o7;have oU:=Cf pk;subst oU;show Sm hh r b pv v aa e1
   |type T=>
    show aI (fO (e)) λh1 e1=>?_;have o7:aC=[]:=List.isEmpty_iff.mp h1;subst o7;have oU:=Cf pk;subst oU;show Sn hh r pv v aa e1
   |ref g=>show HV (Cg gQ hh hL r b (f:= .con (.ref g)) rfl pv pk hX vT e λc hc=>⟨g,(V.con.inj hc).symm⟩)
   |_=>show jI (show(au:M V) O=_ from e)
  ·show HV (Cg gQ hh hL r b pf pv pk hX vT e λc hc=>absurd (hc▸rfl:f.ctorIdx=4) q)
 ·show Cg gQ hh hL r b pf pv ⟨rfl,nc⟩ hX vT e λc hc=>?_
  subst hc;cases hf
def vU(hL:vS K)(ti:HU K w Ex):∀(n:Nat) (A:Around),Ce n A->gO K w A (Cd K Ex n)
 |0,A,_=>⟨λ_ _ _ _ _ _ _ _ _ _ _ _ _ _=> .fail,λ_ _ _ _ _ _ _ _ _ _ _ _ _ _ e=>by cases e⟩
 |n+1,A,⟨h1,h2,h3⟩=>by
  show Sp `L h1 hL (λenv=>?_) λC cs bo env=>?_
  ·show ti _ _ h1 (by simp only[Around.deeper_units];lia) (vU hL ti n _ (cW h1 ?_ ?_)) (vU hL ti n _ ⟨h1,?_,?_⟩)
   ·change A.depth+1+2*n<_;lia
   ·change A.units+3+6*n+12<_;lia
   ·change A.depth+1+2*n<_;lia
   ·change A.units+3+1+6*n+12<_;lia
  ·have d:(A.under (.builtin "type.__call__" ⟨.ref C::cs,bo⟩)).depth=A.depth+1:=rfl
   have u:(A.under (.builtin "type.__call__" ⟨.ref C::cs,bo⟩)).units=A.units+1:=rfl;show ti _ _ h1 ?_ (vU hL ti n _ (cW h1 ?_ ?_)) (vU hL ti n _ (cW h1 ?_ ?_))
   ·change(A.under (.builtin "type.__call__" ⟨.ref C::cs,bo⟩)).units+3+10<_;rw[u];lia
   ·change(A.under (.builtin "type.__call__" ⟨.ref C::cs,bo⟩)).depth+1+2*n<_;rw[d];lia
   ·change(A.under (.builtin "type.__call__" ⟨.ref C::cs,bo⟩)).units+3+6*n+12<_;rw[u];lia
   ·change(A.under (.builtin "type.__call__" ⟨.ref C::cs,bo⟩)).depth+1+2*n<_;rw[d];lia
   ·change(A.under (.builtin "type.__call__" ⟨.ref C::cs,bo⟩)).units+3+1+6*n+12<_;rw[u];lia
noncomputable abbrev iw:=Scope->ab->Expr->M V
noncomputable abbrev nk:=Scope->ab->Expr->M Bool
noncomputable abbrev yp:=Scope->ab->Stmt->M (ab×Fl)
abbrev isNil(e:Expr):Bool:=if h:e.ctorIdx=24 then Expr.List.elim (motive_1:=λ_=>Bool) e h λl _=>l.isEmpty else false
def Sq{e:Expr}(h:isNil e=true):∃p,e= .List [] p:=by
 unfold isNil at h;by_cases q:e.ctorIdx=24
 ·show fg (Expr.List.elim (motive_1:=λe=>∃l p,e= .List l p) e q λl p=>gk l p rfl) λl p hr=>?_
  subst hr;show⟨p,aJ (Expr.List · p) (List.isEmpty_iff.mp h)⟩
 ·rw[dif_neg q]at h;show mN h
abbrev rA(ev:iw)(sc:Scope)(J:ab)(e:Expr):M V:=if isNil e=true then pure (.lst [])else ev sc J e
abbrev Ci(ev:iw)(sc:Scope)(J:ab):Option Expr->M V
 |none=>pure .none
 |some e=>ev sc J e
abbrev ix(l:List V):M V:=λO=>some (.ref O.length,O++[.list l])
abbrev yq:M V:=λO=>some (.ref O.length,O++[.dict []])
abbrev Cj(l:List V):M V:=if l.length<=1000000 then pure (.lst l)else au
abbrev Ck(l:List V):M V:=if l.length<=1000000 then pure (.tup l)else au
abbrev yr(sc:Scope):List Str:=(sc.names.filter λx=>x.2== .free).map (·.1)
abbrev nq(ns:List Str)(J:ab):ab:=J.filter λp=>ns.contains p.1
abbrev eJ(ns:List Str)(v:V)(J:ab):Option ab:=match v with
 | .tup vs=>if ns.length=vs.length then some (bindAll ns vs J)else none
 |_=>none
abbrev bf(x:Str)(v:V)(J:ab):Option ab:=some ((x,v)::J)
abbrev ja(sc:Scope)(t:Expr):V->ab->Option ab:=if h:t.ctorIdx=23 then Expr.Name.elim (motive_1:=λ_=>V->ab->Option ab) t h λx _=>if cR sc x=true then bf x else λ_ _=>none
 else if h:t.ctorIdx=25 then Expr.Tuple.elim (motive_1:=λ_=>V->ab->Option ab) t h λes _ _=>match namesOf es with
  |some ns=>if ns.all (cR sc)=true then eJ ns else λ_ _=>none
  |none=>λ_ _=>none
 else λ_ _=>none
def Sr{sc:Scope}{es:List Expr}{ns:List Str}(h:namesOf es=some ns)(hk:ns.all (cR sc)=true)(vs:List V)(J:ab):qN sc es vs J=if ns.length=vs.length then some (bindAll ns vs J)else none:=by
 unfold qN;simp only[h];change(if ns.all (cR sc)=true/\ns.length=vs.length then some (bindAll ns vs J)else none)=_;by_cases hl:ns.length=vs.length
 ·rw[az ⟨hk,hl⟩,az hl]
 ·rw[aN (λq=>hl q.2),aN hl]
abbrev my(sc:Scope)(t:Expr):Bool:=if h:t.ctorIdx=23 then Expr.Name.elim (motive_1:=λ_=>Bool) t h λx _=>cR sc x
 else if h:t.ctorIdx=25 then Expr.Tuple.elim (motive_1:=λ_=>Bool) t h λes _ _=>match namesOf es with
  |some ns=>ns.all (cR sc)
  |none=>false
 else false
set_option tactic.hygienic true in
def Cm{sc:Scope}{t:Expr}(h:my sc t=true):pN sc t=ja sc t:=by
 funext v J;by_cases q1:t.ctorIdx=23
 ·show fg (eName q1) λx p hr=>?_;subst hr
  have h:cR sc x=true:=h;change(if cR sc x=true then some ((x,v)::J)else none)=(if cR sc x=true then bf x else λ_ _=>none) v J;rw[az h,az h];rfl
 by_cases q2:t.ctorIdx=25
 ·show jG (Ak q2) λes k p hr=>?_;subst hr
  have h:(match namesOf es with|some ns=>ns.all (cR sc)|none=>false)=true:=h;cases hn:namesOf es with
  |none=>rw[hn]at h;show mN h
  |some ns=>
   rw[hn]at h;have e1:ja sc (.Tuple es k p)=eJ ns:=by
    change(match namesOf es with|some ns=>if ns.all (cR sc)=true then eJ ns else λ_ _=>none|none=>λ_ _=>none)=_;show(hn)▸(az h)
   rw[e1];cases v<;>first|rfl|skip
   rename_i vs;change qN sc es vs J=_;rw[Sr hn h];rfl
 delta my at h;rw[dif_neg q1,dif_neg q2]at h;show mN h
abbrev bp(bind:V->ab->Option ab)(tests:ab->List (M Bool))(inner:ab->List V->M (ab×List V))(v:V)(p:ab×List V):M (ab×List V):=do
 let a6<-bJ (bind v p.1)
 let ok<-kP (tests a6)
 if ok=true then inner a6 p.2 else pure (a6,p.2)
abbrev bw(e:ab->M V)(J:ab)(aq:List V):M (ab×List V):=do
 let x<-e J
 if aq.length<1000000 then pure (J,aq++[x])else au
abbrev lN(first:M V)(turn:V->ab×List V->M (ab×List V))(J:ab)(aq:List V):M (ab×List V):=do
 let xs<-first
 let it<-ey xs
 if it.own=true then iZ turn (mX it) it (J,aq)else au
abbrev tj(ev:ab->Expr->M V)(b0:ab->Expr->M Bool)(sc:Scope)(elt:Expr):List Comprehension->ab->List V->M (ab×List V)
 |[]=>bw λJ=>ev J elt
 |g::gs=>λJ aq=>lN (ev J g.iter) (bp (ja sc g.target) (λJ=>g.ifs.map (b0 J)) (tj ev b0 sc elt gs)) J aq
abbrev eB(ns:List Str)(first:M V)(turn:V->ab×List V->M (ab×List V))(J:ab):M (List V):=do
 let r<-lN first turn (nq ns J) []
 pure r.2
abbrev yt(ev:iw)(b0:nk)(elt:Expr)(g:Comprehension)(gs:List Comprehension)(scope:Scope)(first:M V)(J:ab):M (List V):=
 eB (yr scope) first (bp (ja scope g.target) (λJ=>g.ifs.map (b0 scope J)) (tj (ev scope) (b0 scope) scope elt gs)) J
def Ss{sc bS:Scope}(ok:nX sc bS=true)(J:ab):pU bS J=nq (yr bS) J:=by
 delta pU nq;congr 1;funext p;obtain⟨x,v⟩:=p;dsimp only;by_cases h:bS.names.lookup x=some .free
 ·rw[h]
  have:x∈yr bS:=List.mem_map.mpr (aA (x,.free) (List.mem_filter.mpr ⟨mem_of_lookup h,rfl⟩) rfl);simp[this]
 ·have:x∉yr bS:=λq=>by
   show aj (cG q) λkU h1 h2=>?_;obtain⟨y,k⟩:=kU;show aI (List.mem_filter.mp h1) λh3 h4=>?_;dsimp only at h2 h4;subst h2;rw[dN h4]at h3;show h ((qT ok).2.1 _ _ h3)
  simp[this,h]
def HW{α β γ:Type}(m:M α)(f:α->M β)(g:β->M γ):((m>>=f)>>=g)=(m>>=λx=>f x>>=g):=by
 funext O;change((m O).bind λp=>f p.1 p.2).bind (λp=>g p.1 p.2)=(m O).bind λp=>(f p.1 p.2).bind λq=>g q.1 q.2;cases m O with
 |none=>rfl
 |some p=>rfl
def HX(c:i0):∀(gs:List Comprehension),(∀g∈gs,my c.sc g.target=true)->(∀J aq,uZ c gs J aq=tj c.ev c.b0 c.sc c.elt gs J aq)/\∀g,my c.sc g.target=true->mf c gs g=bp (ja c.sc g.target) (λJ=>g.ifs.map (c.b0 J)) (tj c.ev c.b0 c.sc c.elt gs)
 |[],_=>⟨λ_ _=>rfl,λg hg=>by rw[<-Cm hg];funext v p;rfl⟩
 |g'::gs,oS=>by
  show aI (HX c gs λg hg=>oS g (.tail _ hg)) λh1 h2=>?_;have h3:∀J aq,uZ c (g'::gs) J aq=tj c.ev c.b0 c.sc c.elt (g'::gs) J aq:=λJ aq=>by
   change(do let xs<-c.ev J g'.iter;let it<-ey xs;if it.own=true then iZ (mf c gs g') (mX it) it (J,aq)else au:M (ab×List V))=_;rw[h2 g' (oS g' (.head _))];rfl
  show⟨h3,λg hg=>?_⟩;rw[<-Cm hg];funext v p;obtain⟨J,aq⟩:=p;rw[Gd];have:uZ c (g'::gs)=tj c.ev c.b0 c.sc c.elt (g'::gs):=by funext J aq;show h3 J aq
  rw[this];rfl
def HY{sc:Scope}(ev:iw)(b0:nk)(elt:Expr)(g:Comprehension)(gs:List Comprehension)(scope:Scope)(first:M V)(J:ab)(ok:nX sc scope=true)(hg:my scope g.target=true)(oS:∀g∈gs,my scope g.target=true):vd ⟨scope,ev scope,b0 scope,elt⟩ first gs g J=yt ev b0 elt g gs scope first J:=by
 delta vd yt eB lN;rw[Ss ok,(HX ⟨scope,ev scope,b0 scope,elt⟩ gs oS).2 g hg,HW];congr 1;funext xs;rw[HW];congr 1;funext it;by_cases h:it.own=true
 ·rw[az h,az h]
 ·rw[aN h,aN h];rfl
abbrev yu(sc scope:Scope)(g:Comprehension)(gs:List Comprehension):Bool:=
 nX sc scope&&g.is_async==0&&lG g.iter&&my scope g.target&&gs.all λg'=>g'.is_async==0&&lG g'.iter&&my scope g'.target
abbrev Cn(args:List Expr)(bL:List Keyword):Bool:=args.all jr&&bL.all uP
abbrev HZ(o:Expr)(args:List Expr)(bL:List Keyword)(apos pos:Pos):Bool:=uQ o&&apos.endLine==pos.line&&FP args bL&&Cn args bL
abbrev Co:List Keyword->Option Expr
 |[k]=>if k.arg.isNone=true then some k.value else none
 |_=>none
set_option tactic.hygienic true in
def Su{bL:List Keyword}{e:Expr}(h:Co bL=some e):∃q,bL=[⟨none,e,q⟩]:=by
 cases bL with
 |nil=>show fD h
 |cons k r=>
  cases r with
  |cons _ _=>show fD h
  |nil=>
   obtain⟨a,v,q⟩:=k;show aI (fi h) λh1 h=>?_;cases Option.isNone_iff_eq_none.mp h1;cases(bN h:v=e);show⟨q,rfl⟩
abbrev Cp(K:W.Frag)(F:aG)(ev:iw)(sc:Scope)(J:ab)(f:Expr)(args:List Expr)(bL:List Keyword):M V:=match Co bL with
 |some e=>if args.all jr=true then(do let v<-ev sc J f;if gq K v=true then(do let vs<-dR (args.map (ev sc J));let d<-ev sc J e;let aC<-rp d;F v vs aC)else au)else au
 |none=>if Cn args bL=true then(do let v<-ev sc J f;if gq K v=true then kz F v [] (args.map (ev sc J)) (bL.filterMap (·.arg)) (bL.map λk=>ev sc J k.value)else au)else au
abbrev Sv(ev:iw)(sc:Scope)(J:ab)(x i:Expr):M V:=if h:i.ctorIdx=26 then Expr.Slice.elim (motive_1:=λ_=>M V) i h λlo hi st _=>match st with
  |none=>do let a<-ev sc J x;let l<-Ci ev sc J lo;let h<-Ci ev sc J hi;nQ a l h
  |some _=>do let a<-ev sc J x;let b<-ev sc J i;jM a b
 else do let a<-ev sc J x;let b<-ev sc J i;jM a b
abbrev Sw(K:W.Frag)(F:aG)(ev:iw)(sc:Scope)(J:ab)(f:Expr)(args:List Expr)(bL:List Keyword)(pos:Pos):M V:=if h:f.ctorIdx=20 then Expr.Attribute.elim (motive_1:=λ_=>M V) f h λo name apos=>if HZ o args bL apos pos=true then(do let v<-ev sc J o;let fx<-gR K v name;if gq K fx.1=true then kz F fx.1 fx.2 (args.map (ev sc J)) (bL.filterMap (·.arg)) (bL.map λk=>ev sc J k.value)else au)else au
 else Cp K F ev sc J f args bL
abbrev H0(K:W.Frag)(F:aG)(ev:iw)(b0:nk)(sc:Scope)(J:ab):Expr->M V
 | .Name x _=>AL K sc J x
 | .Constant c _ _=>Ah c
 | .BinOp l op r _=>do let a<-ev sc J l;let b<-ev sc J r;fk op a b
 | .UnaryOp op x _=>do let a<-ev sc J x;sL op a
 | .IfExp t a b _=>do let c<-b0 sc J t;if c=true then ev sc J a else ev sc J b
 | .Compare l c5 es _=>if lastMarks c5 es=false then(do let a<-rA ev sc J l;let k<-iK (eA K) a c5 (es.map (rA ev sc J));pure (.bool k))else au
 | .Subscript x i _=>Sv ev sc J x i
 | .Attribute o n _=>if uQ o=true then(do let a<-ev sc J o;ju K a n)else au
 | .List [] _=>ix []
 | .List es _=>if es.all jr=true then(do let l<-dR (es.map (ev sc J));Cj l)else au
 | .Tuple es _ _=>if es.all jr=true then(do let l<-dR (es.map (ev sc J));Ck l)else au
 | .Dict [] [] _=>yq
 | .ListComp elt (g::gs) scope _=>if yu sc scope g gs=true then(do let l<-yt ev b0 elt g gs scope (ev sc J g.iter) J;pure (.lst l))else au
 | .Call f args bL pos=>Sw K F ev sc J f args bL pos
 |_=>au
abbrev H3(K:W.Frag)(ev:iw)(b0:nk)(sc:Scope)(J:ab):Expr->M Bool
 | .UnaryOp .Not x _=>do let b<-b0 sc J x;pure (!b)
 | .BoolOp op es _=>eu op (es.map (b0 sc J))
 | .IfExp x y z _=>do let b<-b0 sc J x;if b=true then b0 sc J y else b0 sc J z
 | .Compare l c5 es _=>if lastMarks c5 es=false then(do let a<-rA ev sc J l;iK (eA K) a c5 (es.map (rA ev sc J)))else au
 |e=>do let v<-ev sc J e;mR v
abbrev qg(K:W.Frag)(F:aG):Nat->iw×nk
 |0=>(λ_ _ _=>au,λ_ _ _=>au)
 |d+1=>(H0 K F (qg K F d).1 (qg K F d).2,H3 K (qg K F d).1 (qg K F d).2)
variable{env:Env}{J:ab}{sc:Scope}
abbrev mz(K:W.Frag)(w:World)(A:Around)(ev:iw):Prop:=∀sc env,dX sc env->∀J e,Ev K w A env J (eval e env) (ev sc J e)
abbrev qh(K:W.Frag)(w:World)(A:Around)(b0:nk):Prop:=∀sc env,dX sc env->∀J e,gp K w A env J (isTrue e env (eval e env)) (b0 sc J e)
def tn{t:Sem Value}:Ev K w A env J t au:=λ_ _ _ _=> .fail
def H4{t:Sem Bool}:gp K w A env J t au:=λ_ _ _ _=> .fail
def o8{t:Sem Value}{c:Prop} [Decidable c]{m:M V}(h:c->Ev K w A env J t m):Ev K w A env J t (if c then m else au):=by
 split
 ·show h ‹_›
 ·show tn
def Sx{t:Sem Bool}{c:Prop} [Decidable c]{m:M Bool}(h:c->gp K w A env J t m):gp K w A env J t (if c then m else au):=by
 split
 ·show h ‹_›
 ·show H4
def Cq{ev:iw}(h:mz K w A ev)(hl:dX sc env)(e:Expr):Ev K w A env J (eval e env) (rA ev sc J e):=by
 unfold rA;by_cases q:isNil e=true
 ·rw[az q]
  show aU (Sq q) λp hr=>?_;subst hr;show Bt (elts:=[]) (ev:=λ_=>au) rfl (λe he=>nomatch he)
 ·rw[aN q]
  show h sc env hl J _
def H5{ev:iw}(h:mz K w A ev)(hl:dX sc env)(o:Option Expr):Ev K w A env J (valueOrNone (evalOpt o env)) (Ci ev sc J o):=by
 induction o with
 |none=>show λφ O s n v aa e=>by apply g4 (fh e).symm;show aW (cC n.rel (by delta ao;rfl))
 |some e=>show h sc env hl J e
def H6:∀es:List Expr,evalEach es env=es.map λe=>eval e env
 |[]=>rfl
 |e::es=>by show aJ _ (H6 es)
def H7{ev:iw}(h:mz K w A ev)(hl:dX sc env)(es:List Expr):fo (Ev K w A env J) (evalEach es env) (es.map (rA ev sc J)):=by
 simp only[H6];show xw λa _=>Cq h hl a
def qi{scope:Scope}{g:Comprehension}{gs:List Comprehension}(h:yu sc scope g gs=true):nX sc scope=true/\g.is_async=0/\lG g.iter=true/\(∀g'∈gs,g'.is_async=0/\lG g'.iter=true)/\my scope g.target=true/\∀g'∈gs,my scope g'.target=true:=by
 simp only[yu,Bool.and_eq_true,beq_iff_eq,List.all_eq_true]at h;show EM h.1.1.1.1 h.1.1.1.2 h.1.1.2 (λg' hg=>(h.2 g' hg).1) h.1.2 (λg' hg=>(h.2 g' hg).2)
variable{ev:iw}{b0:nk}
def Sy(hF:gO K w A F)(he:mz K w A ev)(hl:dX sc env){f:Expr}{args:List Expr}{bL:List Keyword}{p:Pos}(hp:AB f=true):Ev K w A env J (eval (.Call f args bL p) env) (Cp K F ev sc J f args bL):=by
 have E:=λe=>he sc env hl J e;unfold Cp;cases hs:Co bL with
 |some e=>
  show aU (Su hs) λq aF=>?_;subst aF;show o8 λhs=>Ri hF hp hs (E f) (λe _=>E e) (E e)
 |none=>show o8 λhc=>N7 hF hp (fb hc).1 (fb hc).2 (E f) (λe _=>E e) λk _=>E k.value
def Sz(hh:A.handled=none)(hu:A.units+8<cLine)(hF:gO K w A F)(he:mz K w A ev)(ht:qh K w A b0):mz K w A (H0 K F ev b0):=by
 intro sc env hl J e;have E:=λe=>he sc env hl J e;have T:=λe=>ht sc env hl J e;cases e with
 |Name x p=>show Oz hl x p
 |Constant c k p=>show Nb c k p
 |BinOp l op r p=>show Nq op p (E l) (E r)
 |UnaryOp op x p=>show Nt op p (E x)
 |IfExp t a b p=>show NH (T t) (E a) (E b)
 |Compare l c5 es p=>show o8 λhm=>NM (Hf hu) hm (Cq he hl l) (H7 he hl es)
 |Subscript x i p=>
  by_cases q:i.ctorIdx=26
  ·show sE (Nf q) λlo hi st q hr=>?_;subst hr
   induction st with
   |none=>show N1 (E x) (H5 he hl lo) (H5 he hl hi)
   |some st=>show FE (E x) (E _)
  ·show Eq.mpr (aJ (Ev K w A env J _) (dif_neg q)) (FE (E x) (E i))
 |Attribute o n p=>show o8 λhn=>PR hn (E o)
 |List es p=>
  induction es with
  |nil=>show GW (elts:=[]) (ev:=λ_=>au) rfl (λe he=>nomatch he)
  |cons a es=>show o8 λhs=>Bt (elts:=a::es) hs λe _=>E e
 |Tuple es k p=>show o8 λhs=>Qg hs λe _=>E e
 |Dict ks vs p=>
  cases ks with
  |nil=>induction vs with
   |nil=>show Qf
   |cons _ _=>show tn
  |cons _ _=>cases vs<;>show tn
 |ListComp elt gens scope p=>
  induction gens with
  |nil=>show tn
  |cons g gs=>
   show o8 λhc=>?_;show EJ (qi hc) λh1 h2 h3 h4 h5 h6=>?_;rw[<-HY ev b0 elt g gs scope _ J h1 h5 h6];show Gy (c:=⟨scope,ev scope,b0 scope,elt⟩) hh hl h1 h2 h3 h4 (E _) (λez fP J e=>he scope ez fP J e) λez fP J e=>ht scope ez fP J e
 |Call f args bL p=>
  by_cases q:f.ctorIdx=20
  ·show jG (Al q) λo name apos hr=>?_;subst hr
   ·show o8 λhc=>?_
    simp only[HZ,Cn,Bool.and_eq_true]at hc
    symm
    obtain⟨⟨⟨h1,h2⟩,h3⟩,h4,h5⟩:=hc;left;show N8 hF Sk h1 h2 h3 h4 h5 (E o) (λe _=>E e) λk _=>E k.value
  ·show Eq.mpr (aJ (Ev K w A env J _) (dif_neg q)) (Sy hF he hl (bne_iff_ne.mpr q))
 |_=>show tn
def SA(hu:A.units+8<cLine)(he:mz K w A ev)(ht:qh K w A b0):qh K w A (H3 K ev b0):=by
 intro sc env hl J e;have E:=λe=>he sc env hl J e;have T:=λe=>ht sc env hl J e;cases e with
 |UnaryOp op x p=>
  induction op with
  |Not=>show NF (T x)
  |_=>show Fz (E _)
 |BoolOp op es p=>show NI (AZ λa _=>T a)
 |IfExp x y z p=>show NG (T x) (T y) (T z)
 |Compare l c5 es p=>show Sx λhm=>NO (Hf hu) hm (Cq he hl l) (H7 he hl es)
 |_=>show Fz (E _)
def Cr(hh:A.handled=none)(hu:A.units+8<cLine)(hF:gO K w A F):∀d,mz K w A (qg K F d).1/\qh K w A (qg K F d).2
 |0=>⟨λ_ _ _ _ _=>tn,λ_ _ _ _ _=>H4⟩
 |d+1=>by
  show aI (Cr hh hu hF d) λh1 h2=>?_;show⟨Sz hh hu hF h1 h2,SA hu h1 h2⟩
abbrev Cs(e:Expr):Bool:=e.ctorIdx==19
abbrev vV(sc:Scope)(J:ab)(y:Str)(v:V):M (ab×Fl):=if cR sc y=true then pure ((y,v)::J,.next)else au
abbrev d8(K:W.Frag)(F:aG)(bind:V->ab->Option ab)(first:M V)(body du:ab->M (ab×Fl))(J:ab):M (ab×Fl):=do
 let xs<-first
 let it<-ey xs
 let r<-fQ (fq K F) (λv J=>do let a6<-bJ (bind v J);body a6) (mX it) it J
 match r.2 with
 |none=>du r.1
 |some f=>pure (r.1,f)
def SD(K:W.Frag)(F:aG){sc:Scope}{t:Expr}(h:my sc t=true)(first:M V)(body du:ab->M (ab×Fl))(J:ab):forM K F sc t first body du J=d8 K F (ja sc t) first body du J:=by
 rw[<-Cm h];rfl
abbrev H8(ev:iw)(b0:nk)(sc:Scope)(J:ab)(y:Str)(value:Expr):M (ab×Fl):=if h:value.ctorIdx=8 then Expr.ListComp.elim (motive_1:=λ_=>M (ab×Fl)) value h λelt gens scope _=>(match gens with
  |g::gs=>if yu sc scope g gs=true then(do let l<-yt ev b0 elt g gs scope (ev sc J g.iter) J;vV sc J y (.lst l))else au
  |[]=>au)
 else if h:value.ctorIdx=24 then Expr.List.elim (motive_1:=λ_=>M (ab×Fl)) value h λelts _=>if elts.all Cs=true then(do let v<-(do let l<-dR (elts.map (ev sc J));if l.length<=1000000 then ix l else au);vV sc J y v)else(do let v<-(if elts.all jr=true then(do let l<-dR (elts.map (ev sc J));Cj l)else au);vV sc J y v)
 else if m6 value=true then(do let v<-ev sc J value;vV sc J y v)else au
abbrev H9(K:W.Frag)(ev:iw)(b0:nk)(sc:Scope)(J:ab)(ts:List Expr)(value:Expr):M (ab×Fl):=match ts with
 |[]=>au
 |t::r=>match r with
  |_::_=>au
  |[]=>if h:t.ctorIdx=23 then Expr.Name.elim (motive_1:=λ_=>M (ab×Fl)) t h λy _=>H8 ev b0 sc J y value
   else if h:t.ctorIdx=25 then Expr.Tuple.elim (motive_1:=λ_=>M (ab×Fl)) t h λes _ _=>if m6 value=true then(match sY sc es value with
     |some ns=>do
      let v<-ev sc J value
      match v with
      | .tup vs=>if ns.length=vs.length then pure (bindAll ns vs J,.next)else au
      |_=>au
     |none=>au)else au
   else if h:t.ctorIdx=20 then Expr.Attribute.elim (motive_1:=λ_=>M (ab×Fl)) t h λo name _=>if m6 value=true then(do let v<-ev sc J value;let a<-ev sc J o;lL K a name v;pure (J,.next))else au
   else if h:t.ctorIdx=21 then Expr.Subscript.elim (motive_1:=λ_=>M (ab×Fl)) t h λo i _=>if m6 value=true then(do let v<-ev sc J value;let a<-ev sc J o;let k<-ev sc J i;mu a k v;pure (J,.next))else au
   else au
abbrev SE(K:W.Frag)(ev:iw)(sc:Scope)(J:ab)(t:Expr)(op:Operator)(value:Expr):M (ab×Fl):=if h:t.ctorIdx=23 then Expr.Name.elim (motive_1:=λ_=>M (ab×Fl)) t h λy _=>do let a<-xX sc J y;let b<-ev sc J value;let v<-kK op a b;vV sc J y v
 else if h:t.ctorIdx=20 then Expr.Attribute.elim (motive_1:=λ_=>M (ab×Fl)) t h λo name _=>do let a<-ev sc J o;let u<-ju K a name;let b<-ev sc J value;let v<-kK op u b;lL K a name v;pure (J,.next)
 else au
abbrev Ia(K:W.Frag)(F:aG)(ev:iw)(b0:nk)(ex:yp)(bD:Nat)(sc:Scope)(J:ab):Stmt->M (ab×Fl)
 | .Expr e _=>if m6 e=true then(do let _<-ev sc J e;pure (J,.next))else au
 | .Assign ts value _=>H9 K ev b0 sc J ts value
 | .AugAssign t op value _=>SE K ev sc J t op value
 | .If jT body du _=>do let b<-b0 sc J jT;if b=true then n6 (ex sc) body J else n6 (ex sc) du J
 | .For t iter body du _=>if(lG iter&&my sc t)=true then d8 K F (ja sc t) (ev sc J iter) (n6 (ex sc) body) (n6 (ex sc) du) J else au
 | .While jT body du _=>n9 (λJ=>b0 sc J jT) (n6 (ex sc) body) (n6 (ex sc) du) bD J
 | .Return (some e) _=>do let v<-ev sc J e;pure (J,.ret v)
 | .Break _=>pure (J,.brk)
 | .Continue _=>pure (J,.cont)
 |_=>au
abbrev Ct(K:W.Frag)(F:aG)(ev:iw)(b0:nk)(bD:Nat):Nat->yp
 |0=>λ_ _ _=>au
 |d+1=>Ia K F ev b0 (Ct K F ev b0 bD d) bD
variable{Y:List Addr}{ex:yp}{bD:Nat}
abbrev Cu(K:W.Frag)(w:World)(A:Around)(ex:yp):Prop:=∀sc env Y,dX sc env->∀J st,St K w A Y sc env (exec st env) J (ex sc J st)
def ov{t:Sem Flow}:St K w A Y sc env t J au:=λ_ _ _ _ _=> .fail
def rB{t:Sem Flow}{c:Prop} [Decidable c]{m:M (ab×Fl)}(h:c->St K w A Y sc env t J m):St K w A Y sc env t J (if c then m else au):=by
 split
 ·show h ‹_›
 ·show ov
def SF{es:List Expr}(h:es.all Cs=true):es.all jr=true:=List.all_eq_true.mpr λe he=>
 bne_iff_ne.mpr λq=>absurd ((eq_of_beq (List.all_eq_true.mp h e he)).symm.trans q) `D
def SG(hh:A.handled=none)(he:mz K w A ev)(ht:qh K w A b0)(hl:dX sc env){y:Str}{value:Expr}{q p:Pos}:St K w A Y sc env (exec (.Assign [.Name y q] value p) env) J (H8 ev b0 sc J y value):=by
 have E:=λJ e=>he sc env hl J e;by_cases q:value.ctorIdx=8
 ·show sE (Nh q) λelt gens scope cp hr=>?_;subst hr
  induction gens with
  |nil=>show ov
  |cons g gs=>
   show rB λhc=>?_;show(HY ev b0 elt g gs scope _ J (qi hc).1 (qi hc).2.2.2.2.1 (qi hc).2.2.2.2.2)▸(Pn (c:=⟨scope,ev scope,b0 scope,elt⟩) hh hl (qi hc).1 (qi hc).2.1 (qi hc).2.2.1 (qi hc).2.2.2.1 (E J _) (λez fP J e=>he scope ez fP J e) λez fP J e=>ht scope ez fP J e)
 by_cases q':value.ctorIdx=24
 ·show fg (eList q') λelts lp hr=>?_;subst hr
  change St K w A Y sc env _ J (if elts.all Cs=true then _ else _);split
  ·rename_i hc
   show Bg rfl (GW (SF hc) λe _=>E J e)
  ·show Bg rfl (o8 λhs=>Bt hs λe _=>E J e)
 show Eq.mpr (aJ (St K w A Y sc env _ J) ((dif_neg q).trans (dif_neg q'))) (rB λhc=>Bg hc (E J _))
def SH(hh:A.handled=none)(he:mz K w A ev)(ht:qh K w A b0)(hl:dX sc env){ts:List Expr}{value:Expr}{p:Pos}:St K w A Y sc env (exec (.Assign ts value p) env) J (H9 K ev b0 sc J ts value):=by
 have E:=λJ e=>he sc env hl J e;cases ts with
 |nil=>show ov
 |cons t r=>
  induction r with
  |cons _ _=>show ov
  |nil=>
   by_cases q1:t.ctorIdx=23
   ·show fg (eName q1) λy q hr=>?_;subst hr
    show SG hh he ht hl
   by_cases q2:t.ctorIdx=25
   ·show jG (Ak q2) λes k q hr=>?_;subst hr
    show rB λhc=>?_;cases SI:sY sc es value with
    |none=>show ov
    |some ns=>show Pk hh hc SI (E J value)
   by_cases q3:t.ctorIdx=20
   ·show jG (Al q3) λo name q hr=>?_;subst hr
    show rB λhc=>P7 hc (E J value) (E J o)
   by_cases q4:t.ctorIdx=21
   ·show jG (Ng q4) λo i q hr=>?_;subst hr
    show rB λhc=>P9 hc (E J value) (E J o) (E J i)
   show Eq.mpr (aJ (St K w A Y sc env _ J) ((dif_neg q1).trans ((dif_neg q2).trans ((dif_neg q3).trans (dif_neg q4))))) ov
def SJ(hh:A.handled=none)(hF:gO K w A.in1 F)(he:mz K w A ev)(ht:qh K w A b0)(hx:Cu K w A ex):Cu K w A (Ia K F ev b0 ex bD):=by
 intro sc env Y hl J st;have E:=λJ e=>he sc env hl J e;have B:∀body J,St K w A Y sc env (execs body env) J (n6 (ex sc) body J):=λbody=>Be λst _ J=>hx sc env Y hl J st;cases st with
 |Expr e p=>show rB λhc=>O9 hc (E J e)
 |Assign ts value p=>show SH hh he ht hl
 |AugAssign t op value p=>
  by_cases q1:t.ctorIdx=23
  ·show fg (eName q1) λy q hr=>?_;subst hr
   show PH hl (E J value)
  by_cases q3:t.ctorIdx=20
  ·show jG (Al q3) λo name q hr=>?_;subst hr
   show Qa (E J value) (E J o)
  show Eq.mpr (aJ (St K w A Y sc env _ J) ((dif_neg q1).trans (dif_neg q3))) ov
 |If jT body du p=>show O5 ((λJ e=>ht sc env hl J e) J jT) (B body J) (B du J)
 |For t iter body du p=>
  show rB λhg=>?_;rw[<-SD K F (fb hg).2];show PB hh hF (fb hg).1 (E J iter) (λJ=>B body J) λJ=>B du J
 |While jT body du p=>show PD bD (λJ=>(λJ e=>ht sc env hl J e) J jT) (λJ=>B body J) λJ=>B du J
 |Return o p=>
  induction o with
  |none=>show ov
  |some e=>show O4 (E J e)
 |Break p=>show O1 p
 |Continue p=>show O2 p
 |_=>show ov
def Ib(hh:A.handled=none)(hF:gO K w A.in1 F)(he:mz K w A ev)(ht:qh K w A b0):∀d,Cu K w A (Ct K F ev b0 bD d)
 |0=>λ_ _ _ _ _ _=>ov
 |d+1=>SJ hh hF he ht (Ib hh hF he ht d)
abbrev cz(K:W.Frag)(F:aG):Runner:=λsc body J=>n6 (Ct K F (qg K F 30).1 (qg K F 30).2 1000 30 sc) body J
def SM{K:W.Frag}{w:World}:HU K w (cz K):=λA F hh hu h1 h2 sc body Y env hl J=>by
 show Be (λst _ J=>Ib hh h2 (Cr hh `L h1 30).1 (Cr hh `L h1 30).2 30 sc env Y hl J st) J
noncomputable abbrev aY(K:W.Frag)(n:Nat):aG:=Cd K (cz K) n
def SN{K:W.Frag}{w:World}(hL:vS K)(n:Nat)(A:Around)(h:Ce n A):gO K w A (aY K n):=vU hL SM n A h
end
section
abbrev lk(J:ab)(x:Str):M V:=bJ (J.lookup x)
abbrev gl(K:W.Frag)(x:Str):M V:=bJ (mP K x)
abbrev av(op:Operator)(a b:M V):M V:=do let x<-a;let y<-b;fk op x y
abbrev kZ(op:UnaryOp)(a:M V):M V:=do let x<-a;sL op x
abbrev eN(t:M Bool)(a b:M V):M V:=do let c<-t;if c=true then a else b
abbrev yv(K:W.Frag)(a:M V)(c5:List CmpOp)(ms:List (M V)):M V:=do let x<-a;let k<-iK (eA K) x c5 ms;pure (.bool k)
abbrev gu(x lo hi:M V):M V:=do let a<-x;let l<-lo;let h<-hi;nQ a l h
abbrev bl(x i:M V):M V:=do let a<-x;let b<-i;jM a b
abbrev d9(K:W.Frag)(o:M V)(n:Str):M V:=do let a<-o;ju K a n
abbrev eC(ms:List (M V)):M V:=do let l<-dR ms;Cj l
abbrev dA(ms:List (M V)):M V:=do let l<-dR ms;Ck l
abbrev aL(K:W.Frag)(F:aG)(f:M V)(args:List (M V))(ns:List Str)(ks:List (M V)):M V:=do let v<-f;if gq K v=true then kz F v [] args ns ks else au
abbrev a4(K:W.Frag)(F:aG)(o:M V)(name:Str)(args:List (M V))(ns:List Str)(ks:List (M V)):M V:=do let v<-o;let fx<-gR K v name;if gq K fx.1=true then kz F fx.1 fx.2 args ns ks else au
abbrev Cv(K:W.Frag)(F:aG)(f:M V)(args:List (M V))(d:M V):M V:=do let v<-f;if gq K v=true then(do let vs<-dR args;let d<-d;let aC<-rp d;F v vs aC)else au
abbrev cU(ns:List Str)(first:M V)(turn:V->ab×List V->M (ab×List V))(J:ab):M V:=do let l<-eB ns first turn J;pure (.lst l)
abbrev SO(t:M Bool):M Bool:=do let b<-t;pure (!b)
abbrev ifT(t a b:M Bool):M Bool:=do let c<-t;if c=true then a else b
abbrev aQ(K:W.Frag)(a:M V)(c5:List CmpOp)(ms:List (M V)):M Bool:=do let x<-a;iK (eA K) x c5 ms
abbrev ib(e:M V):M Bool:=do let v<-e;mR v
abbrev ar(m:M (ab×Fl))(k:ab->M (ab×Fl)):M (ab×Fl):=do
 let q<-m
 match q.2 with
 | .next=>k q.1
 |f=>pure (q.1,f)
abbrev j0(e:M V)(J:ab):M (ab×Fl):=do let _<-e;pure (J,Fl.next)
abbrev bH(y:Str)(e:M V)(J:ab):M (ab×Fl):=do let v<-e;pure ((y,v)::J,Fl.next)
abbrev Cw(y:Str)(ms:List (M V))(J:ab):M (ab×Fl):=do let v<-(do let l<-dR ms;if l.length<=1000000 then ix l else au);pure ((y,v)::J,Fl.next)
abbrev iy(y:Str)(m:M (List V))(J:ab):M (ab×Fl):=do let l<-m;pure ((y,V.lst l)::J,Fl.next)
abbrev j9(ns:List Str)(e:M V)(J:ab):M (ab×Fl):=do
 let v<-e
 match v with
 | .tup vs=>if ns.length=vs.length then pure (bindAll ns vs J,.next)else au
 |_=>au
abbrev qj(K:W.Frag)(o:M V)(n:Str)(e:M V)(J:ab):M (ab×Fl):=do let v<-e;let a<-o;lL K a n v;pure (J,Fl.next)
abbrev pe(o i e:M V)(J:ab):M (ab×Fl):=do let v<-e;let a<-o;let k<-i;mu a k v;pure (J,Fl.next)
abbrev lO(y:Str)(op:Operator)(e:M V)(J:ab):M (ab×Fl):=do let a<-lk J y;let b<-e;let v<-kK op a b;pure ((y,v)::J,Fl.next)
abbrev Cx(K:W.Frag)(o:M V)(n:Str)(op:Operator)(e:M V)(J:ab):M (ab×Fl):=do let a<-o;let u<-ju K a n;let b<-e;let v<-kK op u b;lL K a n v;pure (J,Fl.next)
abbrev c6(t:M Bool)(a b:M (ab×Fl)):M (ab×Fl):=do let c<-t;if c=true then a else b
abbrev cK(e:M V)(J:ab):M (ab×Fl):=do let v<-e;pure (J,Fl.ret v)
abbrev aE(J:ab):M (ab×Fl):=pure (J,Fl.next)
abbrev bC(i:Nat):Stmt:=match(PG.main.body[i]? :Option Stmt)with
 |some s=>s
 |none=> .Pass ⟨0,0,0,0⟩
abbrev dG(i j:Nat):Stmt:=if h:(bC i).ctorIdx=2 then Stmt.ClassDef.elim (motive_2:=λ_=>Stmt) (bC i) h λ_ _ _ body _ _ _ _ _ _ _=>(body[j]?).getD (.Pass ⟨0,0,0,0⟩)else bC i
abbrev dY:Stmt->List Stmt
 | .FunctionDef _ _ body _ _ _ _ _ _ _=>body
 |_=>[]
abbrev dC:Stmt->Scope
 | .FunctionDef _ _ _ _ _ _ sc _ _ _=>sc
 |_=>{kind:= .function,names:=[],isGenerator:=false,isCoroutine:=false,more:=[]}
abbrev gS:Stmt->Arguments
 | .FunctionDef _ args _ _ _ _ _ _ _ _=>args
 |_=>{posonlyargs:=[],args:=[],vararg:=none,kwonlyargs:=[],kw_defaults:=[],kwarg:=none,defaults:=[]}
abbrev readBody:List Stmt:=match sF with
 |some (_,b,_)=>b
 |none=>[]
abbrev tr:Scope:=match sF with
 |some (_,_,sc)=>sc
 |none=>ia
abbrev Ic:Arguments:=match sF with
 |some (p,_,_)=>p
 |none=>gS (.Pass ⟨0,0,0,0⟩)
set_option maxRecDepth 1000000
abbrev Cy(K:W.Frag)(F:aG)(J:ab):M (ab×Fl):=ar (Cw `names [] J) λJ=>ar (d8 K F (bf `i) (aL K F (gl K `range) [(pure (.int 32))] [] []) (λJ=>ar (bH `flag (av .LShift (pure (.int 1)) (lk J `i)) J) λJ=>ar (c6 (ib (av .BitAnd (lk J `flags) (lk J `flag))) (ar (j0 (a4 K F (lk J `names) `append [(a4 K F (gl K `COMPILER_FLAG_NAMES) `get [(lk J `flag),(aL K F (gl K `hex) [(lk J `flag)] [] [])] [] [])] [] []) J) λJ=>ar (lO `flags .BitXor (lk J `flag) J) λJ=>ar (c6 (SO (ib (lk J `flags))) (ar (pure (J,Fl.brk)) λJ=>aE J) (aE J)) λJ=>aE J) (aE J)) λJ=>aE J) (λJ=>ar (j0 (a4 K F (lk J `names) `append [(aL K F (gl K `hex) [(lk J `flags)] [] [])] [] []) J) λJ=>aE J) J) λJ=>ar (cK (a4 K F (pure (.str (", ":Str))) `join [(lk J `names)] [] []) J) λJ=>aE J
def SP(K:W.Frag)(F:aG):cz K F (dC (bC 4)) (dY (bC 4))=Cy K F:=by kernel_rfl
abbrev Cz(K:W.Frag)(F:aG)(J:ab):M (ab×Fl):=ar (c6 (aQ K (lk J `get_name) [.IsNot] [(pure .none)]) (ar (bH `argval (Cv K F (lk J `get_name) [(lk J `name_index)] (lk J `extrainfo)) J) λJ=>ar (cK (dA [(lk J `argval),(lk J `argval)]) J) λJ=>aE J) (ar (cK (dA [(gl K `UNKNOWN),(pure (.str ("":Str)))]) J) λJ=>aE J)) λJ=>aE J
def Ie(K:W.Frag)(F:aG):cz K F (dC (bC 7)) (dY (bC 7))=Cz K F:=by kernel_rfl
abbrev Ig(K:W.Frag)(F:aG)(J:ab):M (ab×Fl):=ar (bH `b (aL K F (gl K `next) [(lk J `iterator)] [] []) J) λJ=>ar (bH `val (av .BitAnd (lk J `b) (pure (.int 63))) J) λJ=>ar (n9 (λJ=>(ib (av .BitAnd (lk J `b) (pure (.int 64))))) (λJ=>ar (lO `val .LShift (pure (.int 6)) J) λJ=>ar (bH `b (aL K F (gl K `next) [(lk J `iterator)] [] []) J) λJ=>ar (lO `val .BitOr (av .BitAnd (lk J `b) (pure (.int 63))) J) λJ=>aE J) (λJ=>aE J) 1000 J) λJ=>ar (cK (lk J `val) J) λJ=>aE J
def SQ(K:W.Frag)(F:aG):cz K F (dC (bC 8)) (dY (bC 8))=Ig K F:=by kernel_rfl
abbrev Ih(K:W.Frag)(F:aG)(J:ab):M (ab×Fl):=ar (cK (yv K (aL K F (gl K `ord) [(lk J `code)] [] []) [.In] [(gl K `b1_set)]) J) λJ=>aE J
def SR(K:W.Frag)(F:aG):cz K F (dC (bC 13)) (dY (bC 13))=Ih K F:=by kernel_rfl
abbrev Ii(K:W.Frag)(F:aG)(J:ab):M (ab×Fl):=ar (bH `r (a4 K F (gl K `b3_exceptions) `get [(aL K F (gl K `ord) [(lk J `code)] [] [])] [] []) J) λJ=>ar (c6 (aQ K (lk J `r) [.IsNot] [(pure .none)]) (ar (cK (lk J `r) J) λJ=>aE J) (aE J)) λJ=>ar (cK (a4 K F (lk J `code) `lower [] [] []) J) λJ=>aE J
def SS(K:W.Frag)(F:aG):cz K F (dC (bC 15)) (dY (bC 15))=Ii K F:=by kernel_rfl
abbrev Ij(K:W.Frag)(F:aG)(J:ab):M (ab×Fl):=ar (bH `shown (a4 K F (pure (.str ("":Str))) `join [(cU [] (lk J `text) (bp (bf `sign) (λJ=>[(aQ K (aL K F (gl K `in_table_b1) [(lk J `sign)] [] []) [.IsNot] [(pure (.bool true))])]) (bw λJ=>(lk J `sign))) J)] [] []) J) λJ=>ar (cK (dA [(lk J `shown),(a4 K F (pure (.str ("":Str))) `join [(cU [] (lk J `text) (bp (bf `sign) (λJ=>[(aQ K (aL K F (gl K `in_table_b1) [(lk J `sign)] [] []) [.Is] [(pure (.bool false))])]) (bw λJ=>(aL K F (gl K `map_table_b3) [(lk J `sign)] [] []))) J)] [] [])]) J) λJ=>aE J
def SU(K:W.Frag)(F:aG):cz K F (dC (bC 22)) (dY (bC 22))=Ij K F:=by kernel_rfl
abbrev Ik(K:W.Frag)(F:aG)(J:ab):M (ab×Fl):=ar (c6 (aQ K (lk J `n) [.Lt] [(pure (.int 9))]) (ar (cK (dA [(bl (pure (.str ("ﬀﬁﬂﬃﬄﬅﬆßſ":Str))) (lk J `n)),(bl (a4 K F (pure (.str ("ff fi fl ffi ffl st st ss s":Str))) `split [(pure (.str (" ":Str)))] [] []) (lk J `n))]) J) λJ=>aE J) (aE J)) λJ=>ar (bH `letter (bl (pure (.str `filst)) (av .Mod (av .Sub (lk J `n) (pure (.int 9))) (pure (.int 5)))) J) λJ=>ar (iy `great (eB [`letter] (eC [(pure (.int 0)),(pure (.int 1)),(pure (.int 2)),(pure (.int 4)),(pure (.int 7)),(pure (.int 8)),(pure (.int 9)),(pure (.int 10)),(pure (.int 11)),(pure (.int 12))]) (bp (bf `k) (λJ=>[]) (bw λJ=>(aL K F (gl K `chr) [(av .Add (av .Add (pure (.int 119711)) (av .Mult (pure (.int 52)) (lk J `k))) (aL K F (gl K `ord) [(lk J `letter)] [] []))] [] []))) J) J) λJ=>ar (cK (dA [(bl (av .Add (eC [(lk J `letter),(a4 K F (lk J `letter) `upper [] [] [])]) (lk J `great)) (av .FloorDiv (av .Sub (lk J `n) (pure (.int 9))) (pure (.int 5)))),(lk J `letter)]) J) λJ=>aE J
def SV(K:W.Frag)(F:aG):cz K F (dC (bC 23)) (dY (bC 23))=Ik K F:=by kernel_rfl
abbrev Il(K:W.Frag)(F:aG)(J:ab):M (ab×Fl):=ar (bH `kept (bl (eC [(pure (.str ("":Str))),(pure (.str ("":Str))),(pure (.str ("\"\\":Str))),(pure (.str (" \n\t\r\\":Str)))]) (lk J `way)) J) λJ=>ar (bH `slashed (a4 K F (pure (.str ("":Str))) `join [(cU [`kept,`way] (lk J `word) (bp (bf `sign) (λJ=>[]) (bw λJ=>(eN (eu .Or [(aQ K (lk J `way) [.Lt] [(pure (.int 2))]),(aQ K (lk J `sign) [.In] [(lk J `kept)])]) (av .Add (pure (.str ("\\":Str))) (lk J `sign)) (lk J `sign)))) J)] [] []) J) λJ=>ar (cK (bl (eC [(av .Add (av .Add (lk J `white) (lk J `slashed)) (lk J `white)),(av .Add (av .Add (pure (.str ("\"":Str))) (lk J `slashed)) (pure (.str ("\"":Str)))),(av .Add (av .Add (av .Add (lk J `white) (pure (.str ("\"":Str)))) (lk J `slashed)) (pure (.str ("\"":Str)))),(av .Add (av .Add (lk J `white) (lk J `slashed)) (lk J `white))]) (lk J `way)) J) λJ=>aE J
def SW(K:W.Frag)(F:aG):cz K F (dC (bC 24)) (dY (bC 24))=Il K F:=by kernel_rfl
abbrev SX(K:W.Frag)(F:aG)(J:ab):M (ab×Fl):=ar (Cw `cells [(pure (.int 100398)),(pure (.int 5525)),(pure (.int 76251)),(pure (.int 7541660))] J) λJ=>ar (d8 K F (bf `i) (aL K F (gl K `range) [(aL K F (gl K `len) [(lk J `script)] [] [])] [] []) (λJ=>ar (pe (lk J `cells) (av .Mod (lk J `i) (pure (.int 4))) (av .Add (bl (lk J `cells) (av .Mod (lk J `i) (pure (.int 4)))) (bl (lk J `script) (lk J `i))) J) λJ=>aE J) (λJ=>aE J) J) λJ=>ar (bH `last (av .Mod (bl (lk J `cells) (pure (.int 3))) (av .Pow (pure (.int 10)) (pure (.int 7)))) J) λJ=>ar (iy `sides (eB [] (cU [] (gu (lk J `cells) (pure .none) (pure (.int 3))) (bp (bf `cell) (λJ=>[]) (bw λJ=>(av .Mod (lk J `cell) (av .Pow (pure (.int 10)) (pure (.int 7)))))) J) (bp (bf `n) (λJ=>[]) (λJ aq=>lN (eC [(eC [(av .Mod (lk J `n) (pure (.int 69))),(av .Mod (av .FloorDiv (lk J `n) (pure (.int 4761))) (pure (.int 138)))]),(eC [(av .Mod (av .FloorDiv (lk J `n) (pure (.int 69))) (pure (.int 69)))])]) (bp (bf `side) (λJ=>[]) (bw λJ=>(lk J `side))) J aq)) J) J) λJ=>ar (bH `unseen (av .Add (eC [(pure (.int 173)),(pure (.int 847)),(pure (.int 6150)),(pure (.int 6155)),(pure (.int 6156)),(pure (.int 6157)),(pure (.int 8203)),(pure (.int 8204)),(pure (.int 8205)),(pure (.int 8288)),(pure (.int 65279))]) (aL K F (gl K `list) [(aL K F (gl K `range) [(pure (.int 65024)),(pure (.int 65040))] [] [])] [] [])) J) λJ=>ar (j9 [`typed,`pairs,`whole] (dA [(ix []),(ix []),(pure (.str ("":Str)))]) J) λJ=>ar (d8 K F (bf `k) (aL K F (gl K `range) [(pure (.int 7))] [] []) (λJ=>ar (bH `strange (bl (pure (.str ("\" \n\t\r\\\u00a0":Str))) (av .Mod (av .Add (av .FloorDiv (lk J `last) (pure (.int 20))) (lk J `k)) (pure (.int 7)))) J) λJ=>ar (iy `signs (eB [] (bl (av .Add (lk J `sides) (lk J `sides)) (lk J `k)) (bp (bf `c) (λJ=>[(aQ K (lk J `c) [.Lt] [(pure (.int 69))])]) (bw λJ=>(aL K F (gl K `_law_sign) [(lk J `c)] [] []))) J) J) λJ=>ar (j0 (a4 K F (lk J `pairs) `append [(dA [(a4 K F (pure (.str ("":Str))) `join [(cU [`strange] (lk J `signs) (bp (eJ [`sign,`meaning]) (λJ=>[]) (bw λJ=>(av .Add (lk J `sign) (lk J `strange)))) J)] [] []),(a4 K F (pure (.str ("":Str))) `join [(cU [`strange] (lk J `signs) (bp (eJ [`sign,`meaning]) (λJ=>[]) (bw λJ=>(av .Add (lk J `meaning) (lk J `strange)))) J)] [] [])])] [] []) J) λJ=>ar (bH `beside (a4 K F (pure (.str ("":Str))) `join [(cU [] (gu (gu (lk J `unseen) (av .Mod (av .Add (av .FloorDiv (lk J `last) (pure (.int 20))) (av .Mult (pure (.int 9)) (lk J `k))) (pure (.int 54))) (pure .none)) (pure .none) (pure (.int 1))) (bp (bf `c) (λJ=>[]) (bw λJ=>(aL K F (gl K `chr) [(lk J `c)] [] []))) J)] [] []) J) λJ=>ar (j0 (a4 K F (lk J `typed) `append [(eN (aQ K (av .Mod (lk J `k) (pure (.int 2))) [.Eq] [(pure (.int 0))]) (av .Add (lk J `beside) (bl (bl (lk J `pairs) (lk J `k)) (pure (.int 0)))) (av .Add (bl (bl (lk J `pairs) (lk J `k)) (pure (.int 0))) (lk J `beside)))] [] []) J) λJ=>ar (bH `whole (av .Add (lk J `whole) (aL K F (gl K `_law_written) [(bl (lk J `typed) (lk J `k)),(av .Mod (av .FloorDiv (av .FloorDiv (lk J `last) (pure (.int 560))) (av .Pow (pure (.int 4)) (lk J `k))) (pure (.int 4))),(bl (pure (.str ("\n\t\r ":Str))) (av .Mod (av .Add (lk J `last) (lk J `k)) (pure (.int 4))))] [] [])) J) λJ=>aE J) (λJ=>aE J) J) λJ=>ar (iy `order (eB [`last] (aL K F (gl K `range) [(pure (.int 5))] [] []) (bp (bf `k) (λJ=>[]) (bw λJ=>(av .LShift (pure (.int 1)) (av .Mod (av .Add (lk J `last) (av .Mult (av .Add (pure (.int 1)) (av .Mod (av .FloorDiv (lk J `last) (pure (.int 5))) (pure (.int 4)))) (lk J `k))) (pure (.int 5)))))) J) J) λJ=>ar (cK (dA [(lk J `typed),(lk J `pairs),(gu (lk J `whole) (pure .none) (kZ .USub (pure (.int 1)))),(lk J `order),(av .Mod (av .FloorDiv (lk J `last) (pure (.int 20))) (pure (.int 28)))]) J) λJ=>aE J
def SY(K:W.Frag)(F:aG):cz K F (dC (bC 25)) (dY (bC 25))=SX K F:=by kernel_rfl
abbrev Im(K:W.Frag)(F:aG)(J:ab):M (ab×Fl):=ar (d8 K F (bf `column) (lk J `order) (λJ=>ar (bH `more (av .BitAnd (lk J `held) (kZ .Invert (lk J `column))) J) λJ=>ar (d8 K F (bf `turn) (aL K F (gl K `range) [(pure (.int 3))] [] []) (λJ=>ar (d8 K F (eJ [`left,`right]) (lk J `rules) (λJ=>ar (bH `more (eN (aQ K (av .BitAnd (lk J `more) (lk J `left)) [.Eq] [(lk J `left)]) (av .BitOr (lk J `more) (lk J `right)) (lk J `more)) J) λJ=>aE J) (λJ=>aE J) J) λJ=>aE J) (λJ=>aE J) J) λJ=>ar (bH `held (eN (aQ K (lk J `more) [.Eq] [(pure (.int 31))]) (av .BitAnd (lk J `held) (kZ .Invert (lk J `column))) (lk J `held)) J) λJ=>aE J) (λJ=>aE J) J) λJ=>ar (cK (lk J `held) J) λJ=>aE J
def S0(K:W.Frag)(F:aG):cz K F (dC (bC 26)) (dY (bC 26))=Im K F:=by kernel_rfl
abbrev Io(K:W.Frag)(F:aG)(J:ab):M (ab×Fl):=ar (iy `figures (eB [`n] (aL K F (gl K `range) [(pure (.int 5)),(kZ .USub (pure (.int 1))),(kZ .USub (pure (.int 1)))] [] []) (bp (bf `k) (λJ=>[(eu .Or [(aQ K (lk J `k) [.Eq] [(pure (.int 0))]),(aQ K (av .RShift (lk J `n) (av .Mult (pure (.int 6)) (lk J `k))) [.Gt] [(pure (.int 0))])])]) (bw λJ=>(av .Add (eN (aQ K (lk J `k) [.Gt] [(pure (.int 0))]) (pure (.int 64)) (pure (.int 0))) (av .Mod (av .RShift (lk J `n) (av .Mult (pure (.int 6)) (lk J `k))) (pure (.int 64)))))) J) J) λJ=>ar (cK (a4 K F (pure (.str ("":Str))) `join [(cU [] (lk J `figures) (bp (bf `c) (λJ=>[]) (bw λJ=>(aL K F (gl K `chr) [(eN (aQ K (pure (.int 31)) [.Lt,.Lt] [(lk J `c),(pure (.int 127))]) (lk J `c) (av .Add (lk J `c) (pure (.int 128))))] [] []))) J)] [] []) J) λJ=>aE J
def S4(K:W.Frag)(F:aG):cz K F (dC (bC 27)) (dY (bC 27))=Io K F:=by kernel_rfl
abbrev CA(K:W.Frag)(F:aG)(J:ab):M (ab×Fl):=ar (j9 [`found,`came,`laid,`waiting] (dA [(eC [(aL K F (gl K `_law_least) [(pure (.int 31)),(lk J `rules),(lk J `order)] [] [])]),(ix []),yq,(pure (.int 0))]) J) λJ=>ar (d8 K F (bf `turn) (aL K F (gl K `range) [(pure (.int 11))] [] []) (λJ=>ar (d8 K F (bf `k) (aL K F (gl K `range) [(aL K F (gl K `len) [(lk J `found)] [] [])] [] []) (λJ=>ar (bH `name (eN (aQ K (lk J `k) [.Eq] [(pure (.int 1))]) (a4 K F (aL K F (gl K `pretty_flags) [(av .LShift (bl (lk J `found) (lk J `k)) (lk J `low))] [] []) `lower [] [] []) (aL K F (gl K `pretty_flags) [(av .LShift (bl (lk J `found) (lk J `k)) (lk J `low))] [] [])) J) λJ=>ar (j9 [`octets,`rows] (dA [(aL K F (gl K `_law_octets) [(av .LShift (bl (lk J `found) (lk J `k)) (lk J `low))] [] []),(aL K F (gl K `len) [(a4 K F (lk J `table) `keys [] [] [])] [] [])]) J) λJ=>ar (bH `handed (eN (aQ K (a4 K F (lk J `name) `lower [] [] []) [.In] [(lk J `laid)]) (av .Add (pure (.str ("@":Str))) (lk J `octets)) (lk J `octets)) J) λJ=>ar (bH `due (a4 K F (lk J `laid) `get [(a4 K F (lk J `name) `lower [] [] []),(lk J `octets)] [] []) J) λJ=>ar (c6 (aQ K (aL K F (gl K `_get_name_info) [(lk J `name),(d9 K (lk J `table) `setdefault)] [`value] [(lk J `handed)]) [.NotEq] [(dA [(lk J `due),(lk J `due)])]) (ar (cK (ix []) J) λJ=>aE J) (aE J)) λJ=>ar (c6 (eu .And [(aQ K (aL K F (gl K `len) [(a4 K F (lk J `table) `keys [] [] [])] [] []) [.Gt] [(lk J `rows)]),(aQ K (a4 K F (lk J `lexer) `push_token [(lk J `name)] [] []) [.Is] [(pure .none)])]) (ar (pe (lk J `laid) (a4 K F (lk J `name) `lower [] [] []) (lk J `octets) J) λJ=>ar (bH `waiting (av .Add (lk J `waiting) (pure (.int 1))) J) λJ=>aE J) (aE J)) λJ=>aE J) (λJ=>aE J) J) λJ=>ar (c6 (aQ K (lk J `waiting) [.Eq] [(pure (.int 0))]) (ar (cK (lk J `came) J) λJ=>aE J) (aE J)) λJ=>ar (j9 [`name,`waiting] (dA [(a4 K F (lk J `lexer) `get_token [] [] []),(av .Sub (lk J `waiting) (pure (.int 1)))]) J) λJ=>ar (j0 (a4 K F (lk J `came) `append [(lk J `name)] [] []) J) λJ=>ar (bH `due (bl (lk J `laid) (a4 K F (lk J `name) `lower [] [] [])) J) λJ=>ar (bH `told (aL K F (gl K `_get_name_info) [(eN (aQ K (lk J `name) [.Eq] [(a4 K F (lk J `name) `lower [] [] [])]) (a4 K F (lk J `name) `upper [] [] []) (a4 K F (lk J `name) `lower [] [] [])),(d9 K (lk J `table) `get)] [] []) J) λJ=>ar (c6 (eu .Or [(aQ K (lk J `told) [.NotEq] [(dA [(lk J `due),(lk J `due)])]),(aQ K (bl (aL K F (gl K `_get_name_info) [(lk J `name),(pure .none)] [] []) (pure (.int 1))) [.NotEq] [(pure (.str ("":Str)))])]) (ar (cK (ix []) J) λJ=>aE J) (aE J)) λJ=>ar (bH `key (av .RShift (aL K F (gl K `_parse_varint) [(aL K F (gl K `iter) [(cU [] (lk J `due) (bp (bf `octet) (λJ=>[]) (bw λJ=>(aL K F (gl K `ord) [(lk J `octet)] [] []))) J)] [] [])] [] []) (lk J `low)) J) λJ=>ar (iy `found (eB [`key,`order,`rules] (lk J `rules) (bp (eJ [`left,`right]) (λJ=>[]) (bw λJ=>(aL K F (gl K `_law_least) [(av .BitOr (lk J `left) (av .BitAnd (lk J `key) (kZ .Invert (lk J `right)))),(lk J `rules),(lk J `order)] [] []))) J) J) λJ=>aE J) (λJ=>aE J) J) λJ=>ar (cK (ix []) J) λJ=>aE J
def S5(K:W.Frag)(F:aG):cz K F (dC (bC 28)) (dY (bC 28))=CA K F:=by kernel_rfl
abbrev Ip(K:W.Frag)(F:aG)(J:ab):M (ab×Fl):=ar (iy `closed (eB [`rules] (aL K F (gl K `range) [(pure (.int 31))] [] []) (bp (bf `c) (λJ=>[(aQ K (cU [`c] (lk J `rules) (bp (eJ [`left,`right]) (λJ=>[(eu .And [(aQ K (av .BitAnd (lk J `c) (lk J `left)) [.Eq] [(lk J `left)]),(aQ K (av .BitAnd (lk J `c) (lk J `right)) [.NotEq] [(lk J `right)])])]) (bw λJ=>(pure (.int 1)))) J) [.Eq] [(pure (.lst []))])]) (bw λJ=>(lk J `c))) J) J) λJ=>ar (iy `wide (eB [`closed] (aL K F (gl K `range) [(pure (.int 32))] [] []) (bp (bf `c) (λJ=>[(aQ K (cU [`c] (lk J `closed) (bp (bf `d) (λJ=>[(aQ K (av .BitOr (lk J `c) (lk J `d)) [.Eq] [(lk J `d)])]) (bw λJ=>(pure (.int 1)))) J) [.Eq] [(pure (.lst []))])]) (bw λJ=>(lk J `c))) J) J) λJ=>ar (cK (cU [`wide] (lk J `wide) (bp (bf `c) (λJ=>[(aQ K (cU [`c] (lk J `wide) (bp (bf `d) (λJ=>[(eu .And [(aQ K (lk J `d) [.NotEq] [(lk J `c)]),(aQ K (av .BitAnd (lk J `c) (lk J `d)) [.Eq] [(lk J `d)])])]) (bw λJ=>(pure (.int 1)))) J) [.Eq] [(pure (.lst []))])]) (bw λJ=>(lk J `c))) J) J) λJ=>aE J
def S6(K:W.Frag)(F:aG):cz K F (dC (bC 29)) (dY (bC 29))=Ip K F:=by kernel_rfl
abbrev Iq(K:W.Frag)(F:aG)(J:ab):M (ab×Fl):=ar (bH `names (pure (.str ("OPTIMIZED NEWLOCALS VARARGS VARKEYWORDS NESTED GENERATOR NOFREE COROUTINE ITERABLE_COROUTINE ASYNC_GENERATOR":Str))) J) λJ=>ar (cK (a4 K F (pure (.str (", ":Str))) `join [(cU [`names,`number] (aL K F (gl K `range) [(pure (.int 32))] [] []) (bp (bf `k) (λJ=>[(ib (av .BitAnd (av .RShift (lk J `number) (lk J `k)) (pure (.int 1))))]) (bw λJ=>(eN (aQ K (lk J `k) [.Lt] [(pure (.int 10))]) (bl (a4 K F (lk J `names) `split [(pure (.str (" ":Str)))] [] []) (lk J `k)) (aL K F (gl K `hex) [(av .LShift (pure (.int 1)) (lk J `k))] [] [])))) J)] [] []) J) λJ=>aE J
def S7(K:W.Frag)(F:aG):cz K F (dC (bC 30)) (dY (bC 30))=Iq K F:=by kernel_rfl
abbrev CB(K:W.Frag)(F:aG)(J:ab):M (ab×Fl):=ar (j9 [`typed,`pairs,`whole,`order,`low] (aL K F (gl K `_law_drawn) [(lk J `script)] [] []) J) λJ=>ar (bH `lexer (aL K F (gl K `_law_lexer) [(lk J `whole)] [] []) J) λJ=>ar (iy `got (eB [`lexer] (aL K F (gl K `range) [(pure (.int 6))] [] []) (bp (bf `turn) (λJ=>[]) (bw λJ=>(a4 K F (lk J `lexer) `get_token [] [] []))) J) J) λJ=>ar (c6 (eu .Or [(aQ K (lk J `got) [.NotEq] [(gu (lk J `typed) (pure .none) (pure (.int 6)))]),(aQ K (cU [] (lk J `got) (bp (bf `one) (λJ=>[]) (bw λJ=>(aL K F (gl K `_law_prepared) [(lk J `one)] [] []))) J) [.NotEq] [(gu (lk J `pairs) (pure .none) (pure (.int 6)))])]) (ar (cK (pure (.bool false)) J) λJ=>aE J) (aE J)) λJ=>ar (iy `sets (eB [] (lk J `pairs) (bp (eJ [`shown,`meant]) (λJ=>[]) (bw λJ=>(aL K F (gl K `sum) [(cU [`meant] (aL K F (gl K `range) [(pure (.int 5))] [] []) (bp (bf `k) (λJ=>[(aQ K (bl (pure (.str `filst)) (lk J `k)) [.In] [(lk J `meant)])]) (bw λJ=>(av .LShift (pure (.int 1)) (lk J `k)))) J)] [] []))) J) J) λJ=>ar (bH `rules (eC [(dA [(bl (lk J `sets) (pure (.int 0))),(bl (lk J `sets) (pure (.int 1)))]),(dA [(bl (lk J `sets) (pure (.int 2))),(bl (lk J `sets) (pure (.int 3)))]),(dA [(bl (lk J `sets) (pure (.int 4))),(bl (lk J `sets) (pure (.int 5)))])]) J) λJ=>ar (bH `table (aL K F (gl K `Headers) [] [] []) J) λJ=>ar (bH `came (aL K F (gl K `_law_keys) [(lk J `lexer),(lk J `table),(lk J `rules),(lk J `order),(lk J `low)] [] []) J) λJ=>ar (bH `line (aL K F (gl K `iter) [(cU [] (a4 K F (lk J `table) `values [] [] []) (bp (bf `octets) (λJ=>[]) (λJ aq=>lN (lk J `octets) (bp (bf `octet) (λJ=>[]) (bw λJ=>(aL K F (gl K `ord) [(lk J `octet)] [] []))) J aq)) J)] [] []) J) λJ=>ar (iy `keys (eB [`line] (a4 K F (lk J `table) `keys [] [] []) (bp (bf `name) (λJ=>[]) (bw λJ=>(aL K F (gl K `_parse_varint) [(lk J `line)] [] []))) J) J) λJ=>ar (iy `told (eB [] (lk J `keys) (bp (bf `key) (λJ=>[]) (bw λJ=>(aL K F (gl K `pretty_flags) [(lk J `key)] [] []))) J) J) λJ=>ar (c6 (eu .Or [(aQ K (aL K F (gl K `sorted) [(lk J `keys)] [] []) [.NotEq] [(cU [`low] (aL K F (gl K `_law_due) [(lk J `rules)] [] []) (bp (bf `key) (λJ=>[]) (bw λJ=>(av .LShift (lk J `key) (lk J `low)))) J)]),(aQ K (lk J `told) [.NotEq] [(cU [] (lk J `keys) (bp (bf `key) (λJ=>[]) (bw λJ=>(aL K F (gl K `_law_names) [(lk J `key)] [] []))) J)])]) (ar (cK (pure (.bool false)) J) λJ=>aE J) (aE J)) λJ=>ar (c6 (eu .Or [(aQ K (lk J `came) [.NotEq] [(a4 K F (lk J `table) `keys [] [] [])]),(aQ K (cU [] (lk J `came) (bp (bf `name) (λJ=>[]) (bw λJ=>(a4 K F (lk J `name) `lower [] [] []))) J) [.NotEq] [(cU [] (lk J `told) (bp (bf `name) (λJ=>[]) (bw λJ=>(a4 K F (lk J `name) `lower [] [] []))) J)])]) (ar (cK (pure (.bool false)) J) λJ=>aE J) (aE J)) λJ=>ar (cK (yv K (eC [(a4 K F (lk J `lexer) `get_token [] [] []),(a4 K F (lk J `lexer) `get_token [] [] []),(d9 K (lk J `lexer) `lineno)]) [.Eq] [(eC [(bl (lk J `typed) (pure (.int 6))),(pure (.str ("":Str))),(av .Add (pure (.int 1)) (a4 K F (lk J `whole) `count [(pure (.str ("\n":Str)))] [] []))])]) J) λJ=>aE J
def S8(K:W.Frag)(F:aG):cz K F (dC (bC 31)) (dY (bC 31))=CB K F:=by kernel_rfl
abbrev S9(K:W.Frag)(F:aG)(J:ab):M (ab×Fl):=ar (qj K (lk J `self) `lineno (pure (.int 1)) J) λJ=>ar (qj K (lk J `self) `instream (lk J `fp) J) λJ=>ar (qj K (lk J `self) `whitespace (pure (.str ("\n\t\r ":Str))) J) λJ=>ar (qj K (lk J `self) `pushback (ix []) J) λJ=>aE J
def Ta(K:W.Frag)(F:aG):cz K F (dC (dG 10 0)) (dY (dG 10 0))=S9 K F:=by kernel_rfl
abbrev Ir(K:W.Frag)(F:aG)(J:ab):M (ab×Fl):=ar (bH `ch (a4 K F (d9 K (lk J `self) `instream) `read [(pure (.int 1))] [] []) J) λJ=>ar (c6 (aQ K (lk J `ch) [.Eq] [(pure (.str ("\n":Str)))]) (ar (Cx K (lk J `self) `lineno .Add (pure (.int 1)) J) λJ=>aE J) (aE J)) λJ=>ar (cK (lk J `ch) J) λJ=>aE J
def Tb(K:W.Frag)(F:aG):cz K F (dC (dG 10 1)) (dY (dG 10 1))=Ir K F:=by kernel_rfl
abbrev yw(K:W.Frag)(F:aG)(J:ab):M (ab×Fl):=ar (c6 (ib (d9 K (lk J `self) `pushback)) (ar (cK (a4 K F (d9 K (lk J `self) `pushback) `pop [(pure (.int 0))] [] []) J) λJ=>aE J) (aE J)) λJ=>ar (bH `token (pure (.str ("":Str))) J) λJ=>ar (bH `fiter (aL K F (gl K `iter) [(d9 K (lk J `self) `_read_char),(pure (.str ("":Str)))] [] []) J) λJ=>ar (d8 K F (bf `ch) (lk J `fiter) (λJ=>ar (c6 (aQ K (lk J `ch) [.In] [(d9 K (lk J `self) `whitespace)]) (ar (pure (J,Fl.cont)) λJ=>aE J) (aE J)) λJ=>ar (c6 (aQ K (lk J `ch) [.Eq] [(pure (.str ("\"":Str)))]) (ar (d8 K F (bf `ch) (lk J `fiter) (λJ=>ar (c6 (aQ K (lk J `ch) [.Eq] [(pure (.str ("\"":Str)))]) (ar (cK (lk J `token) J) λJ=>aE J) (ar (c6 (aQ K (lk J `ch) [.Eq] [(pure (.str ("\\":Str)))]) (ar (bH `ch (a4 K F (lk J `self) `_read_char [] [] []) J) λJ=>aE J) (aE J)) λJ=>aE J)) λJ=>ar (lO `token .Add (lk J `ch) J) λJ=>aE J) (λJ=>aE J) J) λJ=>aE J) (ar (c6 (aQ K (lk J `ch) [.Eq] [(pure (.str ("\\":Str)))]) (ar (bH `ch (a4 K F (lk J `self) `_read_char [] [] []) J) λJ=>aE J) (aE J)) λJ=>ar (lO `token .Add (lk J `ch) J) λJ=>ar (d8 K F (bf `ch) (lk J `fiter) (λJ=>ar (c6 (aQ K (lk J `ch) [.In] [(d9 K (lk J `self) `whitespace)]) (ar (cK (lk J `token) J) λJ=>aE J) (ar (c6 (aQ K (lk J `ch) [.Eq] [(pure (.str ("\\":Str)))]) (ar (bH `ch (a4 K F (lk J `self) `_read_char [] [] []) J) λJ=>aE J) (aE J)) λJ=>aE J)) λJ=>ar (lO `token .Add (lk J `ch) J) λJ=>aE J) (λJ=>aE J) J) λJ=>aE J)) λJ=>aE J) (λJ=>aE J) J) λJ=>ar (cK (lk J `token) J) λJ=>aE J
def Iu(K:W.Frag)(F:aG):cz K F (dC (dG 10 2)) (dY (dG 10 2))=yw K F:=by kernel_rfl
abbrev Tc(K:W.Frag)(F:aG)(J:ab):M (ab×Fl):=ar (j0 (a4 K F (d9 K (lk J `self) `pushback) `append [(lk J `token)] [] []) J) λJ=>aE J
def Te(K:W.Frag)(F:aG):cz K F (dC (dG 10 3)) (dY (dG 10 3))=Tc K F:=by kernel_rfl
abbrev CC(K:W.Frag)(F:aG)(J:ab):M (ab×Fl):=ar (bH `headers (eN (aQ K (lk J `headers) [.IsNot] [(pure .none)]) (lk J `headers) (ix [])) J) λJ=>ar (c6 (aQ K (aL K F (gl K `type) [(lk J `headers)] [] []) [.IsNot] [(gl K `list)]) (ar (au) λJ=>aE J) (aE J)) λJ=>ar (qj K (lk J `self) `_headers (lk J `headers) J) λJ=>ar (c6 (ib (pure (.bool true))) (ar (d8 K F (eJ [`k,`v]) (lk J `headers) (λJ=>ar (j0 (a4 K F (lk J `self) `_convert_string_type [(lk J `k)] [`name] [(pure (.bool true))]) J) λJ=>ar (j0 (a4 K F (lk J `self) `_convert_string_type [(lk J `v)] [`name] [(pure (.bool false))]) J) λJ=>aE J) (λJ=>aE J) J) λJ=>aE J) (aE J)) λJ=>aE J
def Tf(K:W.Frag)(F:aG):cz K F (dC (dG 19 0)) (dY (dG 19 0))=CC K F:=by kernel_rfl
abbrev Iv(K:W.Frag)(F:aG)(J:ab):M (ab×Fl):=ar (c6 (aQ K (aL K F (gl K `type) [(lk J `value)] [] []) [.Is] [(gl K `str)]) (ar (bH `regex (eN (ib (lk J `name)) (gl K `_name_disallowed_re) (gl K `_value_disallowed_re)) J) λJ=>ar (c6 (ib (a4 K F (lk J `regex) `search [(lk J `value)] [] [])) (ar (au) λJ=>aE J) (aE J)) λJ=>ar (cK (lk J `value) J) λJ=>aE J) (aE J)) λJ=>ar (au) λJ=>aE J
def Tg(K:W.Frag)(F:aG):cz K F (dC (dG 19 1)) (dY (dG 19 1))=Iv K F:=by kernel_rfl
abbrev Iw(K:W.Frag)(F:aG)(J:ab):M (ab×Fl):=ar (bH `name (a4 K F (lk J `self) `_convert_string_type [(a4 K F (lk J `name) `lower [] [] [])] [`name] [(pure (.bool true))]) J) λJ=>ar (d8 K F (eJ [`k,`v]) (d9 K (lk J `self) `_headers) (λJ=>ar (c6 (aQ K (a4 K F (lk J `k) `lower [] [] []) [.Eq] [(lk J `name)]) (ar (cK (lk J `v) J) λJ=>aE J) (aE J)) λJ=>aE J) (λJ=>aE J) J) λJ=>ar (cK (lk J `default) J) λJ=>aE J
def Iy(K:W.Frag)(F:aG):cz K F (dC (dG 19 8)) (dY (dG 19 8))=Iw K F:=by kernel_rfl
abbrev Th(K:W.Frag)(F:aG)(J:ab):M (ab×Fl):=ar (cK (cU [] (d9 K (lk J `self) `_headers) (bp (eJ [`k,`v]) (λJ=>[]) (bw λJ=>(lk J `k))) J) J) λJ=>aE J
def Ti(K:W.Frag)(F:aG):cz K F (dC (dG 19 9)) (dY (dG 19 9))=Th K F:=by kernel_rfl
abbrev Tj(K:W.Frag)(F:aG)(J:ab):M (ab×Fl):=ar (cK (cU [] (d9 K (lk J `self) `_headers) (bp (eJ [`k,`v]) (λJ=>[]) (bw λJ=>(lk J `v))) J) J) λJ=>aE J
def Tn(K:W.Frag)(F:aG):cz K F (dC (dG 19 10)) (dY (dG 19 10))=Tj K F:=by kernel_rfl
abbrev Iz(K:W.Frag)(F:aG)(J:ab):M (ab×Fl):=ar (bH `result (a4 K F (lk J `self) `get [(lk J `name)] [] []) J) λJ=>ar (c6 (aQ K (lk J `result) [.Is] [(pure .none)]) (ar (j0 (a4 K F (d9 K (lk J `self) `_headers) `append [(dA [(a4 K F (lk J `self) `_convert_string_type [(lk J `name)] [`name] [(pure (.bool true))]),(a4 K F (lk J `self) `_convert_string_type [(lk J `value)] [`name] [(pure (.bool false))])])] [] []) J) λJ=>ar (cK (lk J `value) J) λJ=>aE J) (ar (cK (lk J `result) J) λJ=>aE J)) λJ=>aE J
def To(K:W.Frag)(F:aG):cz K F (dC (dG 19 15)) (dY (dG 19 15))=Iz K F:=by kernel_rfl
abbrev IA(K:W.Frag)(F:aG)(J:ab):M (ab×Fl):=ar (Cw `place [(pure (.int 0))] J) λJ=>ar (bH `tape (aL K F (gl K `_netrclex) [(pure .none)] [] []) J) λJ=>aE J
def Tq(K:W.Frag)(F:aG):cz K F (ia) (jY.take 2)=IA K F:=by kernel_rfl
abbrev IB(K:W.Frag)(F:aG)(J:ab):M (ab×Fl):=ar (qj K (lk J `tape) `read (lk J `read) J) λJ=>ar (cK (aL K F (gl K `_netrclex) [(lk J `tape)] [] []) J) λJ=>aE J
def Tr(K:W.Frag)(F:aG):cz K F (ng ia) (jY.drop 3)=IB K F:=by kernel_rfl
abbrev IC(K:W.Frag)(F:aG)(J:ab):M (ab×Fl):=ar (bH `told (gu (lk J `text) (bl (lk J `place) (pure (.int 0))) (av .Add (bl (lk J `place) (pure (.int 0))) (lk J `count))) J) λJ=>ar (pe (lk J `place) (pure (.int 0)) (av .Add (bl (lk J `place) (pure (.int 0))) (aL K F (gl K `len) [(lk J `told)] [] [])) J) λJ=>ar (cK (lk J `told) J) λJ=>aE J
def Ts(K:W.Frag)(F:aG):cz K F (tr) (readBody)=IC K F:=by kernel_rfl
set_option maxRecDepth 100000
section
variable{α β:Type}{K:W.Frag}{F:aG}{O ag aa:Hp}{J a6:ab}
@[simp] def aK (m:M α) (f:α->M β) (O:Hp):(m>>=f) O=(m O).bind λp=>f p.1 p.2:=rfl
@[simp] def mA (a:α) (O:Hp):(pure a:M α) O=some (a,O):=rfl
@[simp] def abk (O:Hp):(au:M α) O=none:=rfl
@[simp] def fY (o:Option α) (O:Hp):(bJ o:M α) O=o.map (·,O):=rfl
@[simp] def fZ (J:ab) (x:Str) (O:Hp):lk J x O=(J.lookup x).map (·,O):=rfl
def ic{x:Str}{v:V}{J:ab}{O:Hp}(h:J.lookup x=some v):lk J x O=some (v,O):=aJ (λo=>o.map λy=>(y,O)) h
def yx{α:Type}{l r:List α}{i:Nat}:(l++r)[l.length+i]? =r[i]? :=by rw[iT (Nat.le_add_right _ _),Nat.add_sub_cancel_left]
def abl{α:Type}{l r:List α}{a:α}:(l++a::r)[l.length]? =some a:=yx (i:=0)
@[simp] def bM (x y:Str) (v:V) (J:ab):List.lookup x ((y,v)::J)=if x=y then some v else List.lookup x J:=by
 rw[di];by_cases h:x=y
 ·subst h;simp
 ·rw[aN h,gm h]
@[simp] def mB (O:Hp):dR [] O=some ([],O):=rfl
@[simp] def bF (m:M V) (r:List (M V)) (O:Hp):dR (m::r) O=(m O).bind λp=>(dR r p.2).bind λq=>some (p.1::q.1,q.2):=rfl
abbrev yy(_:α->M β):Type:=Unit
abbrev dep(f:α->M β):yy f:=()
abbrev vW(f:α->M β)(_:yy f)(o:Option (α×Hp)):Option (β×Hp):=o.bind λp=>f p.1 p.2
def bindL(m:M α)(f:α->M β)(O:Hp):(m>>=f) O=vW f (dep f) (m O):=rfl
def abm(f:α->M β)(d:yy f)(a:α):vW f d (some (a,O))=f a O:=rfl
def abn(f:α->M β)(d:yy f):vW f d none=none:=rfl
def abo(m:M V)(r:List (M V))(O:Hp):dR (m::r) O=vW (λv=>dR r>>=λl=>pure (v::l)) (dep _) (m O):=rfl
@[simp] def vX {c:Prop} [Decidable c] (a b:M α) (O:Hp):(if c then a else b) O=if c then a O else b O:=by split<;>rfl
@[simp] def ID {f:V} {args:List V} (ms:List (M V)) (O:Hp):kz F f args ms [] [] O=(dR ms O).bind λp=>F f (args++p.1) [] p.2:=rfl
def abp{f:V}{args:List V}(ms:List (M V))(O:Hp):kz F f args ms [] [] O=vW (λl=>F f (args++l) []) (dep _) (dR ms O):=rfl
def IE{f:V}{args:List V}(ms:List (M V))(x:Str)(k:M V)(O:Hp):kz F f args ms [x] [k] O=(dR ms O).bind λp=>(k p.2).bind λq=>F f (args++p.1) [(x,q.1)] q.2:=by
 unfold kz;simp only[aK];congr 1;funext p;simp only[aK,bF];cases k p.2 with
 |none=>rfl
 |some q=>rfl
section
variable(a b:Int)(x y:Str)(l l':List V)(m:M Bool)(r:List (M Bool))(gC:CmpOp->V->V->M Bool)(u:V)(e e':M V)(op sN:CmpOp)(c5:List CmpOp)(es:List (M V))
@[simp] def abq:fk .Add (.int a) (.int b)=pure (.int (a+b)):=rfl
@[simp] def abr:fk .Sub (.int a) (.int b)=pure (.int (a-b)):=rfl
@[simp] def abt:fk .FloorDiv (.int a) (.int b)=if b≠0/\b.natAbs<1073741824 then pure (.int (a.fdiv b))else au:=rfl
@[simp] def Tt:fk .Mod (.int a) (.int b)=if b=0 then au else pure (.int (a.fmod b)):=rfl
@[simp] def abu:fk .Mult (.int a) (.int b)=if a.natAbs<2^31/\b.natAbs<2^31 then pure (.int (a*b))else au:=rfl
@[simp] def abv:fk .Pow (.int a) (.int b)=if a.natAbs<2^64/\0<=b/\b<=64 then pure (.int (a^b.toNat))else au:=rfl
@[simp] def CD:fk .LShift (.int a) (.int b)=if a.natAbs<2^64/\0<=b/\b<=64 then pure (.int (a*2^b.toNat))else au:=rfl
@[simp] def Tu:fk .RShift (.int a) (.int b)=if 0<=b then pure (.int (a.fdiv (2^b.toNat)))else au:=rfl
@[simp] def abw:fk .BitAnd (.int a) (.int b)=pure (.int (Builtin.bitAnd a b)):=rfl
@[simp] def abx:fk .BitOr (.int a) (.int b)=pure (.int (Builtin.bitOr a b)):=rfl
@[simp] def Tv:fk .Add (.str x) (.str y)=if cg x=true/\cg y=true then pure (.str (x++y))else au:=rfl
@[simp] def aby:fk .Add (.lst l) (.lst l')=if l.length<=1000000/\l'.length<=1000000 then pure (.lst (l++l'))else au:=rfl
@[simp] def abz:kK .Add (.int a) (.int b)=pure (.int (a+b)):=rfl
@[simp] def abA:kK .LShift (.int a) (.int b)=if a.natAbs<2^64/\0<=b/\b<=64 then pure (.int (a*2^b.toNat))else au:=rfl
@[simp] def abB:kK .BitOr (.int a) (.int b)=pure (.int (Builtin.bitOr a b)):=rfl
@[simp] def abC:kK .BitXor (.int a) (.int b)=pure (.int (Builtin.bitXor a b)):=rfl
@[simp] def abD:kK .Add (.str x) (.str y)=if cg x=true/\cg y=true then pure (.str (x++y))else au:=rfl
@[simp] def abE:sL .Invert (.int a)=pure (.int (Builtin.bitNot a)):=rfl
@[simp] def abF:sL .USub (.int a)=pure (.int (-a)):=rfl
@[simp] def abG:mR (.int a)=pure (a !=0):=rfl
@[simp] def abH (b:Bool):mR (.bool b)=pure b:=rfl
@[simp] def abI:mR .none=pure false:=rfl
@[simp] def abJ:mR (.str x)=if cg x=true then pure ((x.length:Int) !=0)else au:=rfl
@[simp] def abK:mR (.lst l)=if l.length<=1000000 then pure (!l.isEmpty)else au:=rfl
@[simp] def qk:iK gC u [op] [e]=do{let b<-e;gC op u b}:=rfl
@[simp] def abL:iK gC u (op::sN::c5) (e::e'::es)=do{let b<-e;let c<-gC op u b;if c=true then iK gC b (sN::c5) (e'::es)else pure false}:=rfl
@[simp] def all_nil:eu .And []=pure true:=rfl
@[simp] def any_nil:eu .Or []=pure false:=rfl
@[simp] def all_cons:eu .And (m::r)=do{let b<-m;if b=true then eu .And r else pure false}:=rfl
@[simp] def any_cons:eu .Or (m::r)=do{let b<-m;if b=true then pure true else eu .Or r}:=rfl
@[simp] def vY:kP []=pure true:=rfl
@[simp] def IF:kP (m::r)=do{let b<-m;if b=true then kP r else pure false}:=rfl
end
abbrev a7(m:M α)(O:Hp)(Q:α->Hp->Prop):Prop:=∃a aa,m O=some (a,aa)/\Q a aa
def a7.mono{m:M α}{Q R:α->Hp->Prop}(h:a7 m O Q)(q:∀a aa,Q a aa->R a aa):a7 m O R:=let⟨a,aa,e,p⟩:=h;⟨a,aa,e,q a aa p⟩
def wp_bind{m:M α}{f:α->M β}{Q:β->Hp->Prop}(h:a7 m O λa aa=>a7 (f a) aa Q):a7 (m>>=f) O Q:=by
 symm
 obtain⟨a,aa,e,b,jb,e',q⟩:=h;left;show c8 b jb (by simp only[aK,e];show e') q
def iz{m:M α}{Q:α->Hp->Prop}{o:α×Hp}(h:m O=some o)(q:Q o.1 o.2):a7 m O Q:=⟨o.1,o.2,h,q⟩
def ie{m:M α}{a:α}(h:a7 m O λb jb=>b=a/\jb=aa):m O=some (a,aa):=by
 show ck h λb jb e eW dW=>?_;subst eW;subst dW;show e
noncomputable abbrev IG(o:(ab×Fl)×Hp)(k:ab->M (ab×Fl))(Q:ab×Fl->Hp->Prop):Prop:=match o with
 |((a6,.next),ag)=>a7 (k a6) ag Q
 |((a6,f),ag)=>Q (a6,f) ag
def sq{m:M (ab×Fl)}{k:ab->M (ab×Fl)}{Q:ab×Fl->Hp->Prop}{o:(ab×Fl)×Hp}(h:m O=some o)(h2:IG o k Q):a7 (ar m k) O Q:=by
 obtain⟨⟨a6,f⟩,ag⟩:=o;show wp_bind (c8 _ _ h ?_);induction f with
 |next=>show h2
 |brk=>show c8 _ _ rfl h2
 |cont=>show c8 _ _ rfl h2
 |ret v=>show c8 _ _ rfl h2
def gv{m:M (ab×Fl)}{k:ab->M (ab×Fl)}{Q:ab×Fl->Hp->Prop}(h:a7 m O λa aa=>IG (a,aa) k Q):a7 (ar m k) O Q:=by
 show br h λa aa e q=>?_;show sq e q
noncomputable abbrev yz(I:List V->ab->Hp->Prop)(Q:ab×Fl->Hp->Prop)(aV:List V)(q:ab×Fl)(aa:Hp):Prop:=match q.2 with
 | .next=>I aV q.1 aa
 | .cont=>I aV q.1 aa
 | .brk=>Q (q.1,.next) aa
 | .ret u=>Q (q.1,.ret u) aa
def CE{body:V->ab->M (ab×Fl)}{I:List V->ab->Hp->Prop}{Q:ab×Fl->Hp->Prop}(hb:∀v aV J O,I (v::aV) J O->a7 (body v J) O (yz I Q aV)):
  ∀(l:List V) J O,I l J O->a7 (fQ (fq K F) body (l.length+1) (.items l) J) O λr aa=>match r.2 with|none=>I [] r.1 aa|some f=>Q (r.1,f) aa
 |[],J,O,h=>c8 _ _ rfl h
 |v::l,J,O,h=>by
  symm
  obtain⟨⟨a6,f⟩,ag,e,q⟩:=hb v l J O h;left;have hu:fQ (fq K F) body ((v::l).length+1) (.items (v::l)) J O=(body v J>>=λr=>match r.2 with
   | .next=>fQ (fq K F) body (l.length+1) (.items l) r.1
   | .cont=>fQ (fq K F) body (l.length+1) (.items l) r.1
   | .brk=>pure (r.1,some .next)
   | .ret v=>pure (r.1,some (.ret v))) O:=rfl
  unfold a7;rw[hu,aK,e];induction f with
  |next=>show CE hb l a6 ag q
  |cont=>show CE hb l a6 ag q
  |brk=>show c8 _ _ rfl q
  |ret u=>show c8 _ _ rfl q
def tu{bind:V->ab->Option ab}{first:M V}{body du:ab->M (ab×Fl)}{xs:V}{l:List V}{I:List V->ab->Hp->Prop}{Q:ab×Fl->Hp->Prop}(h1:first O=some (xs,ag))(h2:ey xs ag=some (.items l,ag))(h3:I l J ag)
  (hb:∀v aV J O,I (v::aV) J O->∃a6,bind v J=some a6/\a7 (body a6) O (yz I Q aV)) (he:∀J O,I [] J O->a7 (du J) O Q):a7 (d8 K F bind first body du J) O Q:=by
 show wp_bind (c8 _ _ h1 (wp_bind (c8 _ _ h2 (wp_bind ?_))));show(CE (Q:=Q) (λv aV J O h=>?_) l J ag h3).mono λr aa q=>?_
 ·show aj (hb v aV J O h) λa6 e w=>?_
  show wp_bind (c8 a6 O (aJ _ e) w)
 ·obtain⟨aO,o⟩:=r
  induction o with
  |none=>show he aO aa q
  |some f=>show c8 _ _ rfl q
def IH{S:Type}{body:V->S->M S}{I:List V->S->Hp->Prop}(hb:∀v aV st O,I (v::aV) st O->a7 (body v st) O λgD aa=>I aV gD aa):
  ∀(l:List V) st O,I l st O->a7 (iZ body (l.length+1) (.items l) st) O λgD aa=>I [] gD aa
 |[],st,O,h=>c8 st O rfl h
 |v::l,st,O,h=>by
  show br (hb v l st O h) λjV ag e q=>?_;have hu:iZ body ((v::l).length+1) (.items (v::l)) st O=(body v st>>=λgD=>iZ body (l.length+1) (.items l) gD) O:=rfl;unfold a7;simp only[hu,aK,e];show IH hb l jV ag q
def vZ{first:M V}{turn:V->ab×List V->M (ab×List V)}{aq:List V}{xs:V}{l:List V}{I:List V->ab->List V->Hp->Prop}{Q:ab×List V->Hp->Prop}(h1:first O=some (xs,ag))(h2:ey xs ag=some (.items l,ag))(h3:I l J aq ag)
  (hb:∀v aV J aq O,I (v::aV) J aq O->a7 (turn v (J,aq)) O λp aa=>I aV p.1 p.2 aa) (he:∀J aq O,I [] J aq O->Q (J,aq) O):a7 (lN first turn J aq) O Q:=by
 show wp_bind (c8 _ _ h1 (wp_bind (c8 _ _ h2 ?_)));show(IH (I:=λaV p O=>I aV p.1 p.2 O) (λv aV p O h=>hb v aV p.1 p.2 O h) l (J,aq) ag h3).mono λp aa q=>he p.1 p.2 aa q
def lP{ns:List Str}{first:M V}{turn:V->ab×List V->M (ab×List V)}{xs:V}{l:List V}{P:ab->Prop}(f:V->List V)(h1:first O=some (xs,ag))(h2:ey xs ag=some (.items l,ag))(h3:P (nq ns J))(bV:(l.flatMap f).length<=1000000)
  (hb:∀v∈l,∀J aq,P J->(aq++f v).length<=1000000->∃aO,P aO/\turn v (J,aq) ag=some ((aO,aq++f v),ag)):eB ns first turn J O=some (l.flatMap f,ag):=by
 show ie ?_;show wp_bind (vZ (I:=λaV J aq O=>P J/\O=ag/\(∃done,l=done++aV/\aq=done.flatMap f)) h1 h2 ⟨h3,rfl,[],rfl,rfl⟩ (λv aV J aq O h=>?_) λJ aq O h=>?_)
 ·obtain⟨hp,rfl,done,hd,rfl⟩:=h
  have hl:(done.flatMap f++f v).length<=1000000:=by
   show a9 ?_ bV;simp only[hd,List.flatMap_append,List.flatMap_cons];simp
  show aj (hb v (by rw[hd];simp) J _ hp hl) λaO qd e=>?_;show⟨_,_,e,qd,rfl,done++[v],by rw[hd];simp,by simp⟩
 ·obtain⟨_,rfl,done,hd,rfl⟩:=h
  simp only[List.append_nil]at hd;subst hd;show cF _ _ rfl rfl rfl
def II{first:M V}{turn:V->ab×List V->M (ab×List V)}{aq:List V}{xs:V}{l:List V}{P:ab->Prop}(f:V->List V)(h1:first O=some (xs,ag))(h2:ey xs ag=some (.items l,ag))(h3:P J)(bV:(aq++l.flatMap f).length<=1000000)
  (hb:∀v∈l,∀J aq,P J->(aq++f v).length<=1000000->∃aO,P aO/\turn v (J,aq) ag=some ((aO,aq++f v),ag)):∃aO,P aO/\lN first turn J aq O=some ((aO,aq++l.flatMap f),ag):=by
 have:a7 (lN first turn J aq) O λp aa=>P p.1/\aa=ag/\p.2=aq++l.flatMap f:=by
  show vZ (I:=λaV J qQ O=>P J/\O=ag/\(∃done,l=done++aV/\qQ=aq++done.flatMap f)) h1 h2 ⟨h3,rfl,[],rfl,by simp⟩ (λv aV J qQ O h=>?_) λJ qQ O h=>?_
  ·obtain⟨hp,rfl,done,hd,rfl⟩:=h
   have hl:(aq++done.flatMap f++f v).length<=1000000:=by
    show a9 ?_ bV;simp only[hd,List.flatMap_append,List.flatMap_cons];simp only[List.length_append];lia
   show aj (hb v (by rw[hd];simp) J _ hp hl) λaO qd e=>?_;show⟨_,_,e,qd,rfl,done++[v],by simp only[hd];simp,by simp⟩
  ·obtain⟨hp,rfl,done,hd,rfl⟩:=h
   simp only[List.append_nil]at hd;subst hd;show cW hp rfl rfl
 symm
 obtain⟨⟨aO,a⟩,aa,e,hp,rfl,rfl⟩:=this;left;show aA aO hp e
structure dH(K:W.Frag)(g:Addr)(st:Stmt)(lQ:List V):Prop where
 fd:∃fd ds,fM K g=some fd/\kY K fd=true/\fd.params=gS st/\fd.body= .stmts (dY st)/\fd.scope=dC st/\defsIn K fd.defaults=some ds/\ds.map toV=lQ
 CF:iI K≠some g
structure mC(K:W.Frag)(x:Str)(v:V):Prop where
 val:mP K x=some v
structure c7(K:W.Frag)(x:Str)(v:V):Prop where
 val:mP K x=some v
 keep:gq K v=true
structure nr(K:W.Frag)(C:Addr)(name:Str)(g:Addr):Prop where
 get:W.plainGet K C name=true
 fn:fnOf K C name=some g
 own:vq K C name=some g
 dict:W.hasDictIn K C=true
 keep:W.keepIn K (.ref g)=true
 bound:W.fnIn K g=true
variable{g:Addr}{st:Stmt}{lQ:List V}{X:Runner}{n:Nat}{vs:List V}{aC bT:List (Str×V)}{Q:V->Hp->Prop}
def Tw(h:dH K g st lQ)(iu:(gS st).kwarg=none)(hb:iN (gS st) lQ vs aC=some bT)(hn:(bT.all λp=>cR (dC st) p.1)=true):
  jv K X g vs aC=(do let q<-X (dC st) (dY st) bT.reverse;bJ (dF q.2)):=by
 show uk h.fd λfd ds h1 h2 h3 h4 h5 h6 h7=>?_;have e1:jv K X g vs aC=(if fd.params.kwarg.isSome=true then(if(kY K fd&&fd.defaults== .none)=true then te X fd vs aC else au)else oo K X g vs aC):=by
  funext O;unfold jv;simp only[aK,fY,h1];rfl
 have e2:oo K X g vs aC=ri X fd lQ [] vs aC:=by
  funext O;unfold oo;simp only[aK,fY,h1];change(if kY K fd=true then(do let ds<-bJ (defsIn K fd.defaults);ri X fd (ds.map toV) [] vs aC)else au) O=_;rw[az h2,aK,fY,h6];change ri X fd (ds.map toV) [] vs aC O=_;rw[h7]
 rw[e1,h3,iu,aN `S,e2];funext O;unfold ri;rw[aK,fY,h4];change(do let bT<-bJ (iN fd.params lQ vs aC);if(bT.all λp=>cR fd.scope p.1)=true then(do let q<-X fd.scope (dY st) (bT.reverse++[]);bJ (dF q.2))else au) O=_;rw[aK,fY,h3,hb,h5];change(if(bT.all λp=>cR (dC st) p.1)=true then(do let q<-X (dC st) (dY st) (bT.reverse++[]);bJ (dF q.2))else au) O=_;rw[az hn,List.append_nil]
def gb{sh:W.Frag->aG->ab->M (ab×Fl)}(h:dH K g st lQ)(hs:∀K F,cz K F (dC st) (dY st)=sh K F)(iu:(gS st).kwarg=none)(hb:iN (gS st) lQ vs aC=some bT)(hn:(bT.all λp=>cR (dC st) p.1)=true)
  (hw:a7 (sh K (aY K n) bT.reverse) O λq aa=>∃v,dF q.2=some v/\Q v aa):a7 (jv K (cz K (aY K n)) g vs aC) O Q:=by
 rw[Tw h iu hb hn,hs];show wp_bind (hw.mono λq aa xt=>aj xt λv e h=>c8 v aa ?_ h);show aJ _ e
def gU(h:dH K g st lQ):aY K (n+1) (.con (.ref g)) vs aC=jv K (cz K (aY K n)) g vs aC:=by
 show br h.fd λfd ds h1 _=>?_;change(if iI K=some g then _ else if(fM K g).isSome=true then jv K (cz K (aY K n)) g vs aC else _)=_;rw[aN h.CF,h1];rfl
def Tx{o:V}:aY K (n+1) (.dO (.ref g) o) vs aC=jv K (cz K (aY K n)) g (o::vs) aC:=rfl
def IJ{id:String}:aY K (n+1) (.con (.builtin id)) vs []=vR K id vs:=rfl
@[simp] def bZ {x:Str} {v:V} (h:c7 K x v) (ms:List (M V)) (O:Hp):aL K F (gl K x) ms [] [] O=(dR ms O).bind λp=>F v p.1 [] p.2:=by
 delta aL gl;simp only[aK,fY,h.val];change(if gq K v=true then kz F v [] ms [] []else au) O=_;rw[az h.keep,ID];rfl
@[simp] def IK {x:Str} {v:V} (h:c7 K x v) (O:Hp):gl K x O=some (v,O):=by unfold gl;show aJ _ h.val
def tw{x:Str}{v:V}(h:mC K x v)(O:Hp):gl K x O=some (v,O):=by unfold gl;show aJ _ h.val
def ke{o:M V}{name:Str}{ms:List (M V)}{v fv:V}{first:List V}{ag aH:Hp}(h1:o O=some (v,ag))(h2:gR K v name ag=some ((fv,first),aH))(h3:gq K fv=true):a4 K F o name ms [] [] O=(dR ms aH).bind λp=>F fv (first++p.1) [] p.2:=by
 unfold a4;rw[aK,h1];change(gR K v name>>=_) ag=_;simp only[aK,h2];change(if gq K fv=true then kz F fv first ms [] []else au) aH=_;rw[az h3,ID]
def Tz{x name:Str}{id:String}(h:vz name=some id):gR K (.str x) name O=some ((.con (.builtin id),[.str x]),O):=by
 change(match(V.str x)with| .str x=>(vz name).map λid=>((V.con (.builtin id),[V.str x]),O)|_=>none)=_;simp only[h];rfl
@[simp] def k0 {x name:Str} {id:String} {o:M V} {ms:List (M V)} (h1:o O=some (.str x,ag)) (h:vz name=some id):a4 K F o name ms [] [] O=(dR ms ag).bind λp=>F (.con (.builtin id)) (.str x::p.1) [] p.2:=
 ke h1 (Tz h) rfl
abbrev T(l:List Nat):Str:=⟨l.toArray⟩
@[simp] def v3 (l:List Nat):(T l).length=l.length:=by rfl
@[simp] def rC (l m:List Nat):T l++T m=T (l++m):=by
 change(⟨l.toArray++m.toArray⟩:Str)=⟨(l++m).toArray⟩;simp
def yA{l m:List Nat}(h:T l=T m):l=m:=by
 have:l.toArray=m.toArray:=aJ Str.cps h;simpa using this
@[simp] def IL (l m:List Nat):(T l=T m)↔l=m:=⟨yA,λh=>h▸rfl⟩
@[simp] def yB (l:List Nat):cg (T l)=decide (l.length<=1000000):=by rfl
@[simp] def abM (l:List Nat):kO (T l)=l.map λc=>V.str (T [c]):=by
 delta kO T;simp
def join_nil(l:List (List Nat)):Txt.join ("":Str) (l.map T)=T l.flatten:=by
 change Builtin.Str.glued _ _=_;rw[StrLaws.glued_eq_join];induction l with
 |nil=>rfl
 |cons a r ih=>
  induction r with
  |nil=>simp[Str.join]
  |cons b r=>
   change T a++("":Str)++Str.join ("":Str) ((b::r).map T)=_;rw[ih,show("":Str)=T []from rfl];simp
def TA(l:List (List Nat)):mw (l.map λx=>V.str (T x))=some (l.map T):=by
 induction l with
 |nil=>rfl
 |cons a r ih=>change(mw (r.map λx=>V.str (T x))).map (T a::·)=_;show aJ _ ih
set_option genInjectivity false in
set_option genSizeOf false in
structure Ad where
 (pretty info lR rD v5 ql sign written drawn least octets keys eZ names v7 lS:Addr)
 (da headers yC jw tx v8 yD v9 rE tA wa qm:Addr)
 (flags b1 b3 pj pn:Addr)
 dM:Value
structure KB(K:W.Frag):Prop where
 range:c7 K "range" (.con (.type "range"))
 list:c7 K "list" (.con (.type "list"))
 type:c7 K "type" (.con (.type "type"))
 str:c7 K "str" (.con (.type "str"))
 len:c7 K "len" (.con (.builtin "len"))
 ord:c7 K "ord" (.con (.builtin "ord"))
 chr:c7 K "chr" (.con (.builtin "chr"))
 hex:c7 K "hex" (.con (.builtin "hex"))
 iter:c7 K "iter" (.con (.builtin "iter"))
 next:c7 K "next" (.con (.builtin "next"))
 sum:c7 K "sum" (.con (.builtin "sum"))
 sorted:c7 K "sorted" (.con (.builtin "sorted"))
end
section
variable{K:W.Frag}(a b:Int)(x y:Str)(l l':List V)(m n:Nat)
@[simp] def abN:eA K .Eq (.int a) (.int b)=pure (a==b):=by funext O;rfl
@[simp] def abO:eA K .NotEq (.int a) (.int b)=pure (!(a==b)):=by funext O;rfl
@[simp] def abP:eA K .Lt (.int a) (.int b)=pure (decide (a<b)):=rfl
@[simp] def abQ:eA K .LtE (.int a) (.int b)=pure (decide (a<=b)):=rfl
@[simp] def cmp_gt:eA K .Gt (.int a) (.int b)=pure (decide (b<a)):=rfl
@[simp] def abR:eA K .GtE (.int a) (.int b)=pure (decide (b<=a)):=rfl
@[simp] def abS:eA K .Eq (.str x) (.str y)=pure (x==y):=by funext O;rfl
@[simp] def TB:eA K .In (.str x) (.str y)=pure (Txt.contains y x):=rfl
@[simp] def bA:Builtin.bitAnd (m:Int) (n:Int)=((m&&&n:Nat):Int):=rfl
def IM:Builtin.bitNot (m:Int)= -(m:Int)-1:=by rfl
@[simp] def CG:Builtin.bitAnd (m:Int) (Builtin.bitNot (n:Int))=(m:Int)-((m&&&n:Nat):Int):=by
 unfold Builtin.bitAnd;simp only[(by rw[IM];simp;lia:decide (0<=Builtin.bitNot (n:Int))=false),show decide (0<=(m:Int))=true from by simp];have:Builtin.bitNot (Builtin.bitNot (n:Int))=n:=by change-(-(n:Int)-1)-1=_;lia
 rw[this];rfl
@[simp] def bO:Builtin.bitOr (m:Int) (n:Int)=((m|||n:Nat):Int):=by
 have e:∀k:Nat,decide (0<=Builtin.bitNot (k:Int))=false:=λk=>by rw[IM];simp;lia
 have nn:∀k:Nat,Builtin.bitNot (Builtin.bitNot (k:Int))=k:=λk=>by change-(-(k:Int)-1)-1=_;lia
 delta Builtin.bitOr Builtin.bitAnd;simp only[e m,e n];simp only[nn,nn,nn];rfl
def ox:(m:Int).fdiv (n:Int)=((m/n:Nat):Int):=by
 show Int.fdiv_eq_ediv_of_nonneg _ `S
def fdiv_two(j:Nat):(m:Int).fdiv (2^j)=((m>>>j:Nat):Int):=by
 have:(2:Int)^j=((2^j:Nat):Int):=by rfl
 simp only[this,ox,Nat.shiftRight_eq_div_pow]
def lb:(m:Int).fmod (n:Int)=((m%n:Nat):Int):=by
 show Int.fmod_eq_emod_of_nonneg _ `S
def TC{K:W.Frag}{n:Nat}(a:Int)(O:Hp):aY K (n+1) (.con (.type "range")) [.int a] [] O=some (.dU 0 a 1,O):=rfl
def TF{K:W.Frag}{n:Nat}(a b:Int)(O:Hp):aY K (n+1) (.con (.type "range")) [.int a,.int b] [] O=some (.dU a b 1,O):=rfl
def rF(l:List V)(O:Hp):ey (.lst l) O=some (.items l,O):=rfl
def mD(m:Nat)(O:Hp):ey (.dU 0 (m:Int) 1) O=if Builtin.Range.small 0 (m:Int) 1=true then some (.items ((List.range m).map λk:Nat=>V.int (k:Int)),O)else none:=by
 change(if Builtin.Range.small 0 (m:Int) 1=true then some (It.items (mU 0 (Builtin.Range.rangeSize 0 (m:Int) 1).toNat 1),O)else none)=_;have e:(Builtin.Range.rangeSize 0 (m:Int) 1).toNat=m:=by
  unfold Builtin.Range.rangeSize;simp;lia
 rw[e];congr 2;unfold mU;simp
end
end
abbrev rG(n:Nat):List Nat:=[5,4,3,2,1,0].flatMap λk=>if k=0\/0<n>>>(6*k)then [(if 0<k then 64 else 0)+(n>>>(6*k))%64]else []
abbrev iA(c:Nat):Nat:=if 31<c/\c<127 then c else c+128
abbrev ef(n:Nat):List Nat:=(rG n).map iA
abbrev iV(k:Nat):V:= .int (k:Int)
abbrev cJ:V->Nat
 | .int i=>i.toNat
 |_=>0
def TG(c:Nat):cJ (.int (c:Int))=c:=rfl
def IP(n:Nat):∀c∈rG n,c<128:=by
 intro c hc;show aj (List.mem_flatMap.mp hc) λk hk h=>?_;clear hk;split at h
 ·rw[List.mem_singleton]at h
  subst h;split<;>lia
 ·cases h
def one_le{c:Prop} [Decidable c]{x:List Nat}(h:x.length<=1):(if c then x else []).length<=1:=by split<;>simp_all
def TH{l:List Nat}{f:Nat->List Nat}(h:∀k,(f k).length<=1):(l.flatMap f).length<=l.length:=by
 induction l with
 |nil=>simp
 |cons a r ih=>simp only[List.flatMap_cons,List.length_append,List.length_cons];have:=h a;lia
def wb{l:List V}{f:V->List V}(h:∀k,(f k).length<=1):(l.flatMap f).length<=l.length:=by
 induction l with
 |nil=>simp
 |cons a r ih=>simp only[List.flatMap_cons,List.length_append,List.length_cons];have:=h a;lia
def CH(n:Nat):(rG n).length<=6:=TH λk=>one_le `S
def TJ{α β:Type}{l:List α}{f:α->List Nat}{f':β->List V}{i:α->β}{j:Nat->V}(h:∀a∈l,f' (i a)=(f a).map j):(l.map i).flatMap f'=(l.flatMap f).map j:=by
 induction l with
 |nil=>rfl
 |cons a r ih=>
  simp only[List.map_cons,List.flatMap_cons,List.flatMap_cons,List.map_append,h a (.head _),ih λb hb=>h b (.tail _ hb)]
section
variable{K:W.Frag}{F:aG}{O ag aa:Hp}{J a6:ab}{g:Addr}{n:Nat}{y:Str}{l:List V}{v:V}
def mE{m:M (List V)}(h:m O=some (l,ag)):iy y m J O=some (((y,.lst l)::J,.next),ag):=by unfold iy;simp only[aK,h];rfl
def eE{m:M V}(h:m O=some (v,ag)):bH y m J O=some (((y,v)::J,.next),ag):=by unfold bH;simp only[aK,h];rfl
def je{m:M V}(h:m O=some (v,ag)):cK m J O=some ((J,.ret v),ag):=by unfold cK;simp only[aK,h];rfl
def iB{ns:List Str}{first:M V}{turn:V->ab×List V->M (ab×List V)}(h:eB ns first turn J O=some (l,ag)):cU ns first turn J O=some (.lst l,ag):=by unfold cU;simp only[aK,h];rfl
def CI(c:Nat)(hc:c<1114112):aY K (n+1) (.con (.builtin "chr")) [iV c] [] O=some (.str (T [c]),O):=by
 change(if 0<=(c:Int)/\(c:Int)<=1114111 then pure (.str ⟨#[(c:Int).toNat]⟩)else au:M V) O=_;rw[az `L];rfl
def yE{l:List (List Nat)}(hl:l.flatten.length<=1000000):aY K (n+1) (.con (.builtin "str.join")) [.str ("":Str),.lst (l.map λx=>V.str (T x))] [] O=some (.str (T l.flatten),O):=by
 change(match mw (l.map λx=>V.str (T x))with|some ys=>if od ("":Str) ys<=1000000 then pure (.str (Txt.join ("":Str) ys))else au|none=>au:M V) O=_;rw[TA];change(if od ("":Str) (l.map T)<=1000000 then pure (.str (Txt.join ("":Str) (l.map T)))else au:M V) O=_;rw[az,join_nil]
 ·rfl
 ·unfold od
  simp only[List.map_map,show(("":Str).length=0)from rfl,Nat.mul_zero,Nat.add_zero];have:(l.map ((·.length)∘T))=l.map List.length:=by congr 1
  rw[this,<-List.length_flatten];show hl
def TK(c:Nat)(bR:c<128){aq:List V}(fP:aq.length<1000000)(kb:KB K)(k1:∀d:Nat,d<1114112->F (.con (.builtin "chr")) [.int (d:Int)] [] O=some (.str (T [d]),O)):
  bp (bf `c) (λJ=>[]) (bw λJ=>(aL K F (gl K `chr) [(eN (aQ K (pure (.int 31)) [.Lt,.Lt] [(lk J `c),(pure (.int 127))]) (lk J `c) (av .Add (lk J `c) (pure (.int 128))))] [] [])) (iV c) (J,aq) O=some (((`c,iV c)::J,aq++[.str (T [iA (cJ (iV c))])]),O):=by
 have k3:=k1 c (Nat.lt_trans bR `D);have k2:=k1 (c+128) (Nat.lt_trans (Nat.add_lt_add_right bR 128) `D);clear k1;by_cases hb:31<c/\c<127
 ·have b1:(31:Int)<(c:Int):=by lia
  simp! only[↓bZ kb.chr,b1,(by clear bR;lia:(c:Int)<127),k3,fP,iA,hb]
 ·have e9:(c:Int)+128=((c+128:Nat):Int):=rfl
  by_cases b1:31<c
  ·have b1:(31:Int)<(c:Int):=by lia
   simp! only[↓bZ kb.chr,b1,(by clear fP bR;lia:¬(c:Int)<127),e9,k2,fP,iA,hb]
  ·have b1:¬(31:Int)<(c:Int):=by lia
   simp! only[↓bZ kb.chr,b1,e9,k2,fP,iA,hb]
def TL(m k:Nat)(IQ:k<6){aq:List V}(hp:J.lookup `n=some (iV m))(hl:(aq++(if k=0\/0<m>>>(6*k)then [(if 0<k then 64 else 0)+(m>>>(6*k))%64]else []).map iV).length<=1000000):
  bp (bf `k) (λJ=>[(eu .Or [(aQ K (lk J `k) [.Eq] [(pure (.int 0))]),(aQ K (av .RShift (lk J `n) (av .Mult (pure (.int 6)) (lk J `k))) [.Gt] [(pure (.int 0))])])]) (bw λJ=>(av .Add (eN (aQ K (lk J `k) [.Gt] [(pure (.int 0))]) (pure (.int 64)) (pure (.int 0))) (av .Mod (av .RShift (lk J `n) (av .Mult (pure (.int 6)) (lk J `k))) (pure (.int 64))))) (iV k) (J,aq) O=
   some (((`k,iV k)::J,aq++(if k=0\/0<m>>>(6*k)then [(if 0<k then 64 else 0)+(m>>>(6*k))%64]else []).map iV),O):=by
 have e3:(m:Int).fdiv (2^(6*(k:Int)).toNat)=((m>>>(6*k):Nat):Int):=by
  show fdiv_two m (6*k)
 have e0:(0:Int)<=6*(k:Int):=by lia
 generalize m>>>(6*k)=w at e3 hl|-;have e4:(w:Int).fmod 64=((w%64:Nat):Int):=lb _ 64;generalize hw:w%64=w' at e4 hl|-;by_cases yF:k=0
 ·subst yF
  have fP:aq.length<1000000:=by simp at hl;lia
  simp! only[hp,true_or,List.map_cons,List.map_nil,fP,e3,e4];rfl
 ·have fP:0<w->aq.length<1000000:=λhw=>by simp[yF,hw]at hl;lia
  have wc:((k:Int)==0)=false:=by simp;assumption
  have tf:(k:Int).natAbs<2^31:=by show a9 `A `D
  have TM:(0:Int)<(k:Int):=by lia
  have TN:0<k:=by lia
  by_cases CJ:0<w
  ·have CK:(0:Int)<(w:Int):=by lia
   simp! only[hp,yF,CJ,or_true,List.map_cons,List.map_nil,fP CJ,e3,e4,wc,tf,e0,CK,TM,TN];rfl
  ·have CK:¬(0:Int)<(w:Int):=by lia
   simp! only[hp,yF,CJ,or_false,List.map_nil,e3,wc,tf,e0,CK]
def TO(kb:KB K)(m:Nat)(bY:F (.con (.type "range")) [.int 5,.int (-1),.int (-1)] [] O=some (.dU 5 (-1) (-1),O))(k1:∀d:Nat,d<1114112->F (.con (.builtin "chr")) [.int (d:Int)] [] O=some (.str (T [d]),O))
  (kj:F (.con (.builtin "str.join")) [.str ("":Str),.lst (((ef m).map λc=>[c]).map λx=>V.str (T x))] [] O=some (.str (T (ef m)),O)):
  a7 (Io K F [(`n,iV m)]) O λq aa=>∃v,dF q.2=some v/\v=V.str (T (ef m))/\aa=O:=by
 have hr:aL K F (gl K `range) [(pure (.int 5)),(kZ .USub (pure (.int 1))),(kZ .USub (pure (.int 1)))] [] [] O=some (.dU 5 (-1) (-1),O):=by
  rw[bZ kb.range];show bY
 have hi:ey (.dU 5 (-1) (-1)) O=some (.items ([5,4,3,2,1,0].map iV),O):=by
  rfl
 show sq (mE (lP (P:=λJ=>J.lookup `n=some (iV m)) (λv=>(if cJ v=0\/0<m>>>(6*cJ v)then [(if 0<cJ v then 64 else 0)+(m>>>(6*cJ v))%64]else []).map iV) hr hi rfl (a9 (wb λk=>by rw[bq];show one_le `S) (by change(6:Nat)<=1000000;decide)) ?_)) ?_
 ·intro v hv J aq hp hl
  show aj (cG hv) λk hk ay=>?_;subst ay;have IQ:k<6:=by simp at hk;lia
  show aA _ (by simp(decide:=true) only[bM,if_false,hp]) (TL m k IQ hp hl)
 ·change a7 _ _ _
  have TP:([5,4,3,2,1,0].map iV).flatMap (λv=>(if cJ v=0\/0<m>>>(6*cJ v)then [(if 0<cJ v then 64 else 0)+(m>>>(6*cJ v))%64]else []).map iV)=(rG m).map iV:=TJ λk _=>rfl;rw[TP];show sq (je (v:= .str (T (ef m))) (ag:=O) ((k0 (x:="") (id:="str.join") rfl rfl).trans ?_)) (bj _ rfl rfl rfl);rw[bF,iB (lP (P:=λ_=>True) (λv=>[V.str (T [iA (cJ v)])]) rfl (rF _ O) trivial (a9 (wb λk=>by simp) (by rw[bq];show a9 (CH m) `D)) λv hv J aq _ hl=>?_)]
  ·have hm:((rG m).map iV).flatMap (λv=>[V.str (T [iA (cJ v)])])=((ef m).map λc=>[c]).map λx=>V.str (T x):=by
    unfold ef;induction rG m with
    |nil=>rfl
    |cons a r ih=>show aJ _ ih
   show(hm)▸(kj)
  ·show aj (cG hv) λc hc ay=>?_;subst ay
   show aA _ trivial (TK c (IP m c hc) (by simp at hl;lia) kb k1)
def TQ(kb:KB K)(h:dH K g (bC 27) [])(m:Nat):aY K (n+2) (.con (.ref g)) [iV m] [] O=some (.str (T (ef m)),O):=by
 show ie ?_;rw[gU h];show gb h S4 rfl (bT:=[("n",iV m)]) rfl rfl (TO kb m ?_ (λd hd=>CI d hd) ?_)
 ·change(if(-1:Int)≠0/\(-1:Int).natAbs<1073741824 then pure (.dU 5 (-1) (-1))else au:M V) O=_
  rfl
 ·have IS:((ef m).map λc=>[c]).flatten=ef m:=by
   induction ef m with
   |nil=>rfl
   |cons a r ih=>simp[ih]
  have kj:=yE (K:=K) (n:=n) (O:=O) (l:=(ef m).map λc=>[c]) (by rw[IS];unfold ef;rw[bq];show a9 (CH m) `D);rw[IS]at kj;show kj
abbrev kD:Nat->List Nat->Option (Nat×List Nat)
 |_,[]=>none
 |aq,c::r=>if(c&&&64)=0 then some (aq*64+c%64,r)else kD (aq*64+c%64) r
def yG(aq c:Nat)(r:List Nat):kD aq (c::r)=if(c&&&64)=0 then some (aq*64+c%64,r)else kD (aq*64+c%64) r:=rfl
def CL:∀f,f<128->iA f%64=f%64/\((iA f&&&64)=0↔(f&&&64)=0):=by decide+kernel
def IT:∀f,f<64->(64+f)&&&64≠0/\(64+f)%64=f/\f&&&64=0:=by decide+kernel
def wd(m k aq:Nat)(r:List Nat)(hk:0<k)(ha:aq=m>>>(6*(k+1))):
  kD aq ((if k=0\/0<m>>>(6*k)then [(if 0<k then 64 else 0)+(m>>>(6*k))%64]else []).map iA++r)=kD (m>>>(6*k)) r:=by
 have e:m>>>(6*(k+1))=(m>>>(6*k))/64:=Nat.shiftRight_eq_div_pow _ 6;simp only[e]at ha;generalize m>>>(6*k)=t at ha|-;by_cases h:0<t
 ·show iS (IT _ (Nat.mod_lt _ `D:t%64<64)) λb1 b2 _=>?_
  rw[az (.inr h),az hk];change kD aq (iA (64+t%64)::r)=_;rw[yG,aN (λq=>b1 ((CL _ (by lia:64+t%64<128)).2.mp q)),(CL _ (by lia:64+t%64<128)).1,b2,ha];have:t/64*64+t%64=t:=by lia
  rw[this]
 ·have hz:t=0:=by lia
  subst hz;rw[aN `L];subst ha;rfl
def IU(m:Nat)(hm:m<2^36)(r:List Nat):kD 0 (ef m++r)=some (m,r):=by
 have e:ef m++r=(if 5=0\/0<m>>>(6*5)then [(if 0<5 then 64 else 0)+(m>>>(6*5))%64]else []).map iA++((if 4=0\/0<m>>>(6*4)then [(if 0<4 then 64 else 0)+(m>>>(6*4))%64]else []).map iA++
   ((if 3=0\/0<m>>>(6*3)then [(if 0<3 then 64 else 0)+(m>>>(6*3))%64]else []).map iA++((if 2=0\/0<m>>>(6*2)then [(if 0<2 then 64 else 0)+(m>>>(6*2))%64]else []).map iA++
   ((if 1=0\/0<m>>>(6*1)then [(if 0<1 then 64 else 0)+(m>>>(6*1))%64]else []).map iA++(iA (m%64)::r))))):=by
  delta ef rG;simp
 have z:(0:Nat)=m>>>(6*(5+1)):=by
  simp only[Nat.shiftRight_eq_div_pow];show(Nat.div_eq_of_lt hm).symm
 simp only[e,wd m 5 0 _ `D z,wd m 4 _ _ `D rfl,wd m 3 _ _ `D rfl,wd m 2 _ _ `D rfl,wd m 1 _ _ `D rfl];have bR:m%64<64:=Nat.mod_lt _ `D;show aI (CL (m%64) (by show a9 `A `D)) λo1 o2=>?_;rw[yG,az (o2.mpr (IT _ bR).2.2),o1,Nat.mod_mod];have:m>>>(6*1)*64+m%64=m:=by
  rw[Nat.shiftRight_eq_div_pow];lia
 rw[this]
def dn{m:M (ab×Fl)}{k:ab->M (ab×Fl)}(h:m O=some ((a6,.next),ag)):ar m k O=k a6 ag:=by
 unfold ar;rw[aK,h];rfl
def IV:∀{r:List Nat} {aq val:Nat} {r':List Nat},kD aq r=some (val,r')->aq*64<=val
 |[],_,_,_,e=>by cases e
 |c::r,aq,val,r',e=>by
  simp only[yG]at e;split at e
  ·cases e;simp
  ·show a9 (a9 (Nat.le_add_right _ _) (Nat.le_mul_of_pos_right _ `D)) (IV e)
def TR{tm:ab->M Bool}{bm om:ab->M (ab×Fl)}{aH:Hp}(h:tm J O=some (true,ag))(h2:bm J ag=some ((a6,.next),aH)):n9 tm bm om (n+1) J O=n9 tm bm om n a6 aH:=by
 change(tm J>>=_) O=_;rw[aK,h];change(bm J>>=_) ag=_;rw[aK,h2];rfl
def TS{tm:ab->M Bool}{bm om:ab->M (ab×Fl)}(h:tm J O=some (false,ag)):n9 tm bm om (n+1) J O=om J ag:=by
 change(tm J>>=_) O=_;rw[aK,h];rfl
abbrev yH(F:aG):Prop:=∀(O:Hp) (j k:Nat) (l:List V) (v:V),O[j]? =some (.cA l k)->l[k]? =some v->F (.con (.builtin "next")) [.ref j] [] O=some (v,O.set j (.cA l (k+1)))
def TU:yH (aY K (n+1)):=λO j k l v h1 h2=>by
 change(match O[j]?with|some o=>(match o with| .cA l k=>(match l[k]?with|some v=>ra v (·.set j (.cA l (k+1)))|none=>au)|_=>au:M V) O|none=>none)=_;rw[h1];dsimp only;rw[h2];rfl
abbrev cL(l:List Nat):List V:=l.map iV
def TV(a c:Nat):(a*64)|||(c&&&63)=a*64+c%64:=by
 rw[(Nat.and_two_pow_sub_one_eq_mod c 6:c&&&63=c%64),(by rw[Nat.shiftLeft_eq]:a*64=a<<<6),<-Nat.shiftLeft_add_eq_or_of_lt (Nat.mod_lt _ `D:c%64<2^6)]
def TX(kb:KB K)(hF:yH F){j k aq c d:Nat}{l:List Nat}(hb:J.lookup `b=some (iV c))(hv:J.lookup `val=some (iV aq))(hi:J.lookup `iterator=some (.ref j))(bB:O[j]? =some (.cA (cL l) k))(hl:l[k]? =some d)(jx:aq<2^60):
  (ar (lO `val .LShift (pure (.int 6)) J) λJ=>ar (bH `b (aL K F (gl K `next) [(lk J `iterator)] [] []) J) λJ=>ar (lO `val .BitOr (av .BitAnd (lk J `b) (pure (.int 63))) J) λJ=>aE J) O=
   some (((`val,iV (aq*64+d%64))::(`b,iV d)::(`val,iV (aq*64))::J,Fl.next),O.set j (.cA (cL l) (k+1))):=by
 have e1:=hF O j k _ _ bB (by unfold cL;simp only[List.getElem?_map,hl];rfl);have e3:(aq:Int)*2^(6:Int).toNat=((aq*64:Nat):Int):=by
  rfl
 show(dn (a6:=(`val,iV (aq*64))::J) (ag:=O) ?_).trans ((dn (a6:=(`b,iV d)::(`val,iV (aq*64))::J) (ag:=O.set j (.cA (cL l) (k+1))) ?_).trans ((dn (a6:=(`val,iV (aq*64+d%64))::(`b,iV d)::(`val,iV (aq*64))::J) (ag:=O.set j (.cA (cL l) (k+1))) ?_).trans rfl))
 ·simp! only[hv,(by omega:(aq:Int).natAbs<2^64),e3]
 ·simp! only[↓bZ kb.next,hi,e1]
 ·simp! only[bA,bO,show(63:Int)=((63:Nat):Int)from rfl,(TV aq d)]
def IW(kb:KB K)(hF:yH F){j:Nat}{l:List Nat}:∀(bD:Nat) (aV:List Nat) (k aq c:Nat) (J:ab) (O:Hp) (val:Nat) (mF:List Nat),aV.length<bD->l.drop k=aV->val<2^60->
  J.lookup `b=some (iV c)->J.lookup `val=some (iV aq)->J.lookup `iterator=some (.ref j)->O[j]? =some (.cA (cL l) k)->(if(c&&&64)=0 then some (aq,aV)else kD aq aV)=some (val,mF)->
  a7 (n9 (λJ=>(ib (av .BitAnd (lk J `b) (pure (.int 64))))) (λJ=>ar (lO `val .LShift (pure (.int 6)) J) λJ=>ar (bH `b (aL K F (gl K `next) [(lk J `iterator)] [] []) J) λJ=>ar (lO `val .BitOr (av .BitAnd (lk J `b) (pure (.int 63))) J) λJ=>aE J) (λJ=>aE J) bD J) O
   λq aa=>q.2= .next/\q.1.lookup `val=some (iV val)/\∃k',l.drop k'=mF/\aa=O.set j (.cA (cL l) k')
 |0,_,_,_,_,_,_,_,_,h,_,_,_,_,_,_,_=>absurd h (Nat.not_lt_zero _)
 |bD+1,aV,k,aq,c,J,O,val,mF,hf,hr,hb,h1,h2,h3,h4,e=>by
  have ht:(ib (av .BitAnd (lk J `b) (pure (.int 64)))) O=some ((((c&&&64:Nat):Int) !=0),O):=by
   simp! only[h1,show(64:Int)=((64:Nat):Int)from rfl,bA]
  by_cases hz:(c&&&64)=0
  ·rw[az hz]at e
   cases e;rw[hz]at ht;show⟨(J,.next),O,(TS ht).trans rfl,rfl,h2,k,hr,?_⟩;obtain⟨bR,e⟩:=cQ h4;simp only[<-e,List.set_getElem_self]
  ·rw[aN hz]at e
   have ou:(ib (av .BitAnd (lk J `b) (pure (.int 64)))) O=some (true,O):=by
    simp only[ht];congr 2;simp;assumption
   induction aV with
   |nil=>cases e
   |cons d r=>
    have hd:l[k]? =some d:=by
     have:=aJ List.head? hr;rw[List.head?_drop]at this;show this
    have tB:l.drop (k+1)=r:=by
     rw[<-List.drop_drop,hr];rfl
    symm
    obtain⟨q,aa,e1,e2,e3,k',e4,e5⟩:=IW (j:=j) (l:=l) kb hF bD r (k+1) (aq*64+d%64) d ((`val,iV (aq*64+d%64))::(`b,iV d)::(`val,iV (aq*64))::J) (O.set j (.cA (cL l) (k+1))) val mF (by simp at hf;assumption) tB hb
     (by rfl) (by rfl) h3 (List.getElem?_set_self ((cQ h4).1:j<O.length)) (by show e)
    left;show⟨q,aa,Eq.trans (TR ou ?_) e1,e2,e3,k',e4,by simp only[e5,List.set_set]⟩;show TX kb hF h1 h2 h3 h4 hd (by have:=IV e;lia:aq<2^60)
def TY(kb:KB K)(hF:yH F){j k val:Nat}{l mF:List Nat}(h4:O[j]? =some (.cA (cL l) k))(e:kD 0 (l.drop k)=some (val,mF))(hv:val<2^60)(bV:l.length<900):
  a7 (Ig K F [(`iterator,.ref j)]) O λq aa=>∃v,dF q.2=some v/\v=iV val/\∃k',l.drop k'=mF/\aa=O.set j (.cA (cL l) k'):=by
 symm
 cases hr:l.drop k with
 |nil=>rw[hr]at e;cases e
 |cons c r=>
  left;rw[hr,yG,Nat.zero_mul,Nat.zero_add]at e;have hd:l[k]? =some c:=by
   have:=aJ List.head? hr;rw[List.head?_drop]at this;show this
  have tB:l.drop (k+1)=r:=by rw[<-List.drop_drop,hr];rfl
  have e1:=hF O j k _ _ h4 (by unfold cL;simp only[List.getElem?_map,hd];rfl);show sq (o:=(((`b,iV c)::[(`iterator,.ref j)],.next),O.set j (.cA (cL l) (k+1)))) ?_ (sq (o:=(((`val,iV (c%64))::(`b,iV c)::[(`iterator,.ref j)],.next),O.set j (.cA (cL l) (k+1)))) ?_ (gv ?_))
  ·simp! only[↓bZ kb.next,e1]
  ·simp! only[show(63:Int)=((63:Nat):Int)from rfl,bA,(Nat.and_two_pow_sub_one_eq_mod c 6:c&&&63=c%64)]
  ·have oy:r.length<1000:=by
    have:=aJ List.length tB;rw[List.length_drop]at this;omega
   symm
   obtain⟨q,aa,w1,w2,w3,k',w4,w5⟩:=IW (j:=j) (l:=l) kb hF 1000 r (k+1) (c%64) c ((`val,iV (c%64))::(`b,iV c)::[(`iterator,.ref j)]) (O.set j (.cA (cL l) (k+1))) val mF oy tB hv
    (by rfl) (by rfl) (by rfl) (List.getElem?_set_self ((cQ h4).1:j<O.length)) e
   obtain⟨aO,fl⟩:=q;dsimp only at w2 w3;subst w2;left;show c8 _ _ w1 ?_;show sq (o:=((aO,.ret (iV val)),aa)) ?_ ⟨_,rfl,rfl,k',w4,by simp only[w5,List.set_set]⟩;simp! only[w3]
def IX(kb:KB K)(h:dH K g (bC 8) []){j k val:Nat}{l mF:List Nat}(h4:O[j]? =some (.cA (cL l) k))(e:kD 0 (l.drop k)=some (val,mF))(hv:val<2^60)(bV:l.length<900):
  ∃k',l.drop k'=mF/\aY K (n+2) (.con (.ref g)) [.ref j] [] O=some (iV val,O.set j (.cA (cL l) k')):=by
 have:=gb (n:=n+1) (O:=O) (vs:=[.ref j]) (aC:=[]) (Q:=λv aa=>v=iV val/\∃k',l.drop k'=mF/\aa=O.set j (.cA (cL l) k')) h SQ rfl (bT:=[("iterator",.ref j)]) rfl rfl (TY kb TU h4 e hv bV)
 symm
 obtain⟨v,aa,w1,rfl,k',w2,rfl⟩:=this;left;show aA k' w2 (by show(gU h)▸(w1))
def CM{S:Type}{bind:V->ab->Option ab}{first:M V}{body:ab->M (ab×Fl)}{xs:V}{l:List V}(Rel:S->ab->Prop)(step:S->V->S){s:S}(h1:first O=some (xs,ag))(h2:ey xs ag=some (.items l,ag))(h3:Rel s J)
  (hb:∀v∈l,∀s J,Rel s J->∃a6 cV,bind v J=some a6/\body a6 ag=some ((cV,.next),ag)/\Rel (step s v) cV):∃aO,d8 K F bind first body (λJ=>aE J) J O=some ((aO,.next),ag)/\Rel (l.foldl step s) aO:=by
 have:a7 (d8 K F bind first body (λJ=>aE J) J) O λq aa=>q.2= .next/\aa=ag/\Rel (l.foldl step s) q.1:=by
  show tu (I:=λaV J O=>O=ag/\∃s' done,l=done++aV/\Rel s' J/\s'=done.foldl step s) h1 h2 ⟨rfl,s,[],rfl,h3,rfl⟩ (λv aV J O h=>?_) λJ O h=>?_
  ·obtain⟨rfl,s',done,hd,hr,hs⟩:=h
   show ck (hb v (by rw[hd];simp) s' J hr) λa6 cV e1 e2 e3=>?_;show⟨a6,e1,_,_,e2,rfl,step s' v,done++[v],by rw[hd];simp,e3,by rw[List.foldl_append,hs];rfl⟩
  ·obtain⟨rfl,s',done,hd,hr,hs⟩:=h
   simp only[List.append_nil]at hd;subst hd;subst hs;show fC _ _ rfl rfl rfl hr
 symm
 show dg (this) λkU aa e h dW hr=>?_;obtain⟨aO,fl⟩:=kU;obtain rfl:=Eq.symm dW;dsimp only at h hr;subst h;left;show aA aO e hr
noncomputable abbrev cM:=Nat×Nat
abbrev mG(r:cM):V:= .tup [iV r.1,iV r.2]
abbrev dP(l:List cM):V:= .lst (l.map mG)
abbrev bh(l:List Nat):V:= .lst (l.map iV)
abbrev iC(m:Nat)(r:cM):Nat:=if m&&&r.1=r.1 then m|||r.2 else m
abbrev fR(ah:List cM)(m:Nat):Nat:=ah.foldl iC m
abbrev iO(ah:List cM)(m:Nat):Nat:=fR ah (fR ah (fR ah m))
abbrev dD(h c:Nat):Nat:=h-(h&&&c)
abbrev jy(ah:List cM)(h c:Nat):Nat:=if iO ah (dD h c)=31 then dD h c else h
abbrev least(iD:Nat)(ah:List cM)(aM:List Nat):Nat:=aM.foldl (jy ah) iD
def CN{h c:Nat}:(h:Int)-((h&&&c:Nat):Int)=((dD h c:Nat):Int):=by
 have:h&&&c<=h:=Nat.and_le_left;unfold dD;omega
def foldl_map'{α β γ:Type}(f:β->γ->β)(i:α->γ):∀(l:List α) (s:β),(l.map i).foldl f s=l.foldl (λs a=>f s (i a)) s
 |[],_=>rfl
 |a::r,s=>foldl_map' f i r _
abbrev rH:V->cM
 | .tup [.int a,.int b]=>(a.toNat,b.toNat)
 |_=>(0,0)
def IY(r:cM):rH (mG r)=r:=rfl
noncomputable abbrev nt(h:Nat)(ah:List cM)(aM:List Nat)(c m:Nat)(J:ab):Prop:=J.lookup `more=some (iV m)/\J.lookup `held=some (iV h)/\J.lookup `rules=some (dP ah)/\J.lookup `column=some (iV c)
def TZ{h c m:Nat}{ah:List cM}{aM:List Nat}(hr:nt h ah aM c m J):∃aO,(d8 K F (eJ [`left,`right]) (lk J `rules) (λJ=>ar (bH `more (eN (aQ K (av .BitAnd (lk J `more) (lk J `left)) [.Eq] [(lk J `left)]) (av .BitOr (lk J `more) (lk J `right)) (lk J `more)) J) λJ=>aE J) (λJ=>aE J) J) O=some ((aO,.next),O)/\nt h ah aM c (fR ah m) aO:=by
 have key:=CM (K:=K) (F:=F) (O:=O) (ag:=O) (J:=J) (bind:=eJ [`left,`right]) (first:=lk J `rules) (xs:=dP ah) (l:=ah.map mG) (nt h ah aM c) (λs v=>iC s (rH v)) (s:=m)
  (body:=λJ=>ar (bH `more (eN (aQ K (av .BitAnd (lk J `more) (lk J `left)) [.Eq] [(lk J `left)]) (av .BitOr (lk J `more) (lk J `right)) (lk J `more)) J) λJ=>aE J)
  (ic hr.2.2.1) rfl hr (λv hv s J hs=>by
   show aj (cG hv) λr _ ay=>?_;subst ay;show cF ((`right,iV r.2)::(`left,iV r.1)::J) _ rfl ((dn (a6:=(`more,iV (iC s r))::(`right,iV r.2)::(`left,iV r.1)::J) (ag:=O) ?_).trans rfl) ?_
   ·unfold iC
    by_cases hc:s&&&r.1=r.1
    ·simp! only[hs.1,bA,bO,hc,beq_self_eq_true]
    ·have:(((s&&&r.1:Nat):Int)==(r.1:Int))=false:=by simp;lia
     simp! only[hs.1,bA,bO,hc,this]
   ·simp only[IY]
    simp(decide:=true) only[nt,bM,if_true,if_false,hs.2.1,hs.2.2.1,hs.2.2.2,and_self])
 show aj key λaO e1 e2=>?_;show aA aO e1 ?_;have:(ah.map mG).foldl (λs v=>iC s (rH v)) m=fR ah m:=by
  rw[foldl_map'];rfl
 rw[this]at e2;show e2
def rI(m:Nat)(h:m<=1000):Builtin.Range.small 0 (m:Int) 1=true:=by
 show small_one `S `D `S `L
abbrev mH(F:aG):Prop:=∀(a:Int) (O:Hp),F (.con (.type "range")) [.int a] [] O=some (.dU 0 a 1,O)
def oz:mH (aY K (n+1)):=λa O=>TC a O
def T1(kb:KB K)(hR:mH F){h c m:Nat}{ah:List cM}{aM:List Nat}(hr:nt h ah aM c m J):
  ∃aO,(d8 K F (bf `turn) (aL K F (gl K `range) [(pure (.int 3))] [] []) (λJ=>ar (d8 K F (eJ [`left,`right]) (lk J `rules) (λJ=>ar (bH `more (eN (aQ K (av .BitAnd (lk J `more) (lk J `left)) [.Eq] [(lk J `left)]) (av .BitOr (lk J `more) (lk J `right)) (lk J `more)) J) λJ=>aE J) (λJ=>aE J) J) λJ=>aE J) (λJ=>aE J) J) O=some ((aO,.next),O)/\nt h ah aM c (iO ah m) aO:=by
 have key:=CM (K:=K) (F:=F) (O:=O) (ag:=O) (J:=J) (bind:=bf `turn) (first:=aL K F (gl K `range) [(pure (.int 3))] [] []) (xs:= .dU 0 3 1) (l:=(List.range 3).map iV) (nt h ah aM c) (λs _=>fR ah s) (s:=m)
  (body:=λJ=>ar (d8 K F (eJ [`left,`right]) (lk J `rules) (λJ=>ar (bH `more (eN (aQ K (av .BitAnd (lk J `more) (lk J `left)) [.Eq] [(lk J `left)]) (av .BitOr (lk J `more) (lk J `right)) (lk J `more)) J) λJ=>aE J) (λJ=>aE J) J) λJ=>aE J)
  (by rw[bZ kb.range];show hR 3 O) ((mD 3 O).trans (az (rI 3 `D))) hr (λv hv s J hs=>by
   have jO:nt h ah aM c s ((`turn,v)::J):=by
    simp(decide:=true) only[nt,bM,if_true,if_false,hs.1,hs.2.1,hs.2.2.1,hs.2.2.2,and_self]
   show aj (TZ (K:=K) (F:=F) (O:=O) jO) λaO e1 e2=>?_;show cF _ aO rfl ((dn e1).trans rfl) e2)
 show aj key λaO e1 e2=>?_;show aA aO e1 e2
def T3(kb:KB K)(hR:mH F)(iD:Nat)(ah:List cM)(aM:List Nat):
  a7 (Im K F [(`order,bh aM),(`rules,dP ah),(`held,iV iD)]) O λq aa=>∃v,dF q.2=some v/\v=iV (least iD ah aM)/\aa=O:=by
 have key:=CM (K:=K) (F:=F) (O:=O) (ag:=O) (J:=[(`order,bh aM),(`rules,dP ah),(`held,iV iD)]) (bind:=bf `column) (xs:=bh aM) (l:=aM.map iV) (first:=lk [(`order,bh aM),(`rules,dP ah),(`held,iV iD)] `order)
  (λh J=>J.lookup `held=some (iV h)/\J.lookup `rules=some (dP ah)) (λs v=>jy ah s (cJ v)) (s:=iD)
  (body:=λJ=>ar (bH `more (av .BitAnd (lk J `held) (kZ .Invert (lk J `column))) J) λJ=>ar (d8 K F (bf `turn) (aL K F (gl K `range) [(pure (.int 3))] [] []) (λJ=>ar (d8 K F (eJ [`left,`right]) (lk J `rules) (λJ=>ar (bH `more (eN (aQ K (av .BitAnd (lk J `more) (lk J `left)) [.Eq] [(lk J `left)]) (av .BitOr (lk J `more) (lk J `right)) (lk J `more)) J) λJ=>aE J) (λJ=>aE J) J) λJ=>aE J) (λJ=>aE J) J) λJ=>ar (bH `held (eN (aQ K (lk J `more) [.Eq] [(pure (.int 31))]) (av .BitAnd (lk J `held) (kZ .Invert (lk J `column))) (lk J `held)) J) λJ=>aE J)
  (by rfl) rfl (by simp(decide:=true) only[bM,if_true,if_false,and_self]) (λv hv s J hs=>by
   show aj (cG hv) λc _ ay=>?_;subst ay;have h0:nt s ah aM c (dD s c) ((`more,iV (dD s c))::(`column,iV c)::J):=by
    simp(decide:=true) only[nt,bM,if_true,if_false,hs.1,hs.2,and_self]
   show l8 (T1 (K:=K) (F:=F) (O:=O) kb hR h0) λaO e1 e2 e3 e4 e5=>?_;show cF ((`column,iV c)::J) ((`held,iV (jy ah s c))::aO) rfl ((dn ?_).trans ((dn e1).trans ((dn (a6:=(`held,iV (jy ah s c))::aO) (ag:=O) ?_).trans rfl))) ?_
   ·simp! only[hs.1,CG,CN]
   ·unfold jy
    by_cases hc:iO ah (dD s c)=31
    ·have:((iO ah (dD s c):Int)==31)=true:=by rw[hc];rfl
     simp! only[e2,e3,e5,CG,CN,hc,this]
    ·have:((iO ah (dD s c):Int)==31)=false:=by simp;lia
     simp! only[e2,e3,e5,hc,this]
   ·simp(decide:=true) only[bM,if_true,if_false,e4,and_self,TG,iV])
 show bK key λaO e1 e2 e3=>?_;show sq e1 ?_;show sq (o:=((aO,.ret (iV (least iD ah aM))),O)) ?_ (bj _ rfl rfl rfl);have:(aM.map iV).foldl (λs v=>jy ah s (cJ v)) iD=least iD ah aM:=by rw[foldl_map'];rfl
 rw[this]at e2;simp! only[e2]
def T4(kb:KB K)(h:dH K g (bC 26) [])(iD:Nat)(ah:List cM)(aM:List Nat):aY K (n+2) (.con (.ref g)) [iV iD,dP ah,bh aM] [] O=some (iV (least iD ah aM),O):=by
 show ie ?_;rw[gU h];show gb h S0 rfl (bT:=[("held",iV iD),("rules",dP ah),("order",bh aM)]) rfl rfl (T3 kb oz iD ah aM)
def IZ(p:V->Bool)(f:V->V):∀l:List V,(l.flatMap λv=>if p v=true then [f v]else [])=(l.filter p).map f
 |[]=>rfl
 |a::r=>by
  simp only[List.flatMap_cons,IZ p f r,List.filter_cons];split<;>simp
def kE{ns:List Str}{first:M V}{bind:V->ab->Option ab}{tests:ab->List (M Bool)}{e:ab->M V}{xs:V}{l:List V}{P:ab->Prop}(p:V->Bool)(f:V->V)(h1:first O=some (xs,ag))(h2:ey xs ag=some (.items l,ag))(h3:P (nq ns J))(bV:l.length<=1000000)
  (hb:∀v∈l,∀J,P J->∃aO,bind v J=some aO/\P aO/\kP (tests aO) ag=some (p v,ag)/\(p v=true->e aO ag=some (f v,ag))):eB ns first (bp bind tests (bw e)) J O=some ((l.filter p).map f,ag):=by
 rw[<-IZ];show lP (P:=P) (λv=>if p v=true then [f v]else []) h1 h2 h3 (a9 (wb λv=>by split<;>simp) bV) λv hv J aq hp hl=>?_;show ku (hb v hv J hp) λaO b1 b2 b3 b4=>?_;show aA aO b2 ?_;unfold bp;simp only[aK,fY,b1,Option.map_some,Option.bind_some,b3];by_cases hc:p v=true
 ·simp only[hc,if_true,bw,aK,b4 hc,Option.bind_some,(by rw[az hc]at hl;simp at hl;show gM `A `D:aq.length<1000000),mA]
 ·simp only[hc,if_false,mA,List.append_nil,Bool.false_eq_true]
@[simp] def T5 (l:List V):eA K .Eq (.lst l) (.lst [])=pure l.isEmpty:=by
 funext O;induction l<;>rfl
def CO{ns:List Str}{first:M V}{turn:V->ab×List V->M (ab×List V)}{l:List V}(h:eB ns first turn J O=some (l,O)):kP [(aQ K (cU ns first turn J) [.Eq] [(pure (.lst []))])] O=some (l.isEmpty,O):=by
 have e:=iB h;generalize cU ns first turn J=m at e
 simp only[IF,vY,aQ,aK,e,Option.bind_some,qk,mA,T5,vX];induction l<;>rfl
def tC{α β:Type}(f:α->β)(l:List α):(l.map f).isEmpty=l.isEmpty:=by induction l<;>rfl
def iP{x:Str}{v:V}(h:J.lookup x=some v){ns:List Str}(hx:ns.contains x=true):(nq ns J).lookup x=some v:=by
 unfold nq;have:=A6 (f:=λy=>ns.contains y) (J:=J) (x:=x);rw[this,az hx];show h
def nu{α:Type}(p:V->Bool)(q:α->Bool)(i:α->V)(h:∀a,p (i a)=q a):∀l:List α,(l.map i).filter p=(l.filter q).map i
 |[]=>rfl
 |a::r=>by
  simp only[List.map_cons,List.filter_cons,List.filter_cons,nu p q i h r,h a];split<;>rfl
abbrev brk(c:Nat)(r:cM):Bool:=(c&&&r.1==r.1)&&(c&&&r.2 !=r.2)
abbrev jz(ah:List cM):List Nat:=(List.range 31).filter λc=>(ah.filter (brk c)).isEmpty
abbrev nv(cl:List Nat):List Nat:=(List.range 32).filter λc=>(cl.filter λd=>c|||d==d).isEmpty
abbrev I0(w:List Nat):List Nat:=w.filter λc=>(w.filter λd=>(d !=c)&&(c&&&d==d)).isEmpty
abbrev eZ(ah:List cM):List Nat:=I0 (nv (jz ah))
def rJ(a b:Nat):((a:Int)==(b:Int))=(a==b):=by
 by_cases h:a=b
 ·subst h;simp only[beq_self_eq_true,beq_self_eq_true]
 ·rw[gm h,beq_eq_false_iff_ne]
  lia
def T6(c:Nat)(ah:List cM)(h1:J.lookup `rules=some (dP ah))(h2:J.lookup `c=some (iV c))(hl:ah.length<=1000000):
  kP [(aQ K (cU [`c] (lk J `rules) (bp (eJ [`left,`right]) (λJ=>[(eu .And [(aQ K (av .BitAnd (lk J `c) (lk J `left)) [.Eq] [(lk J `left)]),(aQ K (av .BitAnd (lk J `c) (lk J `right)) [.NotEq] [(lk J `right)])])]) (bw λJ=>(pure (.int 1)))) J) [.Eq] [(pure (.lst []))])] O=some ((ah.filter (brk c)).isEmpty,O):=by
 have e:=kE (O:=O) (ag:=O) (J:=J) (ns:=[`c]) (first:=lk J `rules) (xs:=dP ah) (l:=ah.map mG) (P:=λJ=>J.lookup `c=some (iV c)) (bind:=eJ [`left,`right]) (e:=λJ=>(pure (.int 1)))
  (tests:=λJ=>[(eu .And [(aQ K (av .BitAnd (lk J `c) (lk J `left)) [.Eq] [(lk J `left)]),(aQ K (av .BitAnd (lk J `c) (lk J `right)) [.NotEq] [(lk J `right)])])])
  (λv=>brk c (rH v)) (λ_=> .int 1) (ic h1) rfl (iP h2 `D) (by rw[bq];show hl) (λv hv J hp=>by
   show aj (cG hv) λr _ ay=>?_;subst ay;show dw ((`right,iV r.2)::(`left,iV r.1)::J) rfl hp ?_ (λ_=>rfl);simp only[IY];unfold brk;by_cases k1:c&&&r.1=r.1
   ·by_cases k2:c&&&r.2=r.2
    ·simp! only[hp,bA,k1,k2,beq_self_eq_true,Bool.true_and,bne_self_eq_false]
    ·have:(((c&&&r.2:Nat):Int)==(r.2:Int))=false:=by rw[rJ];simpa using k2
     simp! only[hp,bA,k1,this,(by simpa using k2:(c&&&r.2 !=r.2)=true),beq_self_eq_true,Bool.true_and]
   ·have:(((c&&&r.1:Nat):Int)==(r.1:Int))=false:=by rw[rJ];simpa using k1
    simp! only[hp,bA,this,(by simpa using k1:(c&&&r.1==r.1)=false),Bool.false_and])
 have e2:(ah.map mG).filter (λv=>brk c (rH v))=(ah.filter (brk c)).map mG:=nu _ _ _ (λr=>rfl) _;simp only[e2]at e;simp only[CO e,tC,tC]
def T7(c:Nat)(cl:List Nat)(h1:J.lookup `closed=some (bh cl))(h2:J.lookup `c=some (iV c))(hl:cl.length<=1000000):
  kP [(aQ K (cU [`c] (lk J `closed) (bp (bf `d) (λJ=>[(aQ K (av .BitOr (lk J `c) (lk J `d)) [.Eq] [(lk J `d)])]) (bw λJ=>(pure (.int 1)))) J) [.Eq] [(pure (.lst []))])] O=some ((cl.filter λd=>c|||d==d).isEmpty,O):=by
 have e:=kE (O:=O) (ag:=O) (J:=J) (ns:=[`c]) (first:=lk J `closed) (xs:=bh cl) (l:=cl.map iV) (P:=λJ=>J.lookup `c=some (iV c)) (bind:=bf `d) (e:=λJ=>(pure (.int 1)))
  (tests:=λJ=>[(aQ K (av .BitOr (lk J `c) (lk J `d)) [.Eq] [(lk J `d)])])
  (λv=>c|||cJ v==cJ v) (λ_=> .int 1) (ic h1) rfl (iP h2 `D) (by rw[bq];show hl) (λv hv J hp=>by
   show aj (cG hv) λd _ ay=>?_;subst ay;show dw ((`d,iV d)::J) rfl hp ?_ (λ_=>rfl);rw[show cJ (iV d)=d from rfl];have:=rJ (c|||d) d;generalize hb:(c|||d==d)=b at*;induction b<;>simp! only[hp,bO,this])
 have e2:(cl.map iV).filter (λv=>c|||cJ v==cJ v)=(cl.filter λd=>c|||d==d).map iV:=nu _ _ _ (λr=>rfl) _;rw[e2]at e;simp only[CO e,tC,tC]
def T8(c:Nat)(w:List Nat)(h1:J.lookup `wide=some (bh w))(h2:J.lookup `c=some (iV c))(hl:w.length<=1000000):
  kP [(aQ K (cU [`c] (lk J `wide) (bp (bf `d) (λJ=>[(eu .And [(aQ K (lk J `d) [.NotEq] [(lk J `c)]),(aQ K (av .BitAnd (lk J `c) (lk J `d)) [.Eq] [(lk J `d)])])]) (bw λJ=>(pure (.int 1)))) J) [.Eq] [(pure (.lst []))])] O=some ((w.filter λd=>(d !=c)&&(c&&&d==d)).isEmpty,O):=by
 have e:=kE (O:=O) (ag:=O) (J:=J) (ns:=[`c]) (first:=lk J `wide) (xs:=bh w) (l:=w.map iV) (P:=λJ=>J.lookup `c=some (iV c)) (bind:=bf `d) (e:=λJ=>(pure (.int 1)))
  (tests:=λJ=>[(eu .And [(aQ K (lk J `d) [.NotEq] [(lk J `c)]),(aQ K (av .BitAnd (lk J `c) (lk J `d)) [.Eq] [(lk J `d)])])])
  (λv=>(cJ v !=c)&&(c&&&cJ v==cJ v)) (λ_=> .int 1) (ic h1) rfl (iP h2 `D) (by rw[bq];show hl) (λv hv J hp=>by
   show aj (cG hv) λd _ ay=>?_;subst ay;show dw ((`d,iV d)::J) rfl hp ?_ (λ_=>rfl);rw[show cJ (iV d)=d from rfl];have t1:=rJ (c&&&d) d;have t2:=rJ d c;have t3:(d !=c)= !(d==c):=rfl;generalize hb:(c&&&d==d)=b at*;generalize nU:(d==c)=b' at*;induction b<;>induction b'<;>simp! only[hp,bA,t1,t2,t3])
 have e2:(w.map iV).filter (λv=>(cJ v !=c)&&(c&&&cJ v==cJ v))=(w.filter λd=>(d !=c)&&(c&&&d==d)).map iV:=nu _ _ _ (λr=>rfl) _;simp only[e2]at e;simp only[CO e,tC,tC]
def filter_le{l:List Nat}(p:Nat->Bool):(l.filter p).length<=l.length:=List.length_filter_le _ _
def T9(kb:KB K)(hR:mH F)(ah:List cM)(hl:ah.length<=1000):
  a7 (Ip K F [(`rules,dP ah)]) O λq aa=>∃v,dF q.2=some v/\v=bh (eZ ah)/\aa=O:=by
 have pq:(jz ah).length<=31:=a9 (filter_le _) `S;have uH:(nv (jz ah)).length<=32:=a9 (filter_le _) `S;show sq (mE (kE (xs:= .dU 0 31 1) (l:=(List.range 31).map iV) (P:=λJ=>J.lookup `rules=some (dP ah)) (λv=>(ah.filter (brk (cJ v))).isEmpty) (λv=>v) (by rw[bZ kb.range];show hR 31 O) ((mD 31 O).trans (az (rI 31 `D))) (iP (by rfl) `D) `S ?_)) ?_
 ·intro v hv J hp
  show aj (cG hv) λc _ ay=>?_;subst ay;have h3:=hp;show dw _ rfl h3 (T6 c ah h3 (by rfl:List.lookup `c ((`c,iV c)::J)=some (iV c)) (by show a9 `A `D)) (λ_=>by rfl)
 simp only[(nu _ _ _ (λr=>rfl) _:((List.range 31).map iV).filter (λv=>(ah.filter (brk (cJ v))).isEmpty)=(jz ah).map iV),List.map_id'];show sq (mE (kE (xs:= .dU 0 32 1) (l:=(List.range 32).map iV) (P:=λJ=>J.lookup `closed=some (bh (jz ah))) (λv=>((jz ah).filter λd=>cJ v|||d==d).isEmpty) (λv=>v) (by rw[bZ kb.range];show hR 32 O) ((mD 32 O).trans (az (rI 32 `D))) (iP rfl `D) `S ?_)) ?_
 ·intro v hv J hp
  show aj (cG hv) λc _ ay=>?_;subst ay;have h3:=(hp).trans rfl;show dw _ rfl h3 (T7 c _ h3 (by rfl:List.lookup `c ((`c,iV c)::J)=some (iV c)) (by show a9 `A `D)) (λ_=>by rfl)
 rw[(nu _ _ _ (λr=>rfl) _:((List.range 32).map iV).filter (λv=>((jz ah).filter λd=>cJ v|||d==d).isEmpty)=(nv (jz ah)).map iV),List.map_id'];show sq (je (iB (kE (xs:=bh (nv (jz ah))) (l:=(nv (jz ah)).map iV) (P:=λJ=>J.lookup `wide=some (bh (nv (jz ah)))) (λv=>((nv (jz ah)).filter λd=>(d !=cJ v)&&(cJ v&&&d==d)).isEmpty) (λv=>v) rfl rfl (iP (by kernel_rfl) `D) (by rw[bq];lia) ?_))) ?_
 ·intro v hv J hp
  show aj (cG hv) λc _ ay=>?_;subst ay;have h3:=hp;show dw _ rfl h3 (T8 c _ h3 (by rfl:List.lookup `c ((`c,iV c)::J)=some (iV c)) `L) (λ_=>by rfl)
 rw[(nu _ _ _ (λr=>rfl) _:((nv (jz ah)).map iV).filter (λv=>((nv (jz ah)).filter λd=>(d !=cJ v)&&(cJ v&&&d==d)).isEmpty)=(eZ ah).map iV),List.map_id'];show bj _ rfl rfl rfl
def Ua(kb:KB K)(h:dH K g (bC 29) [])(ah:List cM)(hl:ah.length<=1000):aY K (n+2) (.con (.ref g)) [dP ah] [] O=some (bh (eZ ah),O):=by
 show ie ?_;rw[gU h];show gb h S6 rfl (bT:=[("rules",dP ah)]) rfl rfl (T9 kb oz ah hl)
abbrev jA:Str:="OPTIMIZED NEWLOCALS VARARGS VARKEYWORDS NESTED GENERATOR NOFREE COROUTINE ITERABLE_COROUTINE ASYNC_GENERATOR"
abbrev jf(k:Nat):Str:=if k<10 then((Txt.split jA (" ":Str))[k]?).getD "" else baseText "0x" 16 ((2^k:Nat):Int)
abbrev kg(n k:Nat):Bool:=(n>>>k)%2==1
abbrev fS(n:Nat):List Str:=((List.range 32).filter (kg n)).map jf
abbrev eF(n:Nat):Str:=Txt.join (", ":Str) (fS n)
def Ub:∀k,k<32->(jf k).length<=20:=by decide+kernel
def split_len:(Txt.split jA (" ":Str)).length=10:=by decide+kernel
def CP:∀l:List Str,mw (l.map V.str)=some l
 |[]=>rfl
 |a::r=>by change(mw (r.map V.str)).map (a::·)=_;show aJ _ (CP r)
def Uc(l:List Str)(c:Nat)(h:∀x∈l,x.length<=c)(eO:Str):od eO l<=l.length*(c+eO.length):=by
 unfold od;induction l with
 |nil=>simp
 |cons a r ih=>
  have h1:=h a (.head _);have h2:=ih λx hx=>h x (.tail _ hx);simp only[List.map_cons,List.sum_cons,List.length_cons]at h2|-;lia
def Ud(m:Nat):(fS m).length<=32:=by
 unfold fS;rw[bq];show a9 (List.length_filter_le _ _) `S
def I1(m:Nat):od (", ":Str) (fS m)<=1000000:=by
 have h1:=Uc (fS m) 20 (λx hx=>by
  show aj (cG hx) λk hk ay=>?_;subst ay;have:=List.mem_range.mp (List.mem_filter.mp hk).1;show Ub k this) (", ":Str)
 have h2:=Ud m;rw[(by decide:((", ":Str).length)=2)]at h1;lia
def Ue(m:Nat)(O:Hp):aY K (n+1) (.con (.builtin "str.join")) [.str (", ":Str),.lst ((fS m).map V.str)] [] O=some (.str (eF m),O):=by
 change(match mw ((fS m).map V.str)with|some ys=>if od (", ":Str) ys<=1000000 then pure (.str (Txt.join (", ":Str) ys))else au|none=>au:M V) O=_;rw[CP];change(if od (", ":Str) (fS m)<=1000000 then pure (.str (Txt.join (", ":Str) (fS m)))else au:M V) O=_;rw[az (I1 m)];rfl
def Ug(O:Hp):aY K (n+1) (.con (.builtin "str.split")) [.str jA,.str (" ":Str)] [] O=some (.lst ((Txt.split jA (" ":Str)).map .str),O):=by
 change(if((" ":Str).length==0)=false/\cg jA=true/\(Txt.split jA (" ":Str)).length<=1000000 then pure (.lst ((Txt.split jA (" ":Str)).map .str))else au:M V) O=_;show(by kernel_rfl)
def I2(k:Nat)(hk:k<32)(O:Hp):aY K (n+1) (.con (.builtin "hex")) [.int ((2^k:Nat):Int)] [] O=some (.str (baseText "0x" 16 ((2^k:Nat):Int)),O):=by
 change(if(baseText "0x" 16 ((2^k:Nat):Int)).length<=1000000 then pure (.str (baseText "0x" 16 ((2^k:Nat):Int)))else au:M V) O=_;have:∀k,k<32->(baseText "0x" 16 ((2^k:Nat):Int)).length<=20:=by decide+kernel
 rw[az (a9 (this k hk) `D)];rfl
def Uh(m k:Nat):(((m>>>k&&&1:Nat):Int) !=0)=kg m k:=by
 unfold kg;rw[Nat.and_one_is_mod];have:=Nat.mod_two_eq_zero_or_one (m>>>k);rcases this with h|h<;>rw[h]<;>rfl
def I3(k:Nat):(1:Int)*2^(k:Int).toNat=((2^k:Nat):Int):=by
 simp only[Int.one_mul,Int.toNat_natCast,Int.natCast_pow];rfl
def Ui(k:Nat)(hk:k<10)(O:Hp):jM (.lst ((Txt.split jA (" ":Str)).map .str)) (.int (k:Int)) O=some (.str (jf k),O):=by
 change lF ((Txt.split jA (" ":Str)).map .str) (k:Int) O=_;unfold lF;rw[az ⟨by simp,by rw[bq,split_len];decide⟩,fY,Int.toNat_natCast,List.getElem?_map];unfold jf;rw[az hk];have:k<(Txt.split jA (" ":Str)).length:=by simp only[split_len];show hk
 rw[eH this];rfl
def Uj(kb:KB K)(hR:mH F)(m:Nat)(h1:∀O,F (.con (.builtin "str.split")) [.str jA,.str (" ":Str)] [] O=some (.lst ((Txt.split jA (" ":Str)).map .str),O))(h2:∀k,k<32->∀O,F (.con (.builtin "hex")) [.int ((2^k:Nat):Int)] [] O=some (.str (baseText "0x" 16 ((2^k:Nat):Int)),O))
  (h3:∀O,F (.con (.builtin "str.join")) [.str (", ":Str),.lst ((fS m).map V.str)] [] O=some (.str (eF m),O)):
  a7 (Iq K F [(`number,iV m)]) O λq aa=>∃v,dF q.2=some v/\v= .str (eF m)/\aa=O:=by
 show sq (eE (v:= .str jA) (ag:=O) rfl) ?_;show sq (je (v:= .str (eF m)) (ag:=O) ((k0 (x:=(", ":Str)) (id:="str.join") rfl rfl).trans ?_)) (bj _ rfl rfl rfl);rw[bF,iB (kE (xs:= .dU 0 32 1) (l:=(List.range 32).map iV) (P:=λJ=>J.lookup `number=some (iV m)/\J.lookup `names=some (.str jA)) (λv=>kg m (cJ v)) (λv=> .str (jf (cJ v))) (by rw[bZ kb.range];show hR 32 O) ((mD 32 O).trans (az (rI 32 `D))) ⟨iP (by rfl) `D,iP rfl `D⟩ `S ?_)]
 ·have e1:((List.range 32).map iV).filter (λv=>kg m (cJ v))=((List.range 32).filter (kg m)).map iV:=nu _ _ _ (λr=>rfl) _
  rw[e1,List.map_map];have e2:((List.range 32).filter (kg m)).map ((λv=>V.str (jf (cJ v)))∘iV)=(fS m).map V.str:=by unfold fS;simp only[List.map_map];rfl
  rw[e2];show h3 O
 ·intro v hv J ⟨p1,p2⟩
  show aj (cG hv) λk hk ay=>?_;subst ay;have hk:k<32:=List.mem_range.mp hk;show⟨(`k,iV k)::J,rfl,⟨by show p1,by show(p2).trans rfl⟩,?_,λhb=>?_⟩
  ·have e3:(m:Int).fdiv (2^(k:Int).toNat)=((m>>>k:Nat):Int):=by show fdiv_two m k
   have e4:=Uh m k;have e5:(0:Int)<=(k:Int):=by simp
   simp only[show cJ (iV k)=k from rfl];generalize kg m k=b at*;cases(b)<;>simp! only[p1,e3,e5,show(1:Int)=((1:Nat):Int)from rfl,bA,e4]
  ·by_cases I4:k<10
   ·have e1:(k:Int)<10:=by lia
    have e2:=Ui k I4 O;have e3:a4 K F (lk ((`k,V.int (k:Int))::J) `names) `split [(pure (.str (" ":Str)))] [] [] O=some (.lst ((Txt.split jA (" ":Str)).map .str),O):=by
     rw[k0 (x:=jA) (id:="str.split") (ag:=O) (aJ _ p2) rfl];show h1 O
    generalize Txt.split jA (" ":Str)=ws at*;simp! only[e1,e3,e2]
   ·have e6:jf k=baseText "0x" 16 ((2^k:Nat):Int):=by unfold jf;show aN I4
    have e7:=h2 k hk O;have e8:=I3 k;generalize((2^k:Nat):Int)=w at*;simp! only[(by lia:¬(k:Int)<10),↓bZ kb.hex,(by lia:(0:Int)<=(k:Int)/\(k:Int)<=64),e8,e7,e6]
def Uk(kb:KB K)(h:dH K g (bC 30) [])(m:Nat):aY K (n+2) (.con (.ref g)) [iV m] [] O=some (.str (eF m),O):=by
 show ie ?_;rw[gU h];show gb h S7 rfl (bT:=[("number",iV m)]) rfl rfl (Uj kb oz m Ug I2 (Ue m))
structure yI(K:W.Frag)(d:Addr):Prop where
 glob:mC K "COMPILER_FLAG_NAMES" (.con (.ref d))
 dO:∀O,gR K (.con (.ref d)) "get" O=some ((.con (.builtin "dict.get"),[.con (.ref d)]),O)
 get:∀k,k<32->∀u O,tc K "dict.get" [.con (.ref d),.int ((2^k:Nat):Int),u] O=some (if k<10 then .str (jf k)else u,O)
abbrev rK(F:aG):Prop:=∀(j:Nat) (l:List V) (v:V) (O:Hp),O[j]? =some (.list l)->l.length<=1000000->F (.con (.builtin "list.append")) [.ref j,v] [] O=some (.none,O.set j (.list (l++[v])))
variable{d:Addr}
def we:rK (aY K (n+1)):=λj l v O h1 h2=>by
 show Ql h1 h2
def Ul{j:Nat}{l:List V}(h:O[j]? =some (.list l)):gR K (.ref j) "append" O=some ((.con (.builtin "list.append"),[.ref j]),O):=by
 change(match O[j]?with|some (.list _)=>(x6 `append).map λid=>((V.con (.builtin id),[V.ref j]),O)|some (.dict _)=>_|some (.inst ..)=>_|_=>none)=_;rw[h];rfl
def wg(hA:rK F){o e:M V}{j:Nat}{l:List V}{aH:Hp}(h1:o O=some (.ref j,ag))(h2:ag[j]? =some (.list l))(h3:e ag=some (v,aH))(h4:aH[j]? =some (.list l))(hl:l.length<=1000000):
  j0 (a4 K F o "append" [e] [] []) J O=some ((J,.next),aH.set j (.list (l++[v]))):=by
 unfold j0;simp only[aK,ke h1 (Ul h2) rfl,bF,h3];change(((F (.con (.builtin "list.append")) [.ref j,v] [] aH)).bind λp=>(pure (J,Fl.next):M (ab×Fl)) p.2)=_;simp only[hA j l v aH h4 hl];rfl
abbrev gc(m i:Nat):List Str:=((List.range i).filter (kg m)).map jf
def I5(m i:Nat):gc m (i+1)=gc m i++if kg m i=true then [jf i]else []:=by
 unfold gc;simp only[List.range_succ,List.filter_append,List.map_append];congr 1;rw[List.filter_cons];split<;>rfl
def Um{m i:Nat}(hi:i<=32)(h:m>>>i=0):gc m i=fS m:=by
 have key:∀c,i+c<=32->gc m (i+c)=gc m i:=by
  intro c;induction c with
  |zero=>intro _;rfl
  |succ c ih=>
   intro h32;simp only[show i+(c+1)=(i+c)+1 from rfl,I5,ih (by show Nat.le_of_lt `A)];have:kg m (i+c)=false:=by
    unfold kg;rw[Nat.shiftRight_add,h,Nat.zero_shiftRight];rfl
   rw[this];simp
 have:=key (32-i) (Nat.le_of_eq (Nat.add_sub_cancel' hi));rw[show i+(32-i)=32 from Nat.add_sub_cancel' hi]at this;show this.symm
def I6(t i:Nat):(t*2^i)&&&(2^i)=(t%2)*2^i:=by
 rw[((Nat.shiftLeft_eq t i).symm:t*2^i=t<<<i)]
 conv=>lhs;simp only[(by simp only[Nat.shiftLeft_eq,Nat.one_mul]:2^i=1<<<i)]
 rw[((Nat.shiftLeft_and_distrib).symm:(t<<<i)&&&(1<<<i)=(t&&&1)<<<i),Nat.and_one_is_mod,Nat.shiftLeft_eq]
def Un(t i:Nat)(h:t%2=1):Builtin.bitXor ((t*2^i:Nat):Int) ((2^i:Nat):Int)=(((t/2)*2^(i+1):Nat):Int):=by
 unfold Builtin.bitXor;simp only[bO,bA,I6,h,Nat.one_mul];have e4:t|||1=t:=by
  have h2:t=2*(t/2)+1:=by lia
  have:=Nat.shiftLeft_add_eq_or_of_lt (show(1:Nat)<2^1 by decide) (t/2);rw[Nat.shiftLeft_eq]at this;rw[(by lia:t/2*2^1+1=t)]at this
  conv=>lhs;rw[this]
  simp only[Nat.or_assoc,Nat.or_self];show this.symm
 have e5:t*2^i|||2^i=t*2^i:=by
  conv=>lhs;rw[((Nat.shiftLeft_eq t i).symm:t*2^i=t<<<i),(by simp only[Nat.shiftLeft_eq,Nat.one_mul]:2^i=1<<<i),((Nat.shiftLeft_or_distrib).symm:(t<<<i)|||(1<<<i)=(t|||1)<<<i),e4]
  show Nat.shiftLeft_eq t i
 rw[e5];have e6:t*2^i=(t/2)*2^(i+1)+2^i:=by
  conv=>lhs;rw[(by lia:t=2*(t/2)+1)]
  simp only[Nat.pow_succ,Nat.add_mul,Nat.one_mul,Nat.mul_comm 2 (t/2),Nat.mul_assoc,Nat.mul_comm 2 (2^i)]
 lia
def kh{t:M Bool}{a b:M (ab×Fl)}(h:t O=some (true,ag)):c6 t a b O=a ag:=by unfold c6;simp only[aK,h];rfl
def gw{t:M Bool}{a b:M (ab×Fl)}(h:t O=some (false,ag)):c6 t a b O=b ag:=by unfold c6;simp only[aK,h];rfl
def Uo(m i:Nat):m>>>(i+1)=(m>>>i)/2:=by rfl
noncomputable abbrev CQ(cH:Hp)(m:Nat)(aV:List V)(J:ab)(O:Hp):Prop:=∃i,i<=32/\aV=((List.range 32).drop i).map iV/\m>>>i≠0/\J.lookup `flags=some (iV ((m>>>i)*2^i))/\J.lookup `names=some (.ref cH.length)/\O=cH++[.list ((gc m i).map V.str)]
def Up(kb:KB K)(hR:mH F)(hA:rK F)(hf:yI K d)(m:Nat)(h0:m≠0)(hm:m<2^32)(h2:∀k,k<32->∀O,F (.con (.builtin "hex")) [.int ((2^k:Nat):Int)] [] O=some (.str (baseText "0x" 16 ((2^k:Nat):Int)),O))
  (h3:∀k,k<32->∀O,F (.con (.builtin "dict.get")) [.con (.ref d),.int ((2^k:Nat):Int),.str (baseText "0x" 16 ((2^k:Nat):Int))] [] O=some (.str (jf k),O))
  (h4:F (.con (.builtin "str.join")) [.str (", ":Str),.ref O.length] [] (O++[.list ((fS m).map V.str)])=some (.str (eF m),O++[.list ((fS m).map V.str)])):
  a7 (Cy K F [(`flags,iV m)]) O λq aa=>∃v,dF q.2=some v/\v= .str (eF m)/\aa=O++[.list ((fS m).map V.str)]:=by
 unfold Cy;show sq (o:=(((`names,V.ref O.length)::[(`flags,iV m)],.next),O++[.list []])) rfl (gv (tu (xs:= .dU 0 32 1) (l:=(List.range 32).map iV) (ag:=O++[.list []]) (I:=CQ O m) (by rw[bZ kb.range];show hR 32 _) ((mD 32 _).trans (az (rI 32 `D))) ?_ (λv aV J ag h=>?_) λJ ag h=>?_))
 ·show⟨0,by decide,by show aJ _ List.drop_zero,by simpa using h0,by simp(decide:=true) only[bM,if_false,if_true,Nat.shiftRight_zero,Nat.pow_zero,Nat.mul_one],by show rfl,rfl⟩
 ·show ui h λi hi bP eI e1 e2 wh=>?_;subst wh
  have tD:i<32:=by
   rcases Nat.lt_or_ge i 32 with h|h
   ·show h
   ·have:i=32:=Nat.le_antisymm hi h
    subst this;have:=aJ List.length bP;simp at this
  have hd:(List.range 32).drop i=i::(List.range 32).drop (i+1):=by
   rw[List.drop_eq_getElem_cons (by simpa using tD)];simp
  rw[hd,List.map_cons]at bP;show aI (List.cons.inj bP) λbY aF=>?_;subst bY;subst aF;show⟨(`i,iV i)::J,rfl,?_⟩;have bV:(O++[bx.list ((gc m i).map V.str)])[O.length]? =some (.list ((gc m i).map V.str)):=by simp
  have Uq:((gc m i).map V.str).length<=1000000:=by
   unfold gc;simp only[bq,bq];show a9 (List.length_filter_le _ _) (by rw[List.length_range];lia)
  have e5:(0:Int)<=(i:Int)/\(i:Int)<=64:=⟨Int.natCast_nonneg _,Int.ofNat_le.mpr (a9 (Nat.le_of_lt tD) `D)⟩;have e8:=I3 i;have I7:=I5 m i;have CR:=Uo m i;have hh:=h2 i tD (O++[.list ((gc m i).map V.str)]);have hg:=h3 i tD (O++[.list ((gc m i).map V.str)]);have hand:=I6 (m>>>i) i;have Ur:=Un (m>>>i) i;have I8:kg m i=((m>>>i)%2==1):=rfl;have CS:0<2^i:=Nat.pow_pos `D;have Us:(m>>>i)%2=0->(m>>>i)*2^i=(m>>>(i+1))*2^(i+1):=λh=>by
   simp only[CR,Nat.pow_succ];have:m>>>i=(m>>>i)/2*2:=(Nat.div_mul_cancel (Nat.dvd_of_mod_eq_zero h)).symm
   conv=>lhs;rw[this]
   simp only[Nat.mul_assoc,Nat.mul_comm 2]
  have rL:i+1=32->m>>>(i+1)=0:=λh=>by
   simp only[h,Nat.shiftRight_eq_div_pow];show Nat.div_eq_of_lt hm
  show sq (o:=(((`flag,.int ((2^i:Nat):Int))::(`i,iV i)::J,.next),O++[.list ((gc m i).map V.str)])) ?_ ?_
  ·generalize((2^i:Nat):Int)=w at*
   simp! only[e5,e8]
  by_cases yJ:(m>>>i)%2=1
  ·have ht:(ib (av .BitAnd (lk ((`flag,.int ((2^i:Nat):Int))::(`i,iV i)::J) `flags) (lk ((`flag,.int ((2^i:Nat):Int))::(`i,iV i)::J) `flag))) (O++[.list ((gc m i).map V.str)])=some (true,O++[.list ((gc m i).map V.str)]):=by
    rw[yJ,Nat.one_mul]at hand;have:(((2^i:Nat):Int) !=0)=true:=by rw[bne_iff_ne];show Int.ofNat_ne_zero.mpr (Nat.ne_of_gt CS)
    generalize(m>>>i)*2^i=u at*;generalize(2^i:Nat)=w at*;simp! only[e1,bA,hand,this]
   have CT:j0 (a4 K F (lk ((`flag,.int ((2^i:Nat):Int))::(`i,iV i)::J) `names) `append [(a4 K F (gl K `COMPILER_FLAG_NAMES) `get [(lk ((`flag,.int ((2^i:Nat):Int))::(`i,iV i)::J) `flag),(aL K F (gl K `hex) [(lk ((`flag,.int ((2^i:Nat):Int))::(`i,iV i)::J) `flag)] [] [])] [] [])] [] []) ((`flag,.int ((2^i:Nat):Int))::(`i,iV i)::J) (O++[.list ((gc m i).map V.str)])=
     some (((`flag,.int ((2^i:Nat):Int))::(`i,iV i)::J,.next),O++[.list ((gc m (i+1)).map V.str)]):=by
    have rz:a4 K F (gl K `COMPILER_FLAG_NAMES) `get [(lk ((`flag,.int ((2^i:Nat):Int))::(`i,iV i)::J) `flag),(aL K F (gl K `hex) [(lk ((`flag,.int ((2^i:Nat):Int))::(`i,iV i)::J) `flag)] [] [])] [] [] (O++[.list ((gc m i).map V.str)])=some (.str (jf i),O++[.list ((gc m i).map V.str)]):=by
     rw[ke (tw hf.glob _) (hf.dO _) rfl];generalize((2^i:Nat):Int)=w at*;simp! only[↓bZ kb.hex,hh,hg]
    rw[wg hA (by simp(decide:=true) only[fZ,bM,if_false,e2,Option.map_some]) bV rz bV Uq];simp only[I7,I8,yJ];simp
   show gv (iz (o:=(((`flags,iV ((m>>>(i+1))*2^(i+1)))::(`flag,.int ((2^i:Nat):Int))::(`i,iV i)::J,if m>>>(i+1)=0 then .brk else .next),O++[.list ((gc m (i+1)).map V.str)])) ?_ ?_)
   ·rw[kh ht]
    show(dn CT).trans ((dn (a6:=(`flags,iV ((m>>>(i+1))*2^(i+1)))::(`flag,.int ((2^i:Nat):Int))::(`i,iV i)::J) (ag:=O++[.list ((gc m (i+1)).map V.str)]) ?_).trans ?_)
    ·have hx:=Ur yJ
     rw[CR];generalize((m>>>i)/2)*2^(i+1)=u' at*;generalize(m>>>i)*2^i=u at*;generalize((2^i:Nat):Int)=w at*;simp! only[e1,hx]
    ·by_cases hz:m>>>(i+1)=0
     ·rw[hz,Nat.zero_mul]
      simp! only[ar,show((0:Nat):Int)=0 from rfl,bne_self_eq_false]
     ·have hu:0<(m>>>(i+1))*2^(i+1):=Nat.mul_pos (Nat.pos_of_ne_zero hz) (Nat.pow_pos `D)
      rw[aN hz];generalize(m>>>(i+1))*2^(i+1)=u at hu|-;have:((u:Int) !=0)=true:=by rw[bne_iff_ne];lia
      simp! only[ar,this]
   ·by_cases hz:m>>>(i+1)=0
    ·rw[az hz]
     change a7 (ar (cK _ _) λJ=>aE J) _ _;show sq (o:=(((`flags,iV ((m>>>(i+1))*2^(i+1)))::(`flag,.int ((2^i:Nat):Int))::(`i,iV i)::J,.ret (.str (eF m))),O++[.list ((fS m).map V.str)])) ?_ ⟨_,rfl,rfl,rfl⟩;rw[Um `L hz];show je ((k0 (x:=(", ":Str)) (id:="str.join") rfl rfl).trans ?_);simp only[bF,fZ];simp(decide:=true) only[bM,if_false,e2,Option.map_some,Option.bind_some,mB,h4]
    ·rw[aN hz]
     change a7 (aE _) _ _;show⟨_,_,rfl,?_⟩;change CQ _ _ _ _ _;show⟨i+1,tD,rfl,hz,by simp(decide:=true) only[bM,if_true],by simp(decide:=true) only[bM,if_false,e2],rfl⟩
  ·have jR:(m>>>i)%2=0:=(Nat.mod_two_eq_zero_or_one _).resolve_right yJ
   have ht:(ib (av .BitAnd (lk ((`flag,.int ((2^i:Nat):Int))::(`i,iV i)::J) `flags) (lk ((`flag,.int ((2^i:Nat):Int))::(`i,iV i)::J) `flag))) (O++[.list ((gc m i).map V.str)])=some (false,O++[.list ((gc m i).map V.str)]):=by
    rw[jR,Nat.zero_mul]at hand;generalize(m>>>i)*2^i=u at*;generalize(2^i:Nat)=w at*;simp! only[e1,bA,hand,show((0:Nat):Int)=0 from rfl,bne_self_eq_false]
   show gv (iz (o:=(((`flag,.int ((2^i:Nat):Int))::(`i,iV i)::J,.next),O++[.list ((gc m i).map V.str)])) ?_ ?_)
   ·rw[gw ht];rfl
   ·change a7 (aE _) _ _
    show⟨_,_,rfl,?_⟩;change CQ _ _ _ _ _;have Ut:m>>>(i+1)≠0:=by
     rw[CR];lia
    show⟨i+1,tD,rfl,Ut,?_,by simp(decide:=true) only[bM,if_false,e2],?_⟩
    ·simp(decide:=true) only[bM,if_false,e1]
     rw[Us jR]
    ·simp only[I7,I8,jR];simp
 ·show ku h λi hi bP eI _=>?_
  have:i=32:=by
   have:=aJ List.length bP;simp at this;lia
  subst this;show absurd (by rw[Nat.shiftRight_eq_div_pow];show Nat.div_eq_of_lt hm) eI
def I9(kb:KB K)(hf:yI K d)(h:dH K g (bC 4) [])(m:Nat)(h0:m≠0)(hm:m<2^32):aY K (n+2) (.con (.ref g)) [iV m] [] O=some (.str (eF m),O++[.list ((fS m).map V.str)]):=by
 show ie ?_;rw[gU h];show gb h SP rfl (bT:=[("flags",iV m)]) rfl rfl (Up kb oz we hf m h0 hm I2 (λk hk O=>?_) ?_)
 ·simp only[IJ]
  unfold vR;dsimp only;rw[aN `D,hf.get k hk];unfold jf;split<;>rfl
 ·change joinM "str.join" [.str (", ":Str),.ref O.length] _=_
  delta joinM args;dsimp only;rw[Fe];rw[az rfl,vw (o:= .list ((fS m).map V.str)) (yx (i:=0))];dsimp only;rw[CP];dsimp only;rw[vx (I1 m)];rfl
structure pw(K:W.Frag)(C:Addr)(name:Str):Prop where
 get:W.plainGet K C name=true
 attr:s6 K C name=true
 dict:W.hasDictIn K C=true
 set:s7 K C name=true
end
section
variable{K:W.Frag}{F:aG}{O ag aa:Hp}{J a6:ab}{g C:Addr}{n:Nat}{y name:Str}{v:V}{l:List (Str×V)}{j d:Nat}
def qn(hm:nr K C name g)(hi:cY O j=some (C,d,l))(hl:l.lookup name=none):gR K (.ref j) name O=some ((.con (.ref g),[.ref j]),O):=by
 change og K (.ref j) name O=_;unfold og;dsimp only;rw[((Bo hi).1)];rw[hi];dsimp only;rw[az hm.get,hl,hm.fn];rfl
def nz(ha:pw K C name)(hi:cY O j=some (C,d,l))(hl:l.lookup name=some v)(hv:xY v=true):ju K (.ref j) name O=some (v,O):=by
 show ob rfl (ob hi ((az ⟨ha.get,ha.dict⟩).trans ((aJ (λo=>Option.elim o _ _) hl).trans (az ⟨ha.attr,hv⟩))))
def CU(hm:nr K C name g)(hi:cY O j=some (C,d,l))(hl:l.lookup name=none):ju K (.ref j) name O=some (.dO (.ref g) (.ref j),O):=by
 show ob rfl (ob hi ((az ⟨hm.get,hm.dict⟩).trans ((aJ (λo=>Option.elim o _ _) hl).trans (aJ (Option.map _) hm.own))))
def mI{o:M V}{u:V}(h1:o O=some (.ref j,ag))(h2:ju K (.ref j) name ag=some (u,ag)):d9 K o name O=some (u,ag):=by unfold d9;simp only[aK,h1];show h2
def Uu{o:M V}{ms:List (M V)}{x:Str}{k:M V}{fv:V}{first:List V}{aH:Hp}(h1:o O=some (v,ag))(h2:gR K v name ag=some ((fv,first),aH))(h3:gq K fv=true):a4 K F o name ms [x] [k] O=(dR ms aH).bind λp=>(k p.2).bind λq=>F fv (first++p.1) [(x,q.1)] q.2:=by
 unfold a4;rw[aK,h1];change(gR K v name>>=_) ag=_;simp only[aK,h2];change(if gq K fv=true then kz F fv first ms [x] [k]else au) aH=_;rw[az h3,IE]
def CV{body:V->ab->M (ab×Fl)}{I:List V->ab->Prop}{Q:ab×Fl->Hp->Prop}{L:List V}(bB:O[j]? =some (.list L))(hb:∀v aV J,I (v::aV) J->a7 (body v J) O λq aa=>match q.2 with| .next=>aa=O/\I aV q.1| .cont=>aa=O/\I aV q.1| .brk=>Q (q.1,.next) aa| .ret u=>Q (q.1,.ret u) aa):
  ∀(bD:Nat) (aV:List V) (k:Nat) (J:ab),L.drop k=aV->aV.length<bD->I aV J->a7 (fQ (fq K F) body bD (.live j k) J) O λr aa=>match r.2 with|none=>aa=O/\I [] r.1|some f=>Q (r.1,f) aa
 |0,_,_,_,_,h,_=>absurd h (Nat.not_lt_zero _)
 |bD+1,[],k,J,hd,_,hI=>by
  have hk:L[k]? =none:=by
   have:=aJ List.head? hd
   rwa [List.head?_drop]at this
  have hn:fq K F (.live j k) O=some (none,O):=by
   change(mV O j k).map (·,O)=_;unfold mV;rw[bB];dsimp only;rw[hk];rfl
  show⟨(J,none),O,?_,rfl,hI⟩;change(fq K F (.live j k)>>=_) O=_;rw[aK,hn];rfl
 |bD+1,v::aV,k,J,hd,hl,hI=>by
  have hk:L[k]? =some v:=by
   have:=aJ List.head? hd
   rwa [List.head?_drop]at this
  have hn:fq K F (.live j k) O=some (some (v,.live j (k+1)),O):=by
   change(mV O j k).map (·,O)=_;unfold mV;rw[bB];dsimp only;rw[hk];rfl
  symm
  show br (hb v aV J hI) λkU ag e q=>?_;obtain⟨a6,f⟩:=kU;left;have hu:fQ (fq K F) body (bD+1) (.live j k) J O=(body v J>>=λr=>match r.2 with
   | .next=>fQ (fq K F) body bD (.live j (k+1)) r.1
   | .cont=>fQ (fq K F) body bD (.live j (k+1)) r.1
   | .brk=>pure (r.1,some .next)
   | .ret v=>pure (r.1,some (.ret v))) O:=by
   change(fq K F (.live j k)>>=_) O=_;rw[aK,hn];rfl
  unfold a7;rw[hu,aK,e];induction f with
  |next=>show aI q λhs q=>?_;rw[hs];show CV bB hb bD aV (k+1) a6 (by rw[<-List.drop_drop,hd];rfl:L.drop (k+1)=aV) (by simp at hl;omega) q
  |cont=>show aI q λhs q=>?_;rw[hs];show CV bB hb bD aV (k+1) a6 (by rw[<-List.drop_drop,hd];rfl:L.drop (k+1)=aV) (by simp at hl;omega) q
  |brk=>show c8 _ _ rfl q
  |ret u=>show c8 _ _ rfl q
def Uv{bind:V->ab->Option ab}{first:M V}{body du:ab->M (ab×Fl)}{I:List V->ab->Prop}{Q:ab×Fl->Hp->Prop}{L:List V}(h1:first O=some (.ref j,ag))(bB:ag[j]? =some (.list L))(bV:L.length<100000)(h3:I L J)
  (hb:∀v aV J,I (v::aV) J->∃a6,bind v J=some a6/\a7 (body a6) ag λq aa=>match q.2 with| .next=>aa=ag/\I aV q.1| .cont=>aa=ag/\I aV q.1| .brk=>Q (q.1,.next) aa| .ret u=>Q (q.1,.ret u) aa) (he:∀J,I [] J->a7 (du J) ag Q):a7 (d8 K F bind first body du J) O Q:=by
 have h2:ey (.ref j) ag=some (.live j 0,ag):=by
  unfold ey;dsimp only;rw[bB]
 show wp_bind (c8 _ _ h1 (wp_bind (c8 _ _ h2 (wp_bind ?_))));show(CV (K:=K) (F:=F) (Q:=Q) bB (λv aV J h=>?_) 100000 L 0 J rfl bV h3).mono λr aa q=>?_
 ·show aj (hb v aV J h) λa6 e w=>?_
  show wp_bind (c8 a6 ag (aJ _ e) w)
 ·obtain⟨aO,o⟩:=r
  induction o with
  |none=>obtain⟨rfl,q⟩:=q;show he aO q
  |some f=>show c8 _ _ rfl q
def Ja{S:Type}{body:V->S->M S}{I:List V->S->Prop}{L:List V}(bB:O[j]? =some (.list L))(hb:∀v aV st,I (v::aV) st->∃gD,body v st O=some (gD,O)/\I aV gD):
  ∀(bD:Nat) (aV:List V) (k:Nat) (st:S),L.drop k=aV->aV.length<bD->I aV st->∃gD,iZ body bD (.live j k) st O=some (gD,O)/\I [] gD
 |0,_,_,_,_,h,_=>absurd h (Nat.not_lt_zero _)
 |bD+1,[],k,st,hd,_,hI=>by
  have hk:L[k]? =none:=by
   have:=aJ List.head? hd
   rwa [List.head?_drop]at this
  show aA st ?_ hI;change(match nS O (.live j k)with|some none=>some (st,O)|some (some (v,cX))=>(do let gD<-body v st;iZ body bD cX gD) O|none=>none)=_;have:nS O (.live j k)=some none:=by
   change mV O j k=_;unfold mV;rw[bB];dsimp only;rw[hk]
  rw[this]
 |bD+1,v::aV,k,st,hd,hl,hI=>by
  have hk:L[k]? =some v:=by
   have:=aJ List.head? hd
   rwa [List.head?_drop]at this
  show aj (hb v aV st hI) λjV e q=>?_;have:nS O (.live j k)=some (some (v,.live j (k+1))):=by
   change mV O j k=_;unfold mV;rw[bB];dsimp only;rw[hk]
  show aj (Ja bB hb bD aV (k+1) jV (by rw[<-List.drop_drop,hd];rfl:L.drop (k+1)=aV) (by simp at hl;omega) q) λgD e' q'=>?_;show aA gD ?_ q';change(match nS O (.live j k)with|some none=>some (st,O)|some (some (v,cX))=>(do let gD<-body v st;iZ body bD cX gD) O|none=>none)=_;rw[this];simp only[aK,e];show e'
def yK{ns:List Str}{first:M V}{turn:V->ab×List V->M (ab×List V)}{L:List V}{P:ab->Prop}(f:V->V)(h1:first O=some (.ref j,ag))(bB:ag[j]? =some (.list L))(bV:L.length<100000)(h3:P (nq ns J))
  (hb:∀v∈L,∀J aq,P J->aq.length<1000000->∃aO,P aO/\turn v (J,aq) ag=some ((aO,aq++[f v]),ag)):eB ns first turn J O=some (L.map f,ag):=by
 have h2:ey (.ref j) ag=some (.live j 0,ag):=by
  unfold ey;dsimp only;rw[bB]
 obtain⟨gD,e,hI⟩:=Ja (O:=ag) (body:=turn) (I:=λaV st=>P st.1/\∃done,L=done++aV/\st.2=done.map f) bB (λv aV st h=>by
  symm
  obtain⟨hp,done,hd,hs⟩:=h;have hl:st.2.length<1000000:=by
   rw[hs,bq];have:=aJ List.length hd;simp at this;lia
  show aj (hb v (by rw[hd];simp) st.1 st.2 hp hl) λaO qd e=>?_;left;show⟨_,e,qd,done++[v],by rw[hd];simp,by rw[hs];simp⟩) 100000 L 0 (nq ns J,[]) rfl bV ⟨h3,[],rfl,rfl⟩
 symm
 obtain⟨_,done,hd,hs⟩:=hI;simp only[List.append_nil]at hd;subst hd;left;delta eB lN;simp only[aK,aK,h1];change(((ey (.ref j)>>=λit=>if it.own=true then iZ turn (mX it) it (nq ns J,[])else au) ag).bind _)=_;simp only[aK,h2];change((iZ turn 100000 (.live j 0) (nq ns J,[]) ag).bind _)=_;rw[e];change some (gD.2,ag)=_;rw[hs]
abbrev gF(x:Str):Bool:=cg x&&x.cps.all nj
noncomputable abbrev Row:=Str×Str
abbrev gG(r:Row):V:= .tup [.str r.1,.str r.2]
structure TabAt(O:Hp)(C:Addr)(t td th:Nat)(L:List Row):Prop where
 inst:O[t]? =some (.inst C td)
 attrs:O[td]? =some (.attrs [(`_headers,.ref th)])
 rows:O[th]? =some (.list (L.map gG))
structure HK(K:W.Frag)(a:Ad):Prop where
 conv:nr K a.headers "_convert_string_type" a.v9
 Jb:dH K a.v9 (dG 19 1) []
 get:nr K a.headers "get" a.rE
 CW:dH K a.rE (dG 19 8) [.none]
 keys:nr K a.headers "keys" a.tA
 rM:dH K a.tA (dG 19 9) []
 vals:nr K a.headers "values" a.wa
 Jc:dH K a.wa (dG 19 10) []
 set:nr K a.headers "setdefault" a.qm
 Uw:dH K a.qm (dG 19 15) []
 kX:pw K a.headers "_headers"
 pj:mC K "_name_disallowed_re" (.con (.ref a.pj))
 pn:mC K "_value_disallowed_re" (.con (.ref a.pn))
 Ux:jZ K a.pj=true
 Uy:jZ K a.pn=true
variable{t td th:Nat}{a:Ad}{L:List Row}
def TabAt.cY(h:TabAt O C t td th L):Mine.cY O t=some (C,td,[(`_headers,.ref th)]):=by
 unfold Mine.cY;rw[h.inst];dsimp only;rw[h.attrs]
def rO(x:Str)(h:x≠"_headers"):List.lookup x [(`_headers,V.ref th)]=none:=by rw[bM,aN h];rfl
def Uz{p:Addr}(h:jZ K p=true)(x:Str)(hx:gF x=true):aY K (n+1) (.con (.builtin "re.Pattern.search")) [.con (.ref p),.str x] [] O=some (.none,O):=by
 simp only[IJ];unfold vR;dsimp only;rw[az rfl];change(if "re.Pattern.search"="re.Pattern.search"/\jZ K p=true/\cg x=true/\x.cps.all nj=true then pure .none else au:M V) O=_;rw[az (kr rfl h (fb hx).1 (fb hx).2)];rfl
def UA{p:Addr}(h:jZ K p=true):gR K (.con (.ref p)) "search" O=some ((.con (.builtin "re.Pattern.search"),[.con (.ref p)]),O):=by
 unfold gR;dsimp only;rw[az ⟨h,rfl⟩];rfl
def UB(kb:KB K)(hk:HK K a)(x:Str)(b:Bool)(s:V)(h1:F (.con (.type "type")) [.str x] [] O=some (.con (.type "str"),O))(h2:∀p,jZ K p=true->F (.con (.builtin "re.Pattern.search")) [.con (.ref p),.str x] [] O=some (.none,O)):
  a7 (Iv K F [(`name,.bool b),(`value,.str x),(`self,s)]) O λq aa=>∃v,dF q.2=some v/\v= .str x/\aa=O:=by
 have ht:(aQ K (aL K F (gl K `type) [(lk [(`name,V.bool b),(`value,.str x),(`self,s)] `value)] [] []) [.Is] [(gl K `str)]) O=some (true,O):=by
  simp! only[↓bZ kb.type,h1,IK kb.str,(by funext O;rfl:eA K .Is (.con (.type "str")) (.con (.type "str"))=pure true)]
 show gv (iz (o:=((((`regex,.con (.ref (if b=true then a.pj else a.pn)))::[(`name,V.bool b),(`value,.str x),(`self,s)]),.ret (.str x)),O)) ?_ (bj _ rfl rfl rfl));rw[kh ht];have hp:jZ K (if b=true then a.pj else a.pn)=true:=by
  cases b
  ·show hk.Uy
  ·show hk.Ux
 show(dn (a6:=(`regex,.con (.ref (if b=true then a.pj else a.pn)))::[(`name,V.bool b),(`value,.str x),(`self,s)]) (ag:=O) ?_).trans ?_
 ·induction b<;>simp! only[tw hk.pj,tw hk.pn]
 generalize(if b=true then a.pj else a.pn)=p at*;have hs:(ib (a4 K F (lk ((`regex,.con (.ref p))::[(`name,V.bool b),(`value,.str x),(`self,s)]) `regex) `search [(lk ((`regex,.con (.ref p))::[(`name,V.bool b),(`value,.str x),(`self,s)]) `value)] [] [])) O=some (false,O):=by
  unfold ib;rw[aK,ke (v:= .con (.ref p)) (ag:=O) (by rfl) (UA hp) rfl];simp! only[h2 p hp]
 show(dn (a6:=(`regex,.con (.ref p))::[(`name,V.bool b),(`value,.str x),(`self,s)]) (ag:=O) (gw hs)).trans ?_;rfl
def CX(kb:KB K)(hk:HK K a)(x:Str)(hx:gF x=true)(b:Bool)(s:V):aY K (n+2) (.con (.ref a.v9)) [s,.str x] [(`name,.bool b)] O=some (.str x,O):=by
 show ie ?_;rw[gU hk.Jb];show gb hk.Jb Tg rfl (bT:=[("self",s),("value",.str x),("name",.bool b)]) rfl rfl (UB kb hk x b s rfl λp hp=>Uz hp x hx)
abbrev CY(F:aG)(a:Ad):Prop:=∀(x:Str) (b:Bool) (s:V) (O:Hp),gF x=true->F (.con (.ref a.v9)) [s,.str x] [(`name,.bool b)] O=some (.str x,O)
abbrev qo(F:aG):Prop:=∀(x:Str) (O:Hp),cg x=true->F (.con (.builtin "str.lower")) [.str x] [] O=some (.str (Txt.lower x),O)
def wi:qo (aY K (n+1)):=λx O h=>by
 change(if cg x=true then pure (.str (Txt.lower x))else au:M V) O=_;rw[az h];rfl
def rP(hL:qo F){o:M V}{x:Str}(h1:o O=some (.str x,ag))(hx:cg x=true):a4 K F o "lower" [] [] [] O=some (.str (Txt.lower x),ag):=by
 rw[k0 (id:="str.lower") h1 rfl];show hL x ag hx
def CZ(hk:HK K a)(hC:CY F a)(ht:TabAt ag a.headers t td th L){o e:M V}{x:Str}{b:Bool}(h1:o O=some (.ref t,ag))(h2:e ag=some (.str x,ag))(hx:gF x=true):
  a4 K F o "_convert_string_type" [e] ["name"] [(pure (.bool b))] O=some (.str x,ag):=by
 simp only[Uu h1 (qn hk.conv ht.cY (rO _ `D)) hk.conv.keep,bF,h2];show hC x b (.ref t) ag hx
abbrev iE(low:Str):List Row->Option Str
 |[]=>none
 |r::l=>if Txt.lower r.1=low then some r.2 else iE low l
abbrev tE:Option Str->V
 |some x=> .str x
 |none=> .none
def Jd(kb:KB K)(hk:HK K a)(hC:CY F a)(hL:qo F)(ht:TabAt O a.headers t td th L)(bV:L.length<1000)(rQ:∀r∈L,cg r.1=true)(x:Str)(hx:cg x=true)(rR:gF (Txt.lower x)=true):
  a7 (Iw K F [(`default,.none),(`name,.str x),(`self,.ref t)]) O λq aa=>∃v,dF q.2=some v/\v=tE (iE (Txt.lower x) L)/\aa=O:=by
 show sq (eE (v:= .str (Txt.lower x)) (ag:=O) (CZ hk hC ht (by rfl) (rP hL (by rfl) hx) rR)) (gv ?_);show Uv (L:=L.map gG) (I:=λaV J=>∃M,aV=M.map gG/\(∀r∈M,cg r.1=true)/\iE (Txt.lower x) M=iE (Txt.lower x) L/\J.lookup `name=some (.str (Txt.lower x))/\J.lookup `default=some .none)
  (mI (ag:=O) (by rfl) (nz hk.kX ht.cY (by rfl) rfl)) ht.rows (by rw[bq];show a9 `A `D)
  (sC L rfl rQ rfl (by rfl) (by rfl)) (λv aV J h=>?_) λJ h=>?_
 ·show l8 h λM hM hs hf p1 p2=>?_
  cases M with
  |nil=>cases hM
  |cons r M=>
   show aI (List.cons.inj hM) λbY aF=>?_;subst bY;subst aF;show aA ((`v,.str r.2)::(`k,.str r.1)::J) rfl ?_;have yL:(aQ K (a4 K F (lk ((`v,.str r.2)::(`k,.str r.1)::J) `k) `lower [] [] []) [.Eq] [(lk ((`v,.str r.2)::(`k,.str r.1)::J) `name)]) O=some (Txt.lower r.1==Txt.lower x,O):=by
    simp! only[(rP hL (by rfl) (hs r (.head _)):a4 K F (lk ((`v,.str r.2)::(`k,.str r.1)::J) `k) "lower" [] [] [] O=some (.str (Txt.lower r.1),O)),p1]
   by_cases hc:Txt.lower r.1=Txt.lower x
   ·have hb:(Txt.lower r.1==Txt.lower x)=true:=by rw[hc];simp
    rw[hb]at yL;show gv (iz (o:=(((`v,.str r.2)::(`k,.str r.1)::J,.ret (.str r.2)),O)) ?_ ?_)
    ·show kh yL
    ·change∃v,_
     show bj _ rfl ?_ rfl;have:iE (Txt.lower x) (r::M)=some r.2:=az hc;simp only[<-hf,this];rfl
   ·have hb:=gm hc
    rw[hb]at yL;show gv (iz (o:=(((`v,.str r.2)::(`k,.str r.1)::J,.next),O)) ?_ ?_)
    ·show gw yL
    ·show⟨_,_,rfl,rfl,M,rfl,λr hr=>hs r (.tail _ hr),?_,?_,?_⟩
     ·have:iE (Txt.lower x) (r::M)=iE (Txt.lower x) M:=aN hc
      simp only[<-this,hf]
     ·show p1
     ·show(p2).trans rfl
 ·show l8 h λM hM hs hf p1 p2=>?_
  have:M=[]:=by induction M with|nil=>rfl|cons _ _=>cases hM
  obtain rfl:=Eq.symm this;show c8 _ _ rfl ?_;show sq (o:=((J,.ret .none),O)) (by simp! only[p2]) (bj _ rfl ?_ rfl);rw[<-hf];rfl
def UC(kb:KB K)(hk:HK K a)(ht:TabAt O a.headers t td th L)(bV:L.length<1000)(rQ:∀r∈L,cg r.1=true)(x:Str)(hx:cg x=true)(rR:gF (Txt.lower x)=true):
  aY K (n+3) (.con (.ref a.rE)) [.ref t,.str x] [] O=some (tE (iE (Txt.lower x) L),O):=by
 show ie ?_;rw[gU hk.CW];show gb hk.CW Iy rfl (bT:=[("self",.ref t),("name",.str x),("default",.none)]) rfl rfl (Jd kb hk (λx b s O hx=>CX kb hk x hx b s) wi ht bV rQ x hx rR)
def C0(kb:KB K)(hk:HK K a)(ht:TabAt O a.headers t td th L)(bV:L.length<1000):aY K (n+1) (.con (.ref a.tA)) [.ref t] [] O=some (.lst (L.map λr=> .str r.1),O):=by
 show ie ?_;rw[gU hk.rM];show gb hk.rM Ti rfl (bT:=[("self",.ref t)]) rfl rfl ?_;generalize aY K n=F;have e:=yK (O:=O) (ag:=O) (J:=[(`self,V.ref t)]) (ns:=[]) (L:=L.map gG) (turn:=(bp (eJ [`k,`v]) (λJ=>[]) (bw λJ=>(lk J `k)))) (P:=λ_=>True) (λv=>match v with| .tup [u,_]=>u|v=>v) (mI (K:=K) (name:=`_headers) (o:=lk [(`self,V.ref t)] `self) (ag:=O) (by rfl) (nz hk.kX ht.cY rfl rfl)) ht.rows (by rw[bq];show a9 `A `D) trivial (λv hv J aq _ hl=>by
  show aj (cG hv) λr _ ay=>?_;subst ay;show aA ((`v,.str r.2)::(`k,.str r.1)::J) trivial ?_;have hb:eJ [`k,`v] (.tup [.str r.1,.str r.2]) J=some ((`v,.str r.2)::(`k,.str r.1)::J):=rfl;simp! only[hb,hl,gG])
 show sq (je (iB e)) (bj _ rfl ?_ rfl);show aJ _ List.map_map
def UD(kb:KB K)(hk:HK K a)(ht:TabAt O a.headers t td th L)(bV:L.length<1000):aY K (n+1) (.con (.ref a.wa)) [.ref t] [] O=some (.lst (L.map λr=> .str r.2),O):=by
 show ie ?_;rw[gU hk.Jc];show gb hk.Jc Tn rfl (bT:=[("self",.ref t)]) rfl rfl ?_;generalize aY K n=F;have e:=yK (O:=O) (ag:=O) (J:=[(`self,V.ref t)]) (ns:=[]) (L:=L.map gG) (turn:=(bp (eJ [`k,`v]) (λJ=>[]) (bw λJ=>(lk J `v)))) (P:=λ_=>True) (λv=>match v with| .tup [_,u]=>u|v=>v) (mI (K:=K) (name:=`_headers) (o:=lk [(`self,V.ref t)] `self) (ag:=O) (by rfl) (nz hk.kX ht.cY rfl rfl)) ht.rows (by rw[bq];show a9 `A `D) trivial (λv hv J aq _ hl=>by
  show aj (cG hv) λr _ ay=>?_;subst ay;show aA ((`v,.str r.2)::(`k,.str r.1)::J) trivial ?_;have hb:eJ [`k,`v] (.tup [.str r.1,.str r.2]) J=some ((`v,.str r.2)::(`k,.str r.1)::J):=rfl;simp! only[hb,hl,gG])
 show sq (je (iB e)) (bj _ rfl ?_ rfl);show aJ _ List.map_map
abbrev UE(F:aG)(a:Ad)(t:Nat)(x:Str)(o:Option Str)(O:Hp):Prop:=F (.con (.ref a.rE)) [.ref t,.str x] [] O=some (tE o,O)
abbrev qp(low v:Str)(L:List Row):Str:=(iE low L).getD v
def UG(hk:HK K a)(hC:CY F a)(hA:rK F)(ht:TabAt O a.headers t td th L)(bV:L.length<1000)(x v:Str)(hx:gF x=true)(hv:gF v=true)(hg:UE F a t x (iE (Txt.lower x) L) O):
  a7 (Iz K F [(`value,.str v),(`name,.str x),(`self,.ref t)]) O λq aa=>∃u,dF q.2=some u/\u= .str (qp (Txt.lower x) v L)/\aa=(match iE (Txt.lower x) L with|some _=>O|none=>O.set th (.list ((L++[(x,v)]).map gG))):=by
 show sq (o:=(((`result,tE (iE (Txt.lower x) L))::[(`value,.str v),(`name,.str x),(`self,.ref t)],.next),O)) (eE ?_) ?_
 ·rw[ke (v:= .ref t) (ag:=O) (by rfl) (qn hk.get ht.cY (rO _ `D)) hk.get.keep,bF]
  show hg
 unfold qp;cases hf:iE (Txt.lower x) L with
 |some u=>
  show gv (iz (o:=(((`result,.str u)::[(`value,.str v),(`name,.str x),(`self,.ref t)],.ret (.str u)),O)) ?_ (bj _ rfl rfl rfl));have ht:(aQ K (lk ((`result,.str u)::[(`value,.str v),(`name,.str x),(`self,.ref t)]) `result) [.Is] [(pure .none)]) O=some (false,O):=by
   rfl
  show gw ht
 |none=>
  show gv (iz (o:=(((`result,.none)::[(`value,.str v),(`name,.str x),(`self,.ref t)],.ret (.str v)),O.set th (.list ((L++[(x,v)]).map gG)))) ?_ (bj _ rfl rfl rfl));have UH:(aQ K (lk ((`result,.none)::[(`value,.str v),(`name,.str x),(`self,.ref t)]) `result) [.Is] [(pure .none)]) O=some (true,O):=by
   rfl
  rw[show tE none=V.none from rfl,kh UH];have sS:(lk ((`result,V.none)::[(`value,.str v),(`name,.str x),(`self,.ref t)]) `self) O=some (.ref t,O):=by rfl
  have CT:=wg (K:=K) (J:=((`result,V.none)::[(`value,.str v),(`name,.str x),(`self,.ref t)])) (v:=gG (x,v)) (aH:=O) hA (mI (K:=K) (name:=`_headers) sS (nz hk.kX ht.cY rfl rfl)) ht.rows
   (e:=(dA [(a4 K F (lk ((`result,V.none)::[(`value,.str v),(`name,.str x),(`self,.ref t)]) `self) `_convert_string_type [(lk ((`result,V.none)::[(`value,.str v),(`name,.str x),(`self,.ref t)]) `name)] [`name] [(pure (.bool true))]),(a4 K F (lk ((`result,V.none)::[(`value,.str v),(`name,.str x),(`self,.ref t)]) `self) `_convert_string_type [(lk ((`result,V.none)::[(`value,.str v),(`name,.str x),(`self,.ref t)]) `value)] [`name] [(pure (.bool false))])]))
   (by simp! only[(CZ (K:=K) (F:=F) (b:=true) hk hC ht sS (e:=(lk ((`result,V.none)::[(`value,.str v),(`name,.str x),(`self,.ref t)]) `name)) (x:=x) (by rfl) hx),(CZ (K:=K) (F:=F) (b:=false) hk hC ht sS (e:=(lk ((`result,V.none)::[(`value,.str v),(`name,.str x),(`self,.ref t)]) `value)) (x:=v) (by rfl) hv),gG,List.length_cons,List.length_nil]) ht.rows (by rw[bq];lia)
  show(dn CT).trans ?_;simp only[show List.map gG L++[gG (x,v)]=(L++[(x,v)]).map gG from by simp];rfl
def UI(kb:KB K)(hk:HK K a)(ht:TabAt O a.headers t td th L)(bV:L.length<1000)(rQ:∀r∈L,cg r.1=true)(x v:Str)(hx:gF x=true)(rR:gF (Txt.lower x)=true)(hv:gF v=true):
  aY K (n+4) (.dO (.ref a.qm) (.ref t)) [.str x] [(`value,.str v)] O=some (.str (qp (Txt.lower x) v L),match iE (Txt.lower x) L with|some _=>O|none=>O.set th (.list ((L++[(x,v)]).map gG))):=by
 show ie ?_;rw[Tx];show gb hk.Uw To rfl (bT:=[("self",.ref t),("name",.str x),("value",.str v)]) rfl rfl (UG hk (λx b s O hx=>CX (n:=n+1) kb hk x hx b s) we ht bV x v hx hv (UC kb hk ht bV rQ x (fb hx).1 rR))
def UJ(kb:KB K)(hk:HK K a)(ht:TabAt O a.headers t td th L)(bV:L.length<1000)(rQ:∀r∈L,cg r.1=true)(x:Str)(hx:cg x=true)(rR:gF (Txt.lower x)=true):
  aY K (n+3) (.dO (.ref a.rE) (.ref t)) [.str x] [] O=some (tE (iE (Txt.lower x) L),O):=by
 show ie ?_;show gb hk.CW Iy rfl (bT:=[("self",.ref t),("name",.str x),("default",.none)]) rfl rfl (Jd kb hk (λx b s O hx=>CX kb hk x hx b s) wi ht bV rQ x hx rR)
structure tF(K:W.Frag)(g:Addr)(st:Stmt)(ex:Str):Prop where
 fd:∃fd,fM K g=some fd/\(kY K fd&&fd.defaults== .none)=true/\fd.params=gS st/\fd.body= .stmts (dY st)/\fd.scope=dC st/\(gS st).kwarg.map (·.arg)=some ex
 CF:iI K≠some g
def Je{vs:List V}{aC:List (Str×V)}{st:Stmt}{ex:Str}(h:tF K g st ex):aY K (n+1) (.con (.ref g)) vs aC=jv K (cz K (aY K n)) g vs aC:=by
 show aj h.fd λfd h1 _=>?_;change(if iI K=some g then _ else if(fM K g).isSome=true then jv K (cz K (aY K n)) g vs aC else _)=_;rw[aN h.CF,h1];rfl
def Jf{st:Stmt}{ex:Str}{sh:W.Frag->aG->ab->M (ab×Fl)}{vs:List V}{aC:List (Str×V)}{base:List (Str×V)}{Q:V->Hp->Prop}(h:tF K g st ex)(hs:∀K F,cz K F (dC st) (dY st)=sh K F)(hb:iN {gS st with kwarg:=none} [] vs []=some base)
  (hn:(aC.all λp=>!(((gS st).args.map (·.arg)).contains p.1||((gS st).kwonlyargs.map (·.arg)).contains p.1))=true) (hl:aC.length<=1) (C1:(base.all λp=>cR (dC st) p.1)=true) (UK:cR (dC st) ex=true)
  (hw:a7 (sh K (aY K n) (base++[(ex,V.ref O.length)]).reverse) (O++[.dict aC]) λq aa=>∃v,dF q.2=some v/\Q v aa):a7 (jv K (cz K (aY K n)) g vs aC) O Q:=by
 symm
 show ui h.fd λfd h1 h2 h3 h4 h5 h6=>?_;show aj (eo h6) λkw wc tf=>?_;obtain⟨q,aa,e,v,hv,hQ⟩:=hw;left;show c8 v aa ?_ hQ;unfold jv;simp only[aK,fY,h1];change(if fd.params.kwarg.isSome=true then(if(kY K fd&&fd.defaults== .none)=true then te (cz K (aY K n)) fd vs aC else au)else oo K (cz K (aY K n)) g vs aC) O=_;rw[h3,wc,az (show(some kw).isSome=true from rfl),az h2];unfold te;rw[aK,fY,h4];change(bJ fd.params.kwarg>>=_) O=_;rw[aK,fY,h3,wc];change(bJ (iN {gS st with kwarg:=none} [] vs [])>>=_) O=_;rw[aK,fY,hb];change(if((aC.all λp=>!(((gS st).args.map (·.arg)).contains p.1||((gS st).kwonlyargs.map (·.arg)).contains p.1))&&decide (aC.length<=1)&&((base++[(kw.arg,V.ref O.length)]).all λp=>cR fd.scope p.1))=true then(do
  let q<-cz K (aY K n) fd.scope (dY st) (base++[(kw.arg,V.ref O.length)]).reverse
  bJ (dF q.2))else au) (O++[.dict aC])=_
 rw[h5,tf,az (by simp only[List.all_append,hn,C1,decide_eq_true hl];change(cR (dC st) ex&&true)=true;rw[UK];rfl),hs,aK,e];change bJ (dF q.2) aa=_;show aJ _ hv
abbrev Jg:V->Bool
 | .none=>true
 |_=>false
def UL{f u:V}{aC:List (Str×V)}{d:Nat}{x:Str}(hk:gq K f=true)(hf:Jg f=false)(hs:qI f .none=some false)(hd:O[d]? =some (.dict aC))(hl:aC.length<=1)(hF:F f [.str x] aC O=some (u,aa)):
  a7 (Cz K F [(`extrainfo,.ref d),(`get_name,f),(`name_index,.str x)]) O λq jb=>∃v,dF q.2=some v/\v= .tup [u,u]/\jb=aa:=by
 show gv (iz (o:=(((`argval,u)::[(`extrainfo,.ref d),(`get_name,f),(`name_index,.str x)],.ret (.tup [u,u])),aa)) ?_ (bj _ rfl rfl rfl));have ht:(aQ K (lk [(`extrainfo,.ref d),(`get_name,f),(`name_index,.str x)] `get_name) [.IsNot] [(pure .none)]) O=some (true,O):=by
  have e:eA K .IsNot f .none=pure true:=by
   funext O;change(bJ ((qI f .none).map (!·)):M Bool) O=_;rw[hs];rfl
  simp! only[e]
 rw[kh ht];have UM:Cv K F (lk [(`extrainfo,.ref d),(`get_name,f),(`name_index,.str x)] `get_name) [(lk [(`extrainfo,.ref d),(`get_name,f),(`name_index,.str x)] `name_index)] (lk [(`extrainfo,.ref d),(`get_name,f),(`name_index,.str x)] `extrainfo) O=some (u,aa):=by
  have hw:rp (.ref d) O=some (aC,O):=by
   unfold rp;dsimp only;show(hd)▸(az hl)
  unfold Cv;simp! only[hk,hw,hF]
 show(dn (a6:=(`argval,u)::[(`extrainfo,.ref d),(`get_name,f),(`name_index,.str x)]) (ag:=aa) (eE UM)).trans ?_;rfl
def UN{d:Nat}{x:Str}{dM:V}(hg:mC K "UNKNOWN" dM):
  a7 (Cz K F [(`extrainfo,.ref d),(`get_name,.none),(`name_index,.str x)]) O λq jb=>∃v,dF q.2=some v/\v= .tup [dM,.str ("":Str)]/\jb=O:=by
 show gv (iz (o:=(([(`extrainfo,.ref d),(`get_name,.none),(`name_index,.str x)],.ret (.tup [dM,.str ("":Str)])),O)) ?_ (bj _ rfl rfl rfl));have ht:(aQ K (lk [(`extrainfo,V.ref d),(`get_name,.none),(`name_index,.str x)] `get_name) [.IsNot] [(pure .none)]) O=some (false,O):=by
  rfl
 rw[gw ht];simp! only[ar,tw hg,List.length_cons,List.length_nil]
def UO(h:tF K g (bC 7) "extrainfo"){dM:V}(hg:mC K "UNKNOWN" dM)(x:Str):aY K (n+1) (.con (.ref g)) [.str x,.none] [] O=some (.tup [dM,.str ("":Str)],O++[.dict []]):=by
 show ie ?_;rw[Je h];show Jf h Ie (base:=[("name_index",.str x),("get_name",.none)]) rfl rfl `D rfl rfl (UN hg)
def Jh(h:tF K g (bC 7) "extrainfo"){f u:V}{aC:List (Str×V)}{x:Str}(o7:aC=[]\/∃v,aC=[(`value,v)])(hk:gq K f=true)(hf:Jg f=false)(hs:qI f .none=some false)(hF:aY K n f [.str x] aC (O++[.dict aC])=some (u,aa)):
  aY K (n+1) (.con (.ref g)) [.str x,f] aC O=some (.tup [u,u],aa):=by
 show ie ?_;rw[Je h];show Jf h Ie (base:=[("name_index",.str x),("get_name",f)]) rfl ?_ (by rcases o7 with rfl|⟨v,rfl⟩<;>simp:aC.length<=1) rfl rfl (UL hk hf hs (yx (i:=0)) (by rcases o7 with rfl|⟨v,rfl⟩<;>simp:aC.length<=1) hF);rcases o7 with rfl|⟨v,rfl⟩<;>rfl
abbrev dZ:List Nat:=[173,847,6150,6155,6156,6157,8203,8204,8205,8288,65279]++(List.range 16).map (65024+·)
abbrev eP:List Nat:=[102,105,108,115,116]
abbrev lT:List Nat:=[0,1,2,4,7,8,9,10,11,12]
abbrev nA:List (Nat×List Nat):=[(64256,[102,102]),(64257,[102,105]),(64258,[102,108]),(64259,[102,102,105]),(64260,[102,102,108]),(64261,[115,116]),(64262,[115,116]),(223,[115,115]),(383,[115])]
abbrev rS(l:Nat):List Nat:=[l,l-32]++lT.map λk=>119711+52*k+l
abbrev eg(n:Nat):Nat×List Nat:=if n<9 then nA.getD n (0,[])else((rS (eP.getD ((n-9)%5) 0)).getD ((n-9)/5) 0,[eP.getD ((n-9)%5) 0])
abbrev kF:List Nat:=[34,32,10,9,13,92,160]
abbrev wj:List (Nat×List Nat):=(List.range 69).map eg
abbrev jg(c:Nat):List Nat:=(wj.lookup c).getD [c]
abbrev qq(c:Nat):Bool:=eP.contains c||eP.contains (c+32)
abbrev wk(c:Nat):V:=if qq c=true\/kF.contains c=true then .none else .str (T (jg c))
abbrev lg(c:Nat):Bool:=kF.contains c||(wj.map (·.1)).contains c
abbrev mJ(c:Nat):Bool:=lg c||dZ.contains c
structure tG(K:W.Frag)(a:Ad):Prop where
 b1:mC K "b1_set" (.con (.ref a.b1))
 b3:mC K "b3_exceptions" (.con (.ref a.b3))
 rD:∀c,mJ c=true->∀O,yb K (c:Int) a.b1 O=some (dZ.contains c,O)
 UP:∀c,lg c=true->∀O,tc K "dict.get" [.con (.ref a.b3),.int (c:Int)] O=some (wk c,O)
 dO:∀O,gR K (.con (.ref a.b3)) "get" O=some ((.con (.builtin "dict.get"),[.con (.ref a.b3)]),O)
 Ji:c7 K "in_table_b1" (.con (.ref a.rD))
 fin:dH K a.rD (bC 13) []
 UQ:c7 K "map_table_b3" (.con (.ref a.v5))
 Jj:dH K a.v5 (bC 15) []
def UR:∀c∈kF++eP++eP.map (·-32),Txt.lower (T [c])=T (jg c):=by decide+kernel
def US{c:Nat}(h:lg c=true)(hn:qq c=true\/kF.contains c=true):Txt.lower (T [c])=T (jg c):=by
 show UR c ?_;rcases hn with hn|hn
 ·unfold qq at hn
  rcases Bool.or_eq_true_iff.mp hn with hn|hn
  ·have:=List.contains_iff_mem.mp hn
   simp[this]
  ·have:=List.contains_iff_mem.mp hn
   show List.mem_append_right _ (List.mem_map.mpr (aA (c+32) this rfl))
 ·have:=List.contains_iff_mem.mp hn
  simp[this]
def wm(c:Nat):aY K (n+1) (.con (.builtin "ord")) [.str (T [c])] [] O=some (.int (c:Int),O):=by
 rfl
abbrev pA(F:aG):Prop:=∀(c:Nat) (O:Hp),F (.con (.builtin "ord")) [.str (T [c])] [] O=some (.int (c:Int),O)
def UT(kb:KB K)(hp:tG K a)(c:Nat)(hc:mJ c=true):aY K (n+2) (.con (.ref a.rD)) [.str (T [c])] [] O=some (.bool (dZ.contains c),O):=by
 show ie ?_;rw[gU hp.fin];show gb hp.fin SR rfl (bT:=[("code",.str (T [c]))]) rfl rfl ?_;have ho:pA (aY K (n+1)):=λc O=>wm c;have hi:∀O,eA K .In (.int (c:Int)) (.con (.ref a.b1)) O=some (dZ.contains c,O):=hp.rD c hc;generalize aY K (n+1)=F at ho|-;generalize dZ.contains c=b at*;change a7 (Ih K F [(`code,.str (T [c]))]) O _;unfold pA at ho;show sq (o:=(([(`code,V.str (T [c]))],.ret (.bool b)),O)) (by simp! only[↓bZ kb.ord,tw hp.b1,ho,hi]) (bj _ rfl rfl rfl)
def UU(kb:KB K)(hp:tG K a)(c:Nat)(hc:lg c=true):aY K (n+2) (.con (.ref a.v5)) [.str (T [c])] [] O=some (.str (T (jg c)),O):=by
 show ie ?_;rw[gU hp.Jj];show gb hp.Jj SS rfl (bT:=[("code",.str (T [c]))]) rfl rfl ?_;have ho:pA (aY K (n+1)):=λc O=>wm c;have hL:qo (aY K (n+1)):=wi;have hg:aY K (n+1) (.con (.builtin "dict.get")) [.con (.ref a.b3),.int (c:Int)] [] O=some (wk c,O):=hp.UP c hc O;generalize aY K (n+1)=F at ho hL hg|-;change a7 (Ii K F [(`code,.str (T [c]))]) O _;unfold pA at ho;show sq (o:=(((`r,wk c)::[(`code,.str (T [c]))],.next),O)) (eE ?_) ?_
 ·rw[ke (tw hp.b3 _) (hp.dO _) rfl]
  simp! only[↓bZ kb.ord,ho,hg]
 change a7 _ _ _;unfold wk;by_cases hn:qq c=true\/kF.contains c=true
 ·rw[az hn]
  have ht:(aQ K (lk ((`r,V.none)::[(`code,.str (T [c]))]) `r) [.IsNot] [(pure .none)]) O=some (false,O):=by
   rfl
  show gv (iz (o:=(((`r,V.none)::[(`code,.str (T [c]))],.next),O)) rfl ?_);show sq (je (rP hL (x:=T [c]) (ag:=O) (by rfl) rfl)) (bj _ rfl ?_ rfl);show aJ _ (US hc hn)
 ·rw[aN hn]
  generalize jg c=m;have ht:(aQ K (lk ((`r,V.str (T m))::[(`code,.str (T [c]))]) `r) [.IsNot] [(pure .none)]) O=some (true,O):=by
   rfl
  show gv (iz (o:=(((`r,V.str (T m))::[(`code,.str (T [c]))],.ret (.str (T m))),O)) rfl (bj _ rfl rfl rfl))
abbrev iQ(l:List Nat):List Nat:=l.filter λc=>!dZ.contains c
abbrev oA(l:List Nat):List Nat:=(iQ l).flatMap jg
abbrev lh:V->Nat
 | .str x=>x.cps.getD 0 0
 |_=>0
def yM(c:Nat):lh (.str (T [c]))=c:=rfl
def Jk{c:Nat}(h:mJ c=true)(hn:dZ.contains c=false):lg c=true:=by
 unfold mJ at h;rw[hn,Bool.or_false]at h;show h
def lookup_mem{β:Type}{c:Nat}{m:β}:∀{l:List (Nat×β)},l.lookup c=some m->(c,m)∈l
 |[],h=>by cases h
 |(d,u)::r,h=>by
  simp only[di]at h;split at h
  ·rename_i hc
   cases h;rw[dN hc];show .head _
  ·show .tail _ (lookup_mem h)
def UW(c:Nat)(h:lg c=true):(jg c).length<=3:=by
 unfold jg;cases hl:wj.lookup c with
 |none=>simp
 |some m=>
  have:∀p∈wj,p.2.length<=3:=by decide+kernel
  show this (c,m) (lookup_mem hl)
def yN(l:List Nat):(l.map λc=>[c]).flatten=l:=by
 induction l with
 |nil=>rfl
 |cons a r ih=>simp[ih]
def nB{m1 m2:M V}{u v:V}{aH:Hp}(h1:m1 O=some (u,ag))(h2:m2 ag=some (v,aH)):dA [m1,m2] O=some (.tup [u,v],aH):=by
 unfold dA;simp only[aK,bF,h1];change(((dR [m2] ag).bind λq=>some (u::q.1,q.2)).bind λp=>Ck p.1 p.2)=_;simp only[bF,h2];rfl
abbrev JoinOk(F:aG):Prop:=∀(l:List (List Nat)) (O:Hp),l.flatten.length<=1000000->F (.con (.builtin "str.join")) [.str ("":Str),.lst (l.map λx=>V.str (T x))] [] O=some (.str (T l.flatten),O)
def UX(b:Bool):eA K .IsNot (.bool b) (.bool true)=pure (!b):=by funext O;induction b<;>rfl
def UY(b:Bool):eA K .Is (.bool b) (.bool false)=pure (!b):=by funext O;induction b<;>rfl
def UZ(hp:tG K a)(l:List Nat)(hl:∀c∈l,mJ c=true)(bV:l.length<=10000)(h1:∀c,mJ c=true->∀O,F (.con (.ref a.rD)) [.str (T [c])] [] O=some (.bool (dZ.contains c),O))
  (h2:∀c,lg c=true->∀O,F (.con (.ref a.v5)) [.str (T [c])] [] O=some (.str (T (jg c)),O)) (hJ:JoinOk F):
  a7 (Ij K F [(`text,.str (T l))]) O λq aa=>∃v,dF q.2=some v/\v= .tup [.str (T (iQ l)),.str (T (oA l))]/\aa=O:=by
 have eV:∀O,ey (.str (T l)) O=some (.items (l.map λc=>V.str (T [c])),O):=λO=>by
  show rfl
 have o4:(iQ l).length<=10000:=a9 (List.length_filter_le _ _) bV;show sq (o:=(((`shown,.str (T (iQ l)))::[(`text,.str (T l))],.next),O)) (eE ?_) ?_
 ·rw[k0 (x:="") (id:="str.join") rfl rfl,bF]
  rw[iB (kE (ag:=O) (xs:= .str (T l)) (l:=l.map λc=>V.str (T [c])) (P:=λ_=>True) (λv=>!dZ.contains (lh v)) id (by rfl) (eV O) trivial (by rw[bq];lia) λv hv J _=>?_)]
  ·rw[(nu _ (λc=>!dZ.contains c) _ (λc=>rfl) l),List.map_id]
   have:=hJ ((iQ l).map λc=>[c]) O (by rw[yN];show a9 `A `D);rw[yN,List.map_map]at this;show this
  ·show aj (cG hv) λc hc ay=>?_;subst ay
   show dw ((`sign,.str (T [c]))::J) rfl trivial ?_ (λ_=>by rfl);have e1:=h1 c (hl c hc) O;simp only[yM];generalize dZ.contains c=b at*;cases b<;>simp! only[↓bZ hp.Ji,e1,UX]
 show sq (je (v:= .tup [.str (T (iQ l)),.str (T (oA l))]) (ag:=O) ?_) (bj _ rfl rfl rfl);have e:∀O J,J.lookup `text=some (.str (T l))->(a4 K F (pure (.str ("":Str))) `join [(cU [] (lk J `text) (bp (bf `sign) (λJ=>[(aQ K (aL K F (gl K `in_table_b1) [(lk J `sign)] [] []) [.Is] [(pure (.bool false))])]) (bw λJ=>(aL K F (gl K `map_table_b3) [(lk J `sign)] [] []))) J)] [] []) O=some (.str (T (oA l)),O):=by
  intro O J tH;rw[k0 (x:="") (id:="str.join") rfl rfl,bF];rw[iB (kE (ag:=O) (xs:= .str (T l)) (l:=l.map λc=>V.str (T [c])) (P:=λ_=>True) (λv=>!dZ.contains (lh v)) (λv=> .str (T (jg (lh v)))) (ic tH) (eV O) trivial (by rw[bq];lia) λv hv J _=>?_)]
  ·rw[(nu _ (λc=>!dZ.contains c) _ (λc=>rfl) l),List.map_map]
   have hle:((iQ l).map jg).flatten.length<=1000000:=by
    have hs:∀c∈iQ l,lg c=true:=λc hc=>by
     symm
     show aI (List.mem_filter.mp hc) λq1 q2=>?_;left;show Jk (hl c q1) (by simpa using q2)
    have key:∀m:List Nat,(∀c∈m,lg c=true)->(m.map jg).flatten.length<=3*m.length:=by
     intro m;induction m with
     |nil=>intro _;decide
     |cons b r ih=>
      intro hm;have e1:=UW b (hm b (.head _));have e2:=ih λc hc=>hm c (.tail _ hc);simp only[List.map_cons,List.flatten_cons,List.length_append,List.length_cons];lia
    have:=key _ hs;lia
   have:=hJ ((iQ l).map jg) O hle;rw[List.map_map]at this;show this
  ·show aj (cG hv) λc hc ay=>?_;subst ay
   have e1:=h1 c (hl c hc) O;show dw ((`sign,.str (T [c]))::J) rfl trivial ?_ (λhb=>?_)
   ·simp only[yM]
    generalize dZ.contains c=b at*;cases b<;>simp! only[↓bZ hp.Ji,e1,UY]
   ·simp only[yM]at hb|-
    have e2:=h2 c (Jk (hl c hc) (by simpa using hb)) O;simp! only[↓bZ hp.UQ,e2]
 show nB (by rfl) (e O ((`shown,.str (T (iQ l)))::[(`text,.str (T l))]) rfl)
def U0(kb:KB K)(hp:tG K a)(h:dH K a.ql (bC 22) [])(l:List Nat)(hl:∀c∈l,mJ c=true)(bV:l.length<=10000):aY K (n+3) (.con (.ref a.ql)) [.str (T l)] [] O=some (.tup [.str (T (iQ l)),.str (T (oA l))],O):=by
 show ie ?_;rw[gU h];show gb h SU rfl (bT:=[("text",.str (T l))]) rfl rfl (UZ hp l hl bV (λc hc O=>UT kb hp c hc) (λc hc O=>UU kb hp c hc) λl O h=>yE h)
abbrev ft(n:Nat):V:= .tup [.str (T [(eg n).1]),.str (T (eg n).2)]
def ig{x i:M V}{u w r:V}(h1:x O=some (u,O))(h2:i O=some (w,O))(h3:jM u w O=some (r,O)):bl x i O=some (r,O):=by
 unfold bl;simp only[aK,h1];change(i>>=λb=>jM u b) O=_;simp only[aK,h2];show h3
def tI{l:List V}{i:Nat}{u:V}(hl:l.length<=1000000)(h:l[i]? =some u):jM (.lst l) (.int (i:Int)) O=some (u,O):=by
 change lF l i O=_;unfold lF;rw[az ⟨by simp,hl⟩,fY,Int.toNat_natCast,h];rfl
def item_tup{l:List V}{i:Nat}{u:V}(hl:l.length<=1000000)(h:l[i]? =some u):jM (.tup l) (.int (i:Int)) O=some (u,O):=by
 change lF l i O=_;unfold lF;rw[az ⟨by simp,hl⟩,fY,Int.toNat_natCast,h];rfl
def U1:∀i,i<9->∀O,jM (.str ("ﬀﬁﬂﬃﬄﬅﬆßſ":Str)) (.int ((i:Nat):Int)) O=some (.str (T [(nA.getD i (0,[])).1]),O)
 |0,_,_|1,_,_|2,_,_|3,_,_|4,_,_|5,_,_|6,_,_|7,_,_|8,_,_=>rfl
 |n+9,h,_=>absurd h `S
def Jl:∀i,i<5->∀O,jM (.str `filst) (.int ((i:Nat):Int)) O=some (.str (T [eP.getD i 0]),O)
 |0,_,_|1,_,_|2,_,_|3,_,_|4,_,_=>rfl
 |n+5,h,_=>absurd h `S
abbrev wo:List V:=nA.map λp=> .str (T p.2)
def abT:(Txt.split ("ff fi fl ffi ffl st st ss s":Str) (" ":Str)).map V.str=wo:=by
 have:Txt.split ("ff fi fl ffi ffl st st ss s":Str) (" ":Str)=nA.map λp=>T p.2:=by decide+kernel
 show aJ _ this
def U2:aY K (n+1) (.con (.builtin "str.split")) [.str ("ff fi fl ffi ffl st st ss s":Str),.str (" ":Str)] [] O=some (.lst wo,O):=by
 change(if((" ":Str).length==0)=false/\cg ("ff fi fl ffi ffl st st ss s":Str)=true/\(Txt.split ("ff fi fl ffi ffl st st ss s":Str) (" ":Str)).length<=1000000 then pure (.lst ((Txt.split ("ff fi fl ffi ffl st st ss s":Str) (" ":Str)).map .str))else au:M V) O=_;show(by kernel_rfl)
def U3:∀i,i<5->Txt.upper (T [eP.getD i 0])=T [eP.getD i 0-32]:=by decide+kernel
def Jm(x:Str)(h:cg x=true):aY K (n+1) (.con (.builtin "str.upper")) [.str x] [] O=some (.str (Txt.upper x),O):=by
 change(if cg x=true then pure (.str (Txt.upper x))else au:M V) O=_;rw[az h];rfl
abbrev Jn(F:aG):Prop:=∀(x:Str) (O:Hp),cg x=true->F (.con (.builtin "str.upper")) [.str x] [] O=some (.str (Txt.upper x),O)
abbrev yO(F:aG):Prop:=∀(d:Nat) (O:Hp),d<1114112->F (.con (.builtin "chr")) [.int (d:Int)] [] O=some (.str (T [d]),O)
def U4(kb:KB K)(hC:yO F)(hO:pA F)(l k:Nat)(hl:l<1000)(hk:k<13)(tH:J.lookup `letter=some (.str (T [l]))){aq:List V}(ha:aq.length<1000000):
  bp (bf `k) (λJ=>[]) (bw λJ=>(aL K F (gl K `chr) [(av .Add (av .Add (pure (.int 119711)) (av .Mult (pure (.int 52)) (lk J `k))) (aL K F (gl K `ord) [(lk J `letter)] [] []))] [] [])) (iV k) (J,aq) O=some (((`k,iV k)::J,aq++[.str (T [119711+52*k+l])]),O):=by
 have e1:=hC (119711+52*k+l) O `L;have e3:(119711:Int)+52*(k:Int)+(l:Int)=((119711+52*k+l:Nat):Int):=rfl;generalize 119711+52*k+l=c at*;simp! only[tH,↓bZ kb.chr,↓bZ kb.ord,(hO l),e3,e1,ha,Int.natAbs_natCast,(by show Nat.lt_of_lt_of_le `A `D:k<2147483648)]
def U5(kb:KB K)(hC:yO F)(hO:pA F)(hU:Jn F)(hS:∀O,F (.con (.builtin "str.split")) [.str ("ff fi fl ffi ffl st st ss s":Str),.str (" ":Str)] [] O=some (.lst wo,O))(m:Nat)(hm:m<69):
  a7 (Ik K F [(`n,iV m)]) O λq aa=>∃v,dF q.2=some v/\v=ft m/\aa=O:=by
 by_cases h9:m<9
 ·have ht:(aQ K (lk [(`n,iV m)] `n) [.Lt] [(pure (.int 9))]) O=some (true,O):=by
   have:(m:Int)<9:=Int.ofNat_lt.mpr h9;simp! only[this]
  show gv (iz (o:=(([(`n,iV m)],.ret (ft m)),O)) ?_ (bj _ rfl rfl rfl));rw[kh ht];have e2:bl (a4 K F (pure (.str ("ff fi fl ffi ffl st st ss s":Str))) `split [(pure (.str (" ":Str)))] [] []) (lk [(`n,iV m)] `n) O=some (.str (T (nA.getD m (0,[])).2),O):=by
   show ig (u:= .lst wo) (w:=iV m) ?_ (by rfl) (tI `D ?_)
   ·rw[k0 (x:=("ff fi fl ffi ffl st st ss s":Str)) (id:="str.split") rfl rfl]
    simp! only[hS]
   ·unfold wo
    rw[List.getElem?_map];have:nA[m]? =some (nA.getD m (0,[])):=by
     rw[List.getD_eq_getElem?_getD];have:m<nA.length:=h9;rw[eH this];rfl
    show aJ _ this
  rw[(by delta ft eg;rw[az h9]:ft m= .tup [.str (T [(nA.getD m (0,[])).1]),.str (T (nA.getD m (0,[])).2)])];show(show _ from by
   have:=je (J:=[(`n,iV m)]) (nB (ig rfl rfl (U1 m h9 O):bl (pure (.str ("ﬀﬁﬂﬃﬄﬅﬆßſ":Str))) (lk [(`n,iV m)] `n) O=some (.str (T [(nA.getD m (0,[])).1]),O)) e2);unfold ar;rw[aK,this];rfl)
 ·have ht:(aQ K (lk [(`n,iV m)] `n) [.Lt] [(pure (.int 9))]) O=some (false,O):=by
   have:¬(m:Int)<9:=λh=>h9 (Int.ofNat_lt.mp h);simp! only[this]
  show gv (iz (o:=(([(`n,iV m)],.next),O)) (gw ht) ?_);have hr:(m-9)%5<5:=Nat.mod_lt _ `D;have hq:(m-9)/5<12:=Nat.div_lt_of_lt_mul (gM (Nat.sub_le_sub_right (Nat.le_of_lt_succ hm) 9) `D);have e9:(m:Int)-9=((m-9:Nat):Int):=(Int.ofNat_sub (Nat.le_of_not_lt h9)).symm;have sv:ft m= .tup [.str (T [(rS (eP.getD ((m-9)%5) 0)).getD ((m-9)/5) 0]),.str (T [eP.getD ((m-9)%5) 0])]:=by delta ft eg;rw[aN h9]
  simp only[sv];have f1:((m-9:Nat):Int).fmod 5=(((m-9)%5:Nat):Int):=lb _ 5;have f2:((m-9:Nat):Int).fdiv 5=(((m-9)/5:Nat):Int):=ox _ 5;have ei:=Jl ((m-9)%5) hr;have U6:eP.getD ((m-9)%5) 0<1000:=by
   have:∀r,r<5->eP.getD r 0<1000:=by decide
   show this _ hr
  have U7:=U3 ((m-9)%5) hr;clear sv;generalize(m-9)%5=r at*;generalize(m-9)/5=q at*;clear ht;generalize eP.getD r 0=l at*;generalize hw:m-9=w at*;show sq (o:=(((`letter,.str (T [l]))::[(`n,iV m)],.next),O)) (eE (ig (w:= .int (r:Int)) rfl ?_ (ei O))) ?_
  ·simp! only[e9,f1]
  show sq (mE (lP (ag:=O) (xs:= .lst (lT.map iV)) (l:=lT.map iV) (P:=λJ=>J.lookup `letter=some (.str (T [l]))) (λv=>[V.str (T [119711+52*cJ v+l])]) rfl rfl rfl (by rw[(by rfl:(lT.map iV).flatMap (λv=>[V.str (T [119711+52*cJ v+l])])=lT.map λk=>V.str (T [119711+52*k+l])),bq];decide) λv hv J aq hp ha=>?_)) ?_
  ·show aj (cG hv) λk hk ay=>?_;subst ay
   have U8:k<13:=by
    have:∀k∈lT,k<13:=by decide
    show this k hk
   show aA _ (by simp(decide:=true) only[bM,if_false,hp]) (U4 kb hC hO l k U6 U8 hp (by simp at ha;show gM `A `D))
  rw[(by rfl:(lT.map iV).flatMap (λv=>[V.str (T [119711+52*cJ v+l])])=lT.map λk=>V.str (T [119711+52*k+l]))];show sq (je (nB (ag:=O) (aH:=O) (ig (u:= .lst ((rS l).map λc=>V.str (T [c]))) (w:= .int (q:Int)) ?_ ?_ (tI ?_ ?_)) (by rfl))) (bj _ rfl rfl rfl)
  ·have hu:=hU (T [l]) O rfl
   rw[U7]at hu;have Jo:(a4 K F (lk ((`great,.lst (lT.map λk=>V.str (T [119711+52*k+l])))::(`letter,.str (T [l]))::[(`n,iV m)]) `letter) `upper [] [] []) O=some (.str (T [l-32]),O):=by
    rw[k0 (x:=T [l]) (id:="str.upper") (ag:=O) (by rfl) rfl];show hu
   have bV:(lT.map λk=>V.str (T [119711+52*k+l])).length<=1000000:=by rw[bq];decide
   have AE:(rS l).map (λc=>V.str (T [c]))=[V.str (T [l]),V.str (T [l-32])]++lT.map λk=>V.str (T [119711+52*k+l]):=by
    rfl
   simp only[AE];generalize(lT.map λk=>V.str (T [119711+52*k+l]))=gg at*;unfold iV at Jo;simp! only[Jo,bV,List.length_cons,List.length_nil]
  ·simp! only[e9,f2]
  ·show(by decide:12<=1000000)
  ·rw[List.getElem?_map]
   have:(rS l)[q]? =some ((rS l).getD q 0):=by
    rw[List.getD_eq_getElem?_getD];have:q<(rS l).length:=hq;rw[eH this];rfl
   show aJ _ this
def U9(kb:KB K)(h:dH K a.sign (bC 23) [])(m:Nat)(hm:m<69):aY K (n+2) (.con (.ref a.sign)) [iV m] [] O=some (ft m,O):=by
 show ie ?_;rw[gU h];show gb h SV rfl (bT:=[("n",iV m)]) rfl rfl (U5 kb (λd O hd=>CI d hd) (λc O=>wm c) (λx O h=>Jm x h) (λO=>U2) m hm)
abbrev gy:Nat->List Nat
 |2=>[34,92]
 |3=>[32,10,9,13,92]
 |_=>[]
abbrev ej(aR:Nat)(l:List Nat):List Nat:=l.flatMap λc=>if aR<2\/(gy aR).contains c=true then [92,c]else [c]
abbrev oB(l:List Nat)(aR w:Nat):List Nat:=match aR with
 |0=>[w]++ej 0 l++[w]
 |1=>[34]++ej 1 l++[34]
 |2=>[w]++[34]++ej 2 l++[34]
 |_=>[w]++ej 3 l++[w]
def C2(l:List Nat)(c:Nat):Txt.contains (T l) (T [c])=l.contains c:=by
 have:=StrLaws.found_one (T l) c;change(!(Builtin.Str.occurrences (T l) ⟨#[c]⟩ 0 (T l).length 1).isEmpty)=_;rw[this,show(T l).cps.toList=l from by unfold T;simp];simp
def wq(aR:Nat)(l:List Nat):(ej aR l).length<=2*l.length:=by
 unfold ej;induction l with
 |nil=>simp
 |cons a r ih=>
  simp only[List.flatMap_cons,List.length_append,List.length_cons];show a9 (Nat.add_le_add (by split<;>simp:(if aR<2\/(gy aR).contains a=true then [92,a]else [a]).length<=2) ih) (Nat.le_of_eq (Nat.add_comm _ _))
def Va:∀aR,aR<4->jM (.lst [.str ("":Str),.str ("":Str),.str ("\"\\":Str),.str (" \n\t\r\\":Str)]) (.int ((aR:Nat):Int)) O=some (.str (T (gy aR)),O)
 |0,_|1,_|2,_|3,_=>rfl
 |n+4,h=>absurd h `S
def Vb(aR c:Nat)(h1:J.lookup `kept=some (.str (T (gy aR))))(h2:J.lookup `way=some (iV aR))(h3:J.lookup `sign=some (.str (T [c]))):
  (eN (eu .Or [(aQ K (lk J `way) [.Lt] [(pure (.int 2))]),(aQ K (lk J `sign) [.In] [(lk J `kept)])]) (av .Add (pure (.str ("\\":Str))) (lk J `sign)) (lk J `sign)) O=some (.str (T (if aR<2\/(gy aR).contains c=true then [92,c]else [c])),O):=by
 have hb:(("\\":Str)++T [c])=T [92,c]:=by rfl
 have hs:cg ("\\":Str)=true:=rfl;have tJ:cg (T [c])=true:=rfl;by_cases hw:aR<2
 ·have:(aR:Int)<2:=by lia
  simp! only[h1,h2,h3,this,hs,tJ,hb,hw,true_or]
 ·have hc:=C2 (gy aR) c
  by_cases hk:(gy aR).contains c=true
  ·simp only[hk]at hc
   simp! only[h1,h2,h3,(by lia:¬(aR:Int)<2),hs,tJ,hb,hw,hc,hk,or_true]
  ·simp! only[h1,h2,h3,(by lia:¬(aR:Int)<2),hs,tJ,hb,hw,hc,(by simpa using hk:(gy aR).contains c=false),or_false,false_or]
def Vc(l:List Nat)(aR w:Nat)(hw:aR<4)(hl:l.length<=1000)(hJ:JoinOk F):
  a7 (Il K F [(`white,.str (T [w])),(`way,iV aR),(`word,.str (T l))]) O λq aa=>∃v,dF q.2=some v/\v= .str (T (oB l aR w))/\aa=O:=by
 show sq (o:=(((`kept,.str (T (gy aR)))::[(`white,.str (T [w])),(`way,iV aR),(`word,.str (T l))],.next),O)) (eE (ig (u:= .lst [.str ("":Str),.str ("":Str),.str ("\"\\":Str),.str (" \n\t\r\\":Str)]) (w:=iV aR) rfl (by rfl) (Va aR hw))) ?_;have o4:=wq aR l;show sq (o:=(((`slashed,.str (T (ej aR l)))::(`kept,.str (T (gy aR)))::[(`white,.str (T [w])),(`way,iV aR),(`word,.str (T l))],.next),O)) (eE ?_) ?_
 ·rw[k0 (x:="") (id:="str.join") rfl rfl,bF]
  rw[iB (lP (ag:=O) (xs:= .str (T l)) (l:=l.map λc=>V.str (T [c])) (P:=λJ=>J.lookup `kept=some (.str (T (gy aR)))/\J.lookup `way=some (iV aR)) (λv=>[V.str (T (if aR<2\/(gy aR).contains (lh v)=true then [92,lh v]else [lh v]))]) (by rfl) (by change some (It.items (kO (T l)),O)=_;show rfl) ⟨iP (by rfl) `D,iP (by rfl) `D⟩ (a9 (wb λk=>by simp) (by rw[bq];show a9 `A `D)) λv hv J aq hp ha=>?_)]
  ·have hm:((l.map λc=>V.str (T [c])).flatMap λv=>[V.str (T (if aR<2\/(gy aR).contains (lh v)=true then [92,lh v]else [lh v]))])=(l.map λc=>if aR<2\/(gy aR).contains c=true then [92,c]else [c]).map λx=>V.str (T x):=by
    clear o4 hl;induction l with
    |nil=>rfl
    |cons b r ih=>show aJ _ ih
   rw[hm];have:=hJ (l.map λc=>if aR<2\/(gy aR).contains c=true then [92,c]else [c]) O (by change(ej aR l).length<=_;lia);show this
  ·show aj (cG hv) λc hc ay=>?_;subst ay
   show aA ((`sign,.str (T [c]))::J) ⟨by simp(decide:=true) only[bM,if_false,hp.1],by simp(decide:=true) only[bM,if_false,hp.2]⟩ ?_;rw[yM];delta bp bw bf;rw[aK];change((some (((`sign,V.str (T [c]))::J),O)).bind _)=_;simp only[Option.bind_some,vY,aK,mA,if_true,(Vb (K:=K) (O:=O) (J:=(`sign,.str (T [c]))::J) aR c (by simp(decide:=true) only[bM,if_false,hp.1]) (by simp(decide:=true) only[bM,if_false,hp.2]) (by rfl)),(by simp at ha;show gM `A `D:aq.length<1000000),vX]
 show sq (o:=(((`slashed,.str (T (ej aR l)))::(`kept,.str (T (gy aR)))::[(`white,.str (T [w])),(`way,iV aR),(`word,.str (T l))],.ret (.str (T (oB l aR w)))),O)) (je (ig (u:= .lst [.str (T ([w]++ej aR l++[w])),.str (T ([34]++ej aR l++[34])),.str (T ([w]++[34]++ej aR l++[34])),.str (T ([w]++ej aR l++[w]))]) (w:=iV aR) ?_ (by rfl) ?_)) (bj _ rfl rfl rfl)
 ·have hs:(ej aR l).length<=2000:=by lia
  generalize ej aR l=s at*;rw[show("\"":Str)=T [34]from rfl];simp! only[(by simp:cg (T [w])=true),(by simp;show a9 `A `D:cg (T s)=true),(by simp;lia:cg (T (w::s))=true),(by simp;lia:cg (T (34::s))=true),(by simp;show a9 `A `D:cg (T (w::34::s))=true),(by simp:cg (T [w,34])=true),(by simp:cg (T [34])=true),rC,List.length_cons,List.length_nil,List.append_assoc]
 ·rcases aR with _|_|_|_|aR
  ·rfl
  ·rfl
  ·rfl
  ·rfl
  ·lia
def Vd(h:dH K a.written (bC 24) [])(l:List Nat)(aR w:Nat)(hw:aR<4)(hl:l.length<=1000):aY K (n+2) (.con (.ref a.written)) [.str (T l),iV aR,.str (T [w])] [] O=some (.str (T (oB l aR w)),O):=by
 show ie ?_;rw[gU h];show gb h SW rfl (bT:=[("word",.str (T l)),("way",iV aR),("white",.str (T [w]))]) rfl rfl (Vc l aR w hw hl λl O h=>yE h)
abbrev nC(n:Nat):List (List Nat):=[[n%69,n/4761%138],[n/69%69]]
abbrev lj(ns:List Nat):List (List Nat):=ns.flatMap nC
abbrev rT(ns:List Nat)(k:Nat):List Nat:=(lj ns++lj ns).getD k []
abbrev gz(ns:List Nat)(k:Nat):List Nat:=(rT ns k).filter (·<69)
abbrev iR(ae k:Nat):Nat:=kF.getD ((ae/20+k)%7) 0
abbrev gH(ns:List Nat)(ae k:Nat):List Nat:=(gz ns k).flatMap λc=>[(eg c).1,iR ae k]
abbrev lU(ns:List Nat)(ae k:Nat):List Nat:=(gz ns k).flatMap λc=>(eg c).2++[iR ae k]
abbrev fH(ae k:Nat):List Nat:=(dZ.drop ((ae/20+9*k)%54)).take 1
abbrev eG(ns:List Nat)(ae k:Nat):List Nat:=if k%2=0 then fH ae k++gH ns ae k else gH ns ae k++fH ae k
abbrev yP:List Nat:=[10,9,13,32]
abbrev qr(ae k:Nat):Nat:=yP.getD ((ae+k)%4) 0
abbrev nD(ae k:Nat):Nat:=ae/560/4^k%4
abbrev gV(ns:List Nat)(ae k:Nat):List Nat:=oB (eG ns ae k) (nD ae k) (qr ae k)
abbrev kG(ns:List Nat)(ae k:Nat):List Nat:=(List.range k).flatMap (gV ns ae)
abbrev fU(ae:Nat):List Nat:=(List.range 5).map λk=>2^((ae+(1+ae/5%4)*k)%5)
abbrev bE(l:List Nat):V:= .str (T l)
abbrev gW(ns:List Nat)(ae k:Nat):V:= .tup [bE (gH ns ae k),bE (lU ns ae k)]
abbrev gX(ns:List Nat)(ae k:Nat):V:=bE (eG ns ae k)
abbrev wu(ns:List Nat):V:= .lst ((lj ns).map bh)
variable{ns:List Nat}{ae k:Nat}
def Ve:∀i,i<7->jM (.str ("\" \n\t\r\\\u00a0":Str)) (.int ((i:Nat):Int)) O=some (.str (T [kF.getD i 0]),O)
 |0,_|1,_|2,_|3,_|4,_|5,_|6,_=>rfl
 |n+7,h=>absurd h `S
def Vf:∀i,i<4->jM (.str ("\n\t\r ":Str)) (.int ((i:Nat):Int)) O=some (.str (T [yP.getD i 0]),O)
 |0,_|1,_|2,_|3,_=>rfl
 |n+4,h=>absurd h `S
def Vg(h1:J.lookup `last=some (iV ae))(h2:J.lookup `k=some (iV k)):
  bl (pure (.str ("\" \n\t\r\\\u00a0":Str))) (av .Mod (av .Add (av .FloorDiv (lk J `last) (pure (.int 20))) (lk J `k)) (pure (.int 7))) O=some (.str (T [iR ae k]),O):=by
 have f1:(ae:Int).fdiv 20=((ae/20:Nat):Int):=ox _ 20;have f2:((ae/20:Nat):Int)+(k:Int)=((ae/20+k:Nat):Int):=rfl;have f3:((ae/20+k:Nat):Int).fmod 7=(((ae/20+k)%7:Nat):Int):=lb _ 7;show ig (w:= .int (((ae/20+k)%7:Nat):Int)) rfl ?_ (Ve _ (Nat.mod_lt _ `D));generalize hw:(ae/20+k)%7=w at*;generalize ae/20=u at*;generalize u+k=u' at*;simp! only[h1,h2,f1,f2,f3]
def Jp(h:ns.length=3):∀k,k<7->(lj ns++lj ns)[k]? =some (rT ns k)/\(rT ns k).length<=2:=by
 show jG (BW h) λn0 n1 n2 hr=>?_;subst hr;have f2:∀{a b:Nat},[a,b].length<=2:=Nat.le_refl _;have f1:∀{a:Nat},[a].length<=2:=Nat.le_succ _;show Hs ⟨rfl,f2⟩ ⟨rfl,f1⟩ ⟨rfl,f2⟩ ⟨rfl,f1⟩ ⟨rfl,f2⟩ ⟨rfl,f1⟩ ⟨rfl,f2⟩
def Vh(hs:c7 K "_law_sign" (.con (.ref a.sign)))(hF:∀m,m<69->∀O,F (.con (.ref a.sign)) [iV m] [] O=some (ft m,O))(hn:ns.length=3)(hk:k<7)(h1:J.lookup `sides=some (wu ns))(h2:J.lookup `k=some (iV k)):
  eB [] (bl (av .Add (lk J `sides) (lk J `sides)) (lk J `k)) (bp (bf `c) (λJ=>[(aQ K (lk J `c) [.Lt] [(pure (.int 69))])]) (bw λJ=>(aL K F (gl K `_law_sign) [(lk J `c)] [] []))) J O=some ((gz ns k).map ft,O):=by
 show aI (Jp hn k hk) λe1 e2=>?_;have bV:(lj ns).length=6:=by
  show jG (BW hn) λn0 n1 n2 hr=>?_;subst hr;rfl
 have eV:bl (av .Add (lk J `sides) (lk J `sides)) (lk J `k) O=some (bh (rT ns k),O):=by
  show ig (u:= .lst ((lj ns++lj ns).map bh)) (w:=iV k) ?_ (ic h2) (tI ?_ ?_)
  ·have q:((lj ns).map bh).length<=1000000:=by rw[bq];omega
   rw[List.map_append];unfold wu at h1;generalize(lj ns).map bh=l at*;simp! only[h1,q]
  ·rw[bq,List.length_append];omega
  ·simp only[List.getElem?_map,e1];rfl
 have e:=kE (O:=O) (ag:=O) (J:=J) (ns:=[]) (P:=λ_=>True) (bind:=bf `c) (tests:=λJ=>[(aQ K (lk J `c) [.Lt] [(pure (.int 69))])]) (e:=λJ=>(aL K F (gl K `_law_sign) [(lk J `c)] [] [])) (λv=>decide (cJ v<69)) (λv=>ft (cJ v)) eV (rF _ O) trivial (by rw[bq];show a9 `A `D) λv hv J _=>by
  show aj (cG hv) λc hc ay=>?_;subst ay;show dw ((`c,iV c)::J) rfl trivial ?_ (λhb=>?_)
  ·rw[show cJ (iV c)=c from rfl]
   by_cases Jq:c<69
   ·have:(c:Int)<69:=by omega
    simp! only[this,Jq]
   ·have:¬(c:Int)<69:=by omega
    simp! only[this,Jq]
  ·rw[show cJ (iV c)=c from rfl]at hb|-
   have:=hF c (by simpa using hb) O;unfold iV at this;simp! only[↓bZ hs,this]
 simp only[e];simp only[(nu _ (λc=>decide (c<69)) _ (λc=>rfl) _:((rT ns k).map iV).filter (λv=>decide (cJ v<69))=(gz ns k).map iV),List.map_map];rfl
def Jr(hJ:JoinOk F)(l:List Nat)(t:List Nat)(f:Nat->List Nat)(x:Str)(hx:x=`sign\/x=`meaning)(hf:∀c,f c=if x=`sign then [(eg c).1]else(eg c).2)(bV:∀c∈l,(f c).length<=3)(hl:l.length<=2)(s:Nat)(h1:J.lookup `signs=some (.lst (l.map ft)))(h2:J.lookup `strange=some (.str (T [s]))):
  (a4 K F (pure (.str ("":Str))) `join [(cU [`strange] (lk J `signs) (bp (eJ [`sign,`meaning]) (λJ=>[]) (bw λJ=>(av .Add (lk J x) (lk J `strange)))) J)] [] []) O=some (.str (T (l.flatMap λc=>f c++[s])),O):=by
 rw[k0 (x:="") (id:="str.join") rfl rfl,bF]
 let ff:V->List V:=λv=>match v with| .tup [.str u,.str w]=>[.str ((if x=`sign then u else w)++T [s])]|_=>[]
 have tK:∀c,ff (ft c)=[.str (T (f c++[s]))]:=λc=>by
  change [V.str ((if x=`sign then T [(eg c).1]else T (eg c).2)++T [s])]=_;rw[hf c];split<;>rw[rC]
 have Js:(l.map ft).flatMap ff=(l.map λc=>f c++[s]).map λx=>V.str (T x):=by
  clear bV hl h1;induction l with
  |nil=>rfl
  |cons b r ih=>simp only[List.map_cons,List.flatMap_cons,ih,tK];rfl
 rw[iB (lP (ag:=O) (xs:= .lst (l.map ft)) (l:=l.map ft) (P:=λJ=>J.lookup `strange=some (.str (T [s]))) ff (ic h1) (rF _ O) (iP h2 `D) (by simp only[Js,bq,bq];omega) λv hv J aq hp ha=>?_)]
 ·rw[Js]
  have kH:(l.map λc=>f c++[s]).flatten.length<=1000000:=by
   have key:∀m:List Nat,(∀c∈m,(f c).length<=3)->(m.map λc=>f c++[s]).flatten.length<=4*m.length:=by
    intro m;induction m with
    |nil=>intro _;simp
    |cons b r ih=>
     intro hm;have q1:=hm b (.head _);have q2:=ih λc hc=>hm c (.tail _ hc);simp only[List.map_cons,List.flatten_cons,List.length_append,List.length_append,List.length_cons,List.length_cons,List.length_nil];omega
   have:=key l bV;omega
  have:=hJ _ O kH;show this
 ·show aj (cG hv) λc hc ay=>?_;subst ay
  show aA ((`meaning,.str (T (eg c).2))::(`sign,.str (T [(eg c).1]))::J) hp ?_;have rt:List.lookup x ((`meaning,V.str (T (eg c).2))::(`sign,V.str (T [(eg c).1]))::J)=some (.str (T (f c))):=by
   rcases hx with rfl|rfl
   ·rw[hf c];rfl
   ·rw[hf c];rfl
  have lK:cg (T (f c))=true:=by have:=bV c hc;simp;omega
  have Vi:cg (T [s])=true:=rfl;have hb:eJ [`sign,`meaning] (ft c) J=some ((`meaning,.str (T (eg c).2))::(`sign,.str (T [(eg c).1]))::J):=rfl;have rU:aq.length<1000000:=by rw[tK]at ha;simp at ha;omega
  have BX:List.lookup `strange ((`meaning,V.str (T (eg c).2))::(`sign,V.str (T [(eg c).1]))::J)=some (.str (T [s])):=hp;rw[tK];generalize((`meaning,V.str (T (eg c).2))::(`sign,V.str (T [(eg c).1]))::J)=aO at*;simp! only[hb,rt,BX,lK,Vi,rC,rU]
def Jt:dZ.length=27:=by decide
def Vj(kb:KB K)(hJ:JoinOk F)(hC:yO F)(hk:k<7)(h1:J.lookup `last=some (iV ae))(h2:J.lookup `k=some (iV k))(h3:J.lookup `unseen=some (bh dZ)):
  (a4 K F (pure (.str ("":Str))) `join [(cU [] (gu (gu (lk J `unseen) (av .Mod (av .Add (av .FloorDiv (lk J `last) (pure (.int 20))) (av .Mult (pure (.int 9)) (lk J `k))) (pure (.int 54))) (pure .none)) (pure .none) (pure (.int 1))) (bp (bf `c) (λJ=>[]) (bw λJ=>(aL K F (gl K `chr) [(lk J `c)] [] []))) J)] [] []) O=some (.str (T (fH ae k)),O):=by
 rw[k0 (x:="") (id:="str.join") rfl rfl,bF];have o4:∀m:Nat,nQ (bh dZ) (.int (m:Int)) .none O=some (bh (dZ.drop m),O):=λm=>by
  delta bh;rw[N0 (a:= .lst _) (show(6:Nat)≠3 by decide) rfl ⟨Int.natCast_nonneg _,by simp only[bq,Jt];decide⟩,List.map_drop];rfl
 have Vk:∀l:List Nat,l.length<=27->nQ (bh l) .none (.int 1) O=some (bh (l.take 1),O):=λl hl=>by
  delta bh;rw[Ax (a:= .lst _) (show(6:Nat)≠3 by decide) rfl ⟨by decide,by rw[bq];show a9 `A `D⟩,List.map_take];rfl
 have lJ:(gu (gu (lk J `unseen) (av .Mod (av .Add (av .FloorDiv (lk J `last) (pure (.int 20))) (av .Mult (pure (.int 9)) (lk J `k))) (pure (.int 54))) (pure .none)) (pure .none) (pure (.int 1))) O=some (bh (fH ae k),O):=by
  have f1:(ae:Int).fdiv 20=((ae/20:Nat):Int):=ox _ 20;have f2:((ae/20:Nat):Int)+9*(k:Int)=((ae/20+9*k:Nat):Int):=by rfl
  have f3:((ae/20+9*k:Nat):Int).fmod 54=(((ae/20+9*k)%54:Nat):Int):=lb _ 54;have f4:k<2147483648:=by show a9 `A `D
  have f5:=o4 ((ae/20+9*k)%54);have f6:=Vk (dZ.drop ((ae/20+9*k)%54)) (by simp only[List.length_drop,Jt];show a9 (Nat.sub_le _ _) `D);unfold fH;generalize(ae/20+9*k)%54=w at*;generalize dZ.drop w=u0 at*;generalize ae/20=u at*;generalize u+9*k=u' at*;simp! only[h1,h2,h3,f1,f2,f3,f4,Int.natAbs_natCast,f5,f6]
 have Ju:(fH ae k).length<=1:=by unfold fH;rw[List.length_take];omega
 have yQ:∀c∈fH ae k,c<1114112:=λc hc=>by
  have:∀c∈dZ,c<1114112:=by decide
  show this c (List.mem_of_mem_drop (List.mem_of_mem_take hc):c∈dZ)
 generalize fH ae k=l at*;rw[iB (lP (ag:=O) (xs:=bh l) (l:=l.map iV) (P:=λJ=>True) (λv=>[.str (T [cJ v])]) lJ (rF _ O) trivial (by
  show a9 (wb λk=>by simp) ?_;rw[bq];omega) λv hv J aq hp ha=>?_)]
 ·have hm:(l.map iV).flatMap (λv=>[V.str (T [cJ v])])=(l.map λc=>[c]).map λx=>V.str (T x):=by
   clear Ju yQ lJ;induction l with
   |nil=>rfl
   |cons b r ih=>show aJ _ ih
  rw[hm];have:=hJ (l.map λc=>[c]) O (by rw[yN];omega);rw[yN]at this;show this
 ·show aj (cG hv) λc hc ay=>?_;subst ay
  show aA ((`c,iV c)::J) trivial ?_;have rU:aq.length<1000000:=by simp at ha;show gM `A `D
  simp! only[↓bZ kb.chr,(hC c O (yQ c hc)),rU]
structure C3(F:aG)(a:Ad):Prop where
 sign:∀m,m<69->∀O,F (.con (.ref a.sign)) [iV m] [] O=some (ft m,O)
 written:∀(l:List Nat) (aR w:Nat) O,aR<4->l.length<=1000->F (.con (.ref a.written)) [.str (T l),iV aR,.str (T [w])] [] O=some (.str (T (oB l aR w)),O)
 join:JoinOk F
 app:rK F
 chr:yO F
def tL{j:Nat}{l:List V}{i:Nat}{u:V}(bB:O[j]? =some (.list l))(hl:l.length<=1000000)(h:l[i]? =some u):jM (.ref j) (.int (i:Int)) O=some (u,O):=by
 have hs:g8 (.ref j) O=some l:=by
  change(match O[j]?with|some (.list l)=>some l|_=>none)=_;rw[bB]
 change(match g8 (.ref j) O with|some l=>lF l i O|none=>none)=_;rw[hs];change lF l i O=_;unfold lF;rw[az ⟨by simp,hl⟩,fY,Int.toNat_natCast,h];rfl
def Vl:∀c,c<69->(eg c).2.length<=3:=by decide+kernel
def Jv(hn:ns.length=3)(hk:k<7):(gz ns k).length<=2:=a9 (List.length_filter_le _ _) (Jp hn k hk).2
def Vm:∀c∈gz ns k,c<69:=λc hc=>by simpa using(List.mem_filter.mp hc).2
def Jw(hn:ns.length=3)(hk:k<7):(gH ns ae k).length<=4:=by
 have h:=Jv hn hk;unfold gH;generalize gz ns k=l at*;have:(l.flatMap λc=>[(eg c).1,iR ae k]).length=2*l.length:=by
  clear h;induction l with
  |nil=>rfl
  |cons b r ih=>simp only[List.flatMap_cons,List.length_append,ih,List.length_cons,List.length_cons,List.length_cons,List.length_nil];lia
 lia
def Jx:(fH ae k).length<=1:=by unfold fH;rw[List.length_take];lia
def C4(hn:ns.length=3)(hk:k<7):(eG ns ae k).length<=5:=by
 have h1:=Jw (ae:=ae) hn hk;have h2:=Jx (ae:=ae) (k:=k);unfold eG;split<;>rw[List.length_append]<;>lia
def Jy(l:List Nat)(aR w:Nat):(oB l aR w).length<=2*l.length+3:=by
 unfold oB;split
 ·have:=wq 0 l;simp only[List.length_append,List.length_cons,List.length_nil];lia
 ·have:=wq 1 l;simp only[List.length_append,List.length_cons,List.length_nil];lia
 ·have:=wq 2 l;simp only[List.length_append,List.length_cons,List.length_nil];lia
 ·have:=wq 3 l;simp only[List.length_append,List.length_cons,List.length_nil];lia
def C5:kG ns ae (k+1)=kG ns ae k++gV ns ae k:=by
 unfold kG;simp only[List.range_succ,List.flatMap_append];simp
def yR(hn:ns.length=3):∀k,k<=7->(kG ns ae k).length<=13*k
 |0,_=>by simp[kG]
 |k+1,h=>by
  have h1:=yR hn k (by show Nat.le_of_lt `A);have h2:=Jy (eG ns ae k) (nD ae k) (qr ae k);have h3:=C4 (ae:=ae) hn (show k<7 by show Nat.succ_le_of_lt `A);simp only[C5,List.length_append];unfold gV;lia
def Jz{α:Type}(f:Nat->α)(k:Nat):(List.range (k+1)).map f=(List.range k).map f++[f k]:=by simp only[List.range_succ,List.map_append];rfl
abbrev eD(O:Hp)(cs:List V)(ns:List Nat)(ae k:Nat):Hp:=O++[.list cs,.list ((List.range k).map (gX ns ae)),.list ((List.range k).map (gW ns ae))]
def Vn(cs:List V):(eD O cs ns ae k)[O.length+1]? =some (.list ((List.range k).map (gX ns ae))):=by unfold eD;simp
def Vo(cs:List V):(eD O cs ns ae k)[O.length+2]? =some (.list ((List.range k).map (gW ns ae))):=by unfold eD;simp
def JA(hA:rK F){o e:M V}{j:Nat}{l:List V}(h1:o O=some (.ref j,O))(h2:O[j]? =some (.list l))(h3:e O=some (v,O))(hl:l.length<=1000000)(hs:O.set j (.list (l++[v]))=aa):
  j0 (a4 K F o "append" [e] [] []) J O=some ((J,.next),aa):=by rw[wg hA h1 h2 h3 h2 hl,hs]
def yS{m1 m2:M V}{x y:List Nat}(h1:m1 O=some (bE x,O))(h2:m2 O=some (bE y,O))(hx:x.length<=1000000)(hy:y.length<=1000000):av .Add m1 m2 O=some (bE (x++y),O):=by
 have q1:cg (T x)=true:=by simp;lia
 unfold av;unfold bE at*;simp(decide:=true) only[aK,h1,h2,Option.bind_some,Tv,q1,(by simp;lia:cg (T y)=true),and_self,if_true,mA,rC]
def Vp(O:Hp)(x y z y':bx):(O++[x,y,z]).set (O.length+1) y'=O++[x,y',z]:=by
 rw[List.set_append_right _ _ `S];simp
def Vq(O:Hp)(x y z z':bx):(O++[x,y,z]).set (O.length+2) z'=O++[x,y,z']:=by
 rw[List.set_append_right _ _ `S];simp
abbrev Vr(O:Hp)(cs:List V)(ns:List Nat)(ae:Nat)(aV:List V)(J:ab)(ag:Hp):Prop:=∃k,k<=7/\aV=((List.range 7).drop k).map iV/\ag=eD O cs ns ae k/\J.lookup `last=some (iV ae)/\J.lookup `sides=some (wu ns)/\J.lookup `unseen=some (bh dZ)/\
 J.lookup `typed=some (.ref (O.length+1))/\J.lookup `pairs=some (.ref (O.length+2))/\J.lookup `whole=some (bE (kG ns ae k))
def pB{m k:Nat}(h:k<m):(List.range m).drop k=k::(List.range m).drop (k+1):=by
 rw[List.drop_eq_getElem_cons (by simpa using h)];simp
def Vs(kb:KB K)(hf:C3 F a)(g1:c7 K "_law_sign" (.con (.ref a.sign)))(g2:c7 K "_law_written" (.con (.ref a.written)))(hn:ns.length=3)(hk:k<7)(cs:List V)(p0:J.lookup `k=some (iV k))(p1:J.lookup `last=some (iV ae))(p2:J.lookup `sides=some (wu ns))(p3:J.lookup `unseen=some (bh dZ))
  (p4:J.lookup `typed=some (.ref (O.length+1))) (p5:J.lookup `pairs=some (.ref (O.length+2))) (p6:J.lookup `whole=some (bE (kG ns ae k))) (Q:ab×Fl->Hp->Prop)
  (hQ:∀aO,aO.lookup `last=some (iV ae)->aO.lookup `sides=some (wu ns)->aO.lookup `unseen=some (bh dZ)->aO.lookup `typed=some (.ref (O.length+1))->aO.lookup `pairs=some (.ref (O.length+2))->aO.lookup `whole=some (bE (kG ns ae (k+1)))->Q (aO,.next) (eD O cs ns ae (k+1))):
  a7 ((λJ=>ar (bH `strange (bl (pure (.str ("\" \n\t\r\\\u00a0":Str))) (av .Mod (av .Add (av .FloorDiv (lk J `last) (pure (.int 20))) (lk J `k)) (pure (.int 7)))) J) λJ=>ar (iy `signs (eB [] (bl (av .Add (lk J `sides) (lk J `sides)) (lk J `k)) (bp (bf `c) (λJ=>[(aQ K (lk J `c) [.Lt] [(pure (.int 69))])]) (bw λJ=>(aL K F (gl K `_law_sign) [(lk J `c)] [] []))) J) J) λJ=>ar (j0 (a4 K F (lk J `pairs) `append [(dA [(a4 K F (pure (.str ("":Str))) `join [(cU [`strange] (lk J `signs) (bp (eJ [`sign,`meaning]) (λJ=>[]) (bw λJ=>(av .Add (lk J `sign) (lk J `strange)))) J)] [] []),(a4 K F (pure (.str ("":Str))) `join [(cU [`strange] (lk J `signs) (bp (eJ [`sign,`meaning]) (λJ=>[]) (bw λJ=>(av .Add (lk J `meaning) (lk J `strange)))) J)] [] [])])] [] []) J) λJ=>ar (bH `beside (a4 K F (pure (.str ("":Str))) `join [(cU [] (gu (gu (lk J `unseen) (av .Mod (av .Add (av .FloorDiv (lk J `last) (pure (.int 20))) (av .Mult (pure (.int 9)) (lk J `k))) (pure (.int 54))) (pure .none)) (pure .none) (pure (.int 1))) (bp (bf `c) (λJ=>[]) (bw λJ=>(aL K F (gl K `chr) [(lk J `c)] [] []))) J)] [] []) J) λJ=>ar (j0 (a4 K F (lk J `typed) `append [(eN (aQ K (av .Mod (lk J `k) (pure (.int 2))) [.Eq] [(pure (.int 0))]) (av .Add (lk J `beside) (bl (bl (lk J `pairs) (lk J `k)) (pure (.int 0)))) (av .Add (bl (bl (lk J `pairs) (lk J `k)) (pure (.int 0))) (lk J `beside)))] [] []) J) λJ=>ar (bH `whole (av .Add (lk J `whole) (aL K F (gl K `_law_written) [(bl (lk J `typed) (lk J `k)),(av .Mod (av .FloorDiv (av .FloorDiv (lk J `last) (pure (.int 560))) (av .Pow (pure (.int 4)) (lk J `k))) (pure (.int 4))),(bl (pure (.str ("\n\t\r ":Str))) (av .Mod (av .Add (lk J `last) (lk J `k)) (pure (.int 4))))] [] [])) J) λJ=>aE J) J) (eD O cs ns ae k) Q:=by
 show sq (eE (v:= .str (T [iR ae k])) (Vg p1 p0)) ?_;change a7 _ _ _;show sq (mE (Vh (k:=k) (ns:=ns) g1 hf.sign hn hk p2 (by simp(decide:=true) only[bM,if_false,p0]))) ?_;change a7 _ _ _;have o4:=Jv hn hk;have Vt:=Vm (ns:=ns) (k:=k);have w1:=Jr (K:=K) (O:=eD O cs ns ae k) (J:=(`signs,.lst ((gz ns k).map ft))::(`strange,.str (T [iR ae k]))::J) hf.join (gz ns k) [] (λc=>[(eg c).1]) "sign" (.inl rfl) (λc=>by show rfl) (λc _=>by simp) o4 (iR ae k) (by simp(decide:=true) only[bM,if_true]) (by simp(decide:=true) only[bM,if_true,if_false]);have w2:=Jr (K:=K) (O:=eD O cs ns ae k) (J:=(`signs,.lst ((gz ns k).map ft))::(`strange,.str (T [iR ae k]))::J) hf.join (gz ns k) [] (λc=>(eg c).2) "meaning" (.inr rfl) (λc=>by show rfl) (λc hc=>Vl c (Vt c hc)) o4 (iR ae k) (by simp(decide:=true) only[bM,if_true]) (by simp(decide:=true) only[bM,if_true,if_false]);show sq (JA (aa:=O++[.list cs,.list ((List.range k).map (gX ns ae)),.list ((List.range (k+1)).map (gW ns ae))]) hf.app (v:=gW ns ae k) (ic p5) (Vo cs) (nB w1 w2) (by simp only[bq,List.length_range];lia) ?_) ?_
 ·rw[Jz];show Vq _ _ _ _ _
 change a7 _ _ _;show sq (eE (v:=bE (fH ae k)) (Vj (k:=k) (ae:=ae) kb hf.join hf.chr hk p1 (by simp(decide:=true) only[bM,if_false,p0]) p3)) ?_;change a7 _ _ _;have C6:(O++[bx.list cs,.list ((List.range k).map (gX ns ae)),.list ((List.range (k+1)).map (gW ns ae))])[O.length+2]? =some (.list ((List.range (k+1)).map (gW ns ae))):=by simp
 have Vu:(O++[bx.list cs,.list ((List.range k).map (gX ns ae)),.list ((List.range (k+1)).map (gW ns ae))])[O.length+1]? =some (.list ((List.range k).map (gX ns ae))):=by simp
 have Vv:∀aO:ab,aO.lookup `pairs=some (.ref (O.length+2))->aO.lookup `k=some (iV k)->(bl (bl (lk aO `pairs) (lk aO `k)) (pure (.int 0))) (O++[bx.list cs,.list ((List.range k).map (gX ns ae)),.list ((List.range (k+1)).map (gW ns ae))])=some (bE (gH ns ae k),O++[bx.list cs,.list ((List.range k).map (gX ns ae)),.list ((List.range (k+1)).map (gW ns ae))]):=λaO q1 q2=>by
  show ig (u:=gW ns ae k) (w:=iV 0) (ig (u:= .ref (O.length+2)) (w:=iV k) (ic q1) (aJ _ q2) (tL C6 (by simp only[bq,List.length_range];lia) `S)) rfl (item_tup `S rfl)
 have Ju:=Jx (ae:=ae) (k:=k);have C7:=Jw (ae:=ae) hn hk;show sq (JA (aa:=eD O cs ns ae (k+1)) hf.app (v:=gX ns ae k) (ic p4) Vu ?_ (by simp only[bq,List.length_range];lia) ?_) ?_
 ·have f1:(k:Int).fmod 2=((k%2:Nat):Int):=lb _ 2
  have hB:(lk ((`beside,bE (fH ae k))::(`signs,V.lst ((gz ns k).map ft))::(`strange,V.str (T [iR ae k]))::J) `beside) (O++[bx.list cs,.list ((List.range k).map (gX ns ae)),.list ((List.range (k+1)).map (gW ns ae))])=some (bE (fH ae k),O++[bx.list cs,.list ((List.range k).map (gX ns ae)),.list ((List.range (k+1)).map (gW ns ae))]):=rfl;have hI:=Vv ((`beside,bE (fH ae k))::(`signs,V.lst ((gz ns k).map ft))::(`strange,V.str (T [iR ae k]))::J) (by simp(decide:=true) only[bM,if_false,p5]) p0;have rt:List.lookup `k ((`beside,bE (fH ae k))::(`signs,V.lst ((gz ns k).map ft))::(`strange,V.str (T [iR ae k]))::J)=some (iV k):=(p0).trans rfl;have b1:=yS hB hI `L `L;have b2:=yS hI hB `L `L;have hv:gX ns ae k=if k%2=0 then bE (fH ae k++gH ns ae k)else bE (gH ns ae k++fH ae k):=by unfold gX eG;split<;>rfl
  rw[hv];generalize((`beside,bE (fH ae k))::(`signs,V.lst ((gz ns k).map ft))::(`strange,V.str (T [iR ae k]))::J)=aO at*;generalize(O++[bx.list cs,.list ((List.range k).map (gX ns ae)),.list ((List.range (k+1)).map (gW ns ae))])=aH at*;unfold eN;simp only[aK];by_cases h0:k%2=0
  ·have ht:(aQ K (av .Mod (lk aO `k) (pure (.int 2))) [.Eq] [(pure (.int 0))]) aH=some (true,aH):=by
    have hz:(((k%2:Nat):Int)==0)=true:=by rw[h0];rfl
    simp! only[rt,f1,hz]
   rw[az h0];show(aJ (λo=>Option.bind o _) ht).trans b1
  ·have eI:(((k%2:Nat):Int)==0)=false:=by rw[beq_eq_false_iff_ne];lia
   have ht:(aQ K (av .Mod (lk aO `k) (pure (.int 2))) [.Eq] [(pure (.int 0))]) aH=some (false,aH):=by
    simp! only[rt,f1,eI]
   rw[aN h0];show(aJ (λo=>Option.bind o _) ht).trans b2
 ·unfold eD
  rw[Jz (gX ns ae)];show Vp _ _ _ _ _
 change a7 _ _ _;have iL:=C4 (ae:=ae) hn hk;have Vw:=yR (ae:=ae) hn k `L;have hwr:=Jy (eG ns ae k) (nD ae k) (qr ae k);show sq (eE (v:=bE (kG ns ae (k+1))) (ag:=eD O cs ns ae (k+1)) ?_) ?_
 ·have pC:(lk ((`beside,bE (fH ae k))::(`signs,V.lst ((gz ns k).map ft))::(`strange,V.str (T [iR ae k]))::J) `whole) (eD O cs ns ae (k+1))=some (bE (kG ns ae k),eD O cs ns ae (k+1)):=by simp(decide:=true) only[fZ,bM,if_false,p6,Option.map_some]
  have yT:List.lookup `typed ((`beside,bE (fH ae k))::(`signs,V.lst ((gz ns k).map ft))::(`strange,V.str (T [iR ae k]))::J)=some (.ref (O.length+1)):=by simp(decide:=true) only[bM,if_false,p4]
  have C8:List.lookup `k ((`beside,bE (fH ae k))::(`signs,V.lst ((gz ns k).map ft))::(`strange,V.str (T [iR ae k]))::J)=some (iV k):=by simp(decide:=true) only[bM,if_false,p0]
  have JB:List.lookup `last ((`beside,bE (fH ae k))::(`signs,V.lst ((gz ns k).map ft))::(`strange,V.str (T [iR ae k]))::J)=some (iV ae):=by simp(decide:=true) only[bM,if_false,p1]
  rw[C5];have C9:(eD O cs ns ae (k+1))[O.length+1]? =some (.list ((List.range (k+1)).map (gX ns ae))):=Vn cs;generalize eD O cs ns ae (k+1)=aH at*;generalize((`beside,bE (fH ae k))::(`signs,V.lst ((gz ns k).map ft))::(`strange,V.str (T [iR ae k]))::J)=aO at*;show yS pC ?_ `L (by unfold gV;lia);have a1:bl (lk aO `typed) (lk aO `k) aH=some (bE (eG ns ae k),aH):=ig (u:= .ref (O.length+1)) (w:=iV k) (by simp only[fZ,yT];rfl) (by simp only[fZ,C8];rfl) (tL C9 (by simp only[bq,List.length_range];lia) (by rw[List.getElem?_map,List.getElem?_range `L];rfl));have f1:(ae:Int).fdiv 560=((ae/560:Nat):Int):=ox _ 560;have f2:(4:Int)^(k:Int).toNat=((4^k:Nat):Int):=by simp only[Int.toNat_natCast,Int.natCast_pow];rfl
  have f3:((ae/560:Nat):Int).fdiv ((4^k:Nat):Int)=((ae/560/4^k:Nat):Int):=ox _ _;have f4:((ae/560/4^k:Nat):Int).fmod 4=((nD ae k:Nat):Int):=lb _ 4;have f5:((4^k:Nat):Int)≠0:=by have:0<4^k:=Nat.pow_pos `D;lia
  have f6:4^k<1073741824:=gM (Nat.pow_le_pow_right `D (show k<=7 by lia)) `D;have f7:(0:Int)<=(k:Int)/\(k:Int)<=64:=by lia
  have a2:(av .Mod (av .FloorDiv (av .FloorDiv (lk aO `last) (pure (.int 560))) (av .Pow (pure (.int 4)) (lk aO `k))) (pure (.int 4))) aH=some (iV (nD ae k),aH):=by
   generalize nD ae k=wy at*;generalize ae/560/4^k=u2 at*;generalize ae/560=u1 at*;generalize 4^k=u3 at*;simp! only[C8,JB,f1,f2,f3,f4,f5,f6,f7,Int.natAbs_natCast]
  have f8:(ae:Int)+(k:Int)=((ae+k:Nat):Int):=by lia
  have f9:((ae+k:Nat):Int).fmod 4=(((ae+k)%4:Nat):Int):=lb _ 4;have a3:(bl (pure (.str ("\n\t\r ":Str))) (av .Mod (av .Add (lk aO `last) (lk aO `k)) (pure (.int 4)))) aH=some (.str (T [qr ae k]),aH):=by
   show ig (w:= .int (((ae+k)%4:Nat):Int)) rfl ?_ (Vf _ (Nat.mod_lt _ `D));generalize(ae+k)%4=w at*;generalize ae+k=w' at*;simp! only[C8,JB,f8,f9]
  have hw:=hf.written (eG ns ae k) (nD ae k) (qr ae k) aH (Nat.mod_lt _ `D) `L;simp only[bZ g2,bF,a1,Option.bind_some,bF,a2,Option.bind_some,bF,a3];show hw
 change a7 (aE _) _ _;show⟨_,_,rfl,hQ _ (by simp(decide:=true) only[bM,if_false,p1]) (by simp(decide:=true) only[bM,if_false,p2]) (by simp(decide:=true) only[bM,if_false,p3]) (by simp(decide:=true) only[bM,if_false,p4]) (by simp(decide:=true) only[bM,if_false,p5]) (by simp(decide:=true) only[bM,if_true])⟩
def Vx(l:List Nat)(h:l≠[]):Txt.slice (T l) none (some (-1))=T l.dropLast:=by
 have hl:0<l.length:=List.length_pos_iff.mpr h;have e:=StrLaws.sliceText_to_neg (x:=T l) (j:= -1) `D (by rw[v3];lia);have e2:Txt.slice (T l) none (some (-1))=StrLaws.sliceText (T l) none (some (-1)):=by rfl
 simp only[e2,e];have:(T l).cps.toList=l:=by unfold T;simp
 simp only[this,List.drop_zero,v3];congr 2;simp only[List.dropLast_eq_take];congr 1;rw[Int.sub_zero,Int.add_comm];show Int.toNat_sub _ 1
abbrev Dc(F:aG):Prop:=∀(l:List V) (O:Hp),l.length<=1000000->F (.con (.builtin "len")) [.lst l] [] O=some (.int (l.length:Int),O)
def JC:Dc (aY K (n+1)):=λl O h=>by
 change m8 "len" [.lst l] O=_;show Qj rfl h
abbrev yU:Int:=10000000
abbrev m7(c:Int):Nat:=(c.fmod yU).toNat
def JD{m:M V}{c:Int}(h:m O=some (.int c,O)):av .Mod m (av .Pow (pure (.int 10)) (pure (.int 7))) O=some (iV (m7 c),O):=by
 unfold av;rw[aK,h];change fk .Mod (.int c) (.int yU) O=_;rw[Tt,aN `D];have:c.fmod yU=((m7 c:Nat):Int):=by
  unfold m7;have:0<=c.fmod yU:=by
   rw[Int.fmod_eq_emod_of_nonneg _ `D];show Int.emod_nonneg _ `D
  omega
 rw[this];rfl
abbrev bt(cs:List Int):List V:=cs.map .int
def Vy(sc cs:List Int)(gE:sc.length<=1000)(qs:cs.length=4)(i:Nat)(hi:i<sc.length)(h1:J.lookup `i=some (iV i))(h2:J.lookup `cells=some (.ref O.length))(h3:J.lookup `script=some (.lst (bt sc))):
  ∃cZ,cZ.length=4/\pe (lk J `cells) (av .Mod (lk J `i) (pure (.int 4))) (av .Add (bl (lk J `cells) (av .Mod (lk J `i) (pure (.int 4)))) (bl (lk J `script) (lk J `i))) J (O++[.list (bt cs)])=some ((J,.next),O++[.list (bt cZ)]):=by
 have f1:(i:Int).fmod 4=((i%4:Nat):Int):=lb _ 4;have bR:i%4<4:=Nat.mod_lt _ `D;have Vz:i%4<cs.length:=by lia
 have JE:(av .Mod (lk J `i) (pure (.int 4))) (O++[.list (bt cs)])=some (iV (i%4),O++[.list (bt cs)]):=by
  generalize i%4=w at*;simp! only[h1,f1]
 have kR:(O++[bx.list (bt cs)])[O.length]? =some (.list (bt cs)):=by simp
 have lH:(bt cs).length<=1000000:=by unfold bt;rw[bq];lia
 have a1:bl (lk J `cells) (av .Mod (lk J `i) (pure (.int 4))) (O++[.list (bt cs)])=some (.int cs[i%4],O++[.list (bt cs)]):=ig (u:= .ref O.length) (w:=iV (i%4)) (ic h2) JE (tL kR lH (by unfold bt;rw[List.getElem?_map,eH Vz];rfl));have a2:bl (lk J `script) (lk J `i) (O++[.list (bt cs)])=some (.int sc[i],O++[.list (bt cs)]):=ig (u:= .lst (bt sc)) (w:=iV i) (ic h3) (aJ _ h1) (tI (by unfold bt;rw[bq];show a9 `A `D) (by unfold bt;rw[List.getElem?_map,eH hi];rfl));show⟨cs.set (i%4) (cs[i%4]+sc[i]),by simp[qs],?_⟩;unfold pe;have VA:(av .Add (bl (lk J `cells) (av .Mod (lk J `i) (pure (.int 4)))) (bl (lk J `script) (lk J `i))) (O++[.list (bt cs)])=some (.int (cs[i%4]+sc[i]),O++[.list (bt cs)]):=by
  unfold av;simp only[aK,show(bl (lk J `cells) (do let x<-lk J `i;let y<-pure (V.int 4);fk .Mod x y))=bl (lk J `cells) (av .Mod (lk J `i) (pure (.int 4)))from rfl,a1];change(bl (lk J `script) (lk J `i)>>=λy=>fk .Add (.int cs[i%4]) y) _=_;rw[aK,a2];rfl
 rw[aK,VA];change(lk J `cells>>=_) _=_;rw[aK,fZ,h2];change(av .Mod (lk J `i) (pure (.int 4))>>=_) _=_;rw[aK,JE];change(mu (.ref O.length) (iV (i%4)) (.int (cs[i%4]+sc[i]))>>=_) _=_;simp only[aK];have rV:mu (.ref O.length) (iV (i%4)) (.int (cs[i%4]+sc[i])) (O++[.list (bt cs)])=some ((),O++[.list (bt (cs.set (i%4) (cs[i%4]+sc[i])))]):=by
  have VB:(bt cs).length=4:=by unfold bt;simp only[bq,qs]
  show(GP (k:=((i%4:Nat):Int)) kR ⟨by lia,by rw[VB];lia,lH⟩).trans ?_;rw[Int.toNat_natCast];rw[List.set_append_right _ _ `L];unfold bt;rw[List.map_set];simp
 rw[rV];rfl
def VC(kb:KB K)(hR:mH F)(hL:Dc F)(sc:List Int)(gE:sc.length<=1000)(cs:List Int)(qs:cs.length=4)(h2:J.lookup `cells=some (.ref O.length))(h3:J.lookup `script=some (.lst (bt sc)))(Q:ab×Fl->Hp->Prop)
  (hQ:∀aO cZ,cZ.length=4->aO.lookup `cells=some (.ref O.length)->Q (aO,.next) (O++[.list (bt cZ)])):
  a7 (d8 K F (bf `i) (aL K F (gl K `range) [(aL K F (gl K `len) [(lk J `script)] [] [])] [] []) (λJ=>ar (pe (lk J `cells) (av .Mod (lk J `i) (pure (.int 4))) (av .Add (bl (lk J `cells) (av .Mod (lk J `i) (pure (.int 4)))) (bl (lk J `script) (lk J `i))) J) λJ=>aE J) (λJ=>aE J) J) (O++[.list (bt cs)]) Q:=by
 have bV:(bt sc).length=sc.length:=by unfold bt;rw[bq]
 show tu (xs:= .dU 0 (sc.length:Int) 1) (l:=(List.range sc.length).map iV) (ag:=O++[.list (bt cs)]) (I:=λaV J aa=>∃i cZ,i<=sc.length/\aV=((List.range sc.length).drop i).map iV/\cZ.length=4/\aa=O++[.list (bt cZ)]/\J.lookup `cells=some (.ref O.length)/\J.lookup `script=some (.lst (bt sc))) ?_ ((mD sc.length _).trans (az (rI _ `A))) (EP 0 cs `S rfl qs rfl h2 h3) (λv aV J aa h=>?_) λJ aa h=>?_
 ·have e1:=hL (bt sc) (O++[.list (bt cs)]) `L
  rw[bV]at e1;simp(decide:=true) only[bZ kb.range,bZ kb.len,bF,mB,fZ,h3,Option.map_some,Option.bind_some,e1,(hR sc.length (O++[.list (bt cs)]))]
 ·show uj h λi cZ hi bP g6 oC p1 p2=>?_;subst oC
  have bR:i<sc.length:=by
   rcases Nat.lt_or_ge i sc.length with h|h
   ·show h
   ·have:i=sc.length:=by lia
    subst this;have:=aJ List.length bP;simp at this
  simp only[pB bR,List.map_cons]at bP;show aI (List.cons.inj bP) λbY aF=>?_;subst bY;subst aF;show aj (Vy (O:=O) (J:=(`i,iV i)::J) sc cZ gE g6 i bR (by rfl) p1 p2) λVD h4 e=>?_;show aA ((`i,iV i)::J) rfl (sq e ?_);show c8 _ _ rfl ?_;show EP (i+1) VD bR rfl h4 rfl p1 (by simp(decide:=true) only[bM,if_false,p2])
 ·show uj h λi cZ hi bP g6 oC p1 p2=>?_;subst oC
  show c8 _ _ rfl (hQ _ _ g6 p1)
def rW{x:Str}{e:ab->M V}{u:V}{aq:List V}(h:e ((x,v)::J) O=some (u,ag))(ha:aq.length<1000000):bp (bf x) (λ_=>[]) (bw e) v (J,aq) O=some (((x,v)::J,aq++[u]),ag):=by
 delta bp bw;simp only[aK,fY,bf,Option.map_some,Option.bind_some,vY,mA,if_true,h,vX,ha]
abbrev cellAt(cs:List Int)(i:Nat):Int:=cs.getD i 0
abbrev gf(cs:List Int):List Nat:=(cs.take 3).map m7
abbrev dQ(cs:List Int):Nat:=m7 (cellAt cs 3)
def JF(cs:List Int)(h4:cs.length=4):(O++[bx.list (bt cs)])[O.length]? =some (.list (bt cs)):=by simp
def JG(cs:List Int)(h4:cs.length=4):(bt cs).length<=1000000:=by unfold bt;rw[bq];lia
def VE(cs:List Int)(h4:cs.length=4)(h1:J.lookup `cells=some (.ref O.length)):
  (av .Mod (bl (lk J `cells) (pure (.int 3))) (av .Pow (pure (.int 10)) (pure (.int 7)))) (O++[.list (bt cs)])=some (iV (dQ cs),O++[.list (bt cs)]):=
 JD (ig (u:= .ref O.length) (w:=iV 3) (ic h1) rfl (tL (JF cs h4) (JG cs h4) (by
  delta bt cellAt;rw[List.getElem?_map,eH `L,List.getD_eq_getElem?_getD,eH `L];rfl)))
def VF(m:Nat){aq:List V}(ha:aq.length+2<=1000000)(h1:J.lookup `n=some (iV m)):
  ∃aO,lN (eC [(eC [(av .Mod (lk J `n) (pure (.int 69))),(av .Mod (av .FloorDiv (lk J `n) (pure (.int 4761))) (pure (.int 138)))]),(eC [(av .Mod (av .FloorDiv (lk J `n) (pure (.int 69))) (pure (.int 69)))])]) (bp (bf `side) (λJ=>[]) (bw λJ=>(lk J `side))) J aq O=some ((aO,aq++(nC m).map bh),O):=by
 have f1:(m:Int).fmod 69=((m%69:Nat):Int):=lb _ 69;have f2:(m:Int).fdiv 4761=((m/4761:Nat):Int):=ox _ 4761;have f3:((m/4761:Nat):Int).fmod 138=((m/4761%138:Nat):Int):=lb _ 138;have f4:(m:Int).fdiv 69=((m/69:Nat):Int):=ox _ 69;have f5:((m/69:Nat):Int).fmod 69=((m/69%69:Nat):Int):=lb _ 69;have hs:(nC m).map bh=[bh [m%69,m/4761%138],bh [m/69%69]]:=rfl;have jO:bh [m%69,m/4761%138]= .lst [.int ((m%69:Nat):Int),.int ((m/4761%138:Nat):Int)]:=rfl;have tJ:bh [m/69%69]= .lst [.int ((m/69%69:Nat):Int)]:=rfl;have hx:(eC [(eC [(av .Mod (lk J `n) (pure (.int 69))),(av .Mod (av .FloorDiv (lk J `n) (pure (.int 4761))) (pure (.int 138)))]),(eC [(av .Mod (av .FloorDiv (lk J `n) (pure (.int 69))) (pure (.int 69)))])]) O=some (.lst ((nC m).map bh),O):=by
  simp only[hs,jO,tJ];generalize m/4761%138=u1 at*;generalize m/4761=u2 at*;generalize m/69%69=u3 at*;generalize m/69=u4 at*;generalize m%69=u5 at*;simp! only[h1,f1,f2,f3,f4,f5,List.length_cons,List.length_nil]
 obtain⟨aO,_,e⟩:=II (O:=O) (ag:=O) (J:=J) (aq:=aq) (P:=λ_=>True) (turn:=bp (bf `side) (λJ=>[]) (bw λJ=>(lk J `side))) (λv=>[v]) hx (rF _ O) trivial (by simp only[(by simp:((nC m).map bh).flatMap (λv=>[v])=(nC m).map bh),List.length_append,(rfl:((nC m).map bh).length=2)];assumption) λv hv J aq _ rU=>aA ((`side,v)::J) trivial (by
  simp! only[(by simp at rU;show gM `A `D:aq.length<1000000)])
 show⟨aO,e⟩
def JH(l:List Nat):(l.map iV).flatMap (λv=>(nC (cJ v)).map bh)=(lj l).map bh:=by
 induction l with
 |nil=>rfl
 |cons b r ih=>show aJ _ ih
def VG(l:List Nat):(lj l).length=2*l.length:=by
 unfold lj;induction l with
 |nil=>rfl
 |cons b r ih=>simp only[List.flatMap_cons,List.length_append,ih,show(nC b).length=2 from rfl,List.length_cons];lia
def VH{x:Str}{v:V}{inner:ab->List V->M (ab×List V)}{aq:List V}{r:Option ((ab×List V)×Hp)}(h:inner ((x,v)::J) aq O=r):bp (bf x) (λ_=>[]) inner v (J,aq) O=r:=h
def VI(cs:List Int)(h4:cs.length=4)(h1:J.lookup `cells=some (.ref O.length)):
  eB [] (cU [] (gu (lk J `cells) (pure .none) (pure (.int 3))) (bp (bf `cell) (λJ=>[]) (bw λJ=>(av .Mod (lk J `cell) (av .Pow (pure (.int 10)) (pure (.int 7)))))) J) (bp (bf `n) (λJ=>[]) (λJ aq=>lN (eC [(eC [(av .Mod (lk J `n) (pure (.int 69))),(av .Mod (av .FloorDiv (lk J `n) (pure (.int 4761))) (pure (.int 138)))]),(eC [(av .Mod (av .FloorDiv (lk J `n) (pure (.int 69))) (pure (.int 69)))])]) (bp (bf `side) (λJ=>[]) (bw λJ=>(lk J `side))) J aq)) J (O++[.list (bt cs)])=some ((lj (gf cs)).map bh,O++[.list (bt cs)]):=by
 have hn:(gf cs).length=3:=by unfold gf;simp only[bq,List.length_take];lia
 have lJ:(gu (lk J `cells) (pure .none) (pure (.int 3))) (O++[.list (bt cs)])=some (.lst (bt (cs.take 3)),O++[.list (bt cs)]):=by
  unfold gu;simp only[aK,fZ,h1];have hs:g8 (.ref O.length) (O++[.list (bt cs)])=some (bt cs):=by
   change(match(O++[bx.list (bt cs)])[O.length]?with|some (.list l)=>some l|_=>none)=_;rw[JF cs h4]
  show(Ax (a:= .ref _) (b:=3) (show(10:Nat)≠3 by decide) hs ⟨by decide,JG cs h4⟩).trans ?_;unfold bt;rw[List.map_take];rfl
 let ff:V->List V:=λv=>match v with| .int c=>[iV (m7 c)]|_=>[]
 have tK:∀l:List Int,(bt l).flatMap ff=(l.map m7).map iV:=λl=>by
  unfold bt;induction l with
  |nil=>rfl
  |cons b r ih=>rw[List.map_cons,List.flatMap_cons,ih];rfl
 have u7:(cU [] (gu (lk J `cells) (pure .none) (pure (.int 3))) (bp (bf `cell) (λJ=>[]) (bw λJ=>(av .Mod (lk J `cell) (av .Pow (pure (.int 10)) (pure (.int 7)))))) J) (O++[.list (bt cs)])=some (bh (gf cs),O++[.list (bt cs)]):=by
  show(iB (lP (P:=λ_=>True) ff lJ (rF _ _) trivial (by simp only[tK,bq,bq,List.length_take];lia) λv hv J aq _ ha=>?_)).trans (by rw[tK];rfl);show aj (cG hv) λc _ ay=>?_;subst ay;show⟨(`cell,.int c)::J,trivial,?_⟩;have Dd:aq.length<1000000:=by
   rw[show ff (.int c)=[iV (m7 c)]from rfl]at ha;simp at ha;lia
  have hm:(av .Mod (lk ((`cell,V.int c)::J) `cell) (av .Pow (pure (.int 10)) (pure (.int 7)))) (O++[.list (bt cs)])=some (iV (m7 c),O++[.list (bt cs)]):=JD (by simp(decide:=true) only[fZ,bM,if_true,Option.map_some]);show rW hm Dd
 show(lP (P:=λ_=>True) (l:=(gf cs).map iV) (λv=>(nC (cJ v)).map bh) u7 (rF _ _) trivial (by simp only[JH,bq,VG];lia) λv hv J aq _ ha=>?_).trans (by rw[JH]);show aj (cG hv) λm _ ay=>?_;subst ay;simp only[show cJ (iV m)=m from rfl,List.length_append,bq,show(nC m).length=2 from rfl]at ha;show aU (VF (O:=O++[.list (bt cs)]) (J:=(`n,iV m)::J) m (aq:=aq) `L (by simp(decide:=true) only[bM,if_true])) λaO e=>?_;show⟨aO,trivial,VH ?_⟩;show e
abbrev JI(F:aG):Prop:=∀(a b:Int) (O:Hp),F (.con (.type "range")) [.int a,.int b] [] O=some (.dU a b 1,O)
abbrev JJ(F:aG):Prop:=∀(O:Hp),F (.con (.type "list")) [.dU 65024 65040 1] [] O=some (bh (List.range' 65024 16),O)
def VJ:JI (aY K (n+1)):=λa b O=>TF a b O
def VK:JJ (aY K (n+1)):=λO=>by rfl
def VL(kb:KB K)(hR:JI F)(hL:JJ F):
  (av .Add (eC [(pure (.int 173)),(pure (.int 847)),(pure (.int 6150)),(pure (.int 6155)),(pure (.int 6156)),(pure (.int 6157)),(pure (.int 8203)),(pure (.int 8204)),(pure (.int 8205)),(pure (.int 8288)),(pure (.int 65279))]) (aL K F (gl K `list) [(aL K F (gl K `range) [(pure (.int 65024)),(pure (.int 65040))] [] [])] [] [])) O=some (bh dZ,O):=by
 have hr:aL K F (gl K `list) [(aL K F (gl K `range) [(pure (.int 65024)),(pure (.int 65040))] [] [])] [] [] O=some (bh (List.range' 65024 16),O):=by
  simp only[bZ kb.range,bZ kb.list,bF,mB,mA,Option.bind_some,(hR 65024 65040 O),(hL O)]
 change(aL K F (gl K `list) [(aL K F (gl K `range) [(pure (.int 65024)),(pure (.int 65040))] [] [])] [] []>>=λy=>fk .Add (bh [173,847,6150,6155,6156,6157,8203,8204,8205,8288,65279]) y) O=_;simp only[aK,hr];rfl
def VM(kb:KB K)(hR:mH F)(h1:J.lookup `last=some (iV ae)):eB [`last] (aL K F (gl K `range) [(pure (.int 5))] [] []) (bp (bf `k) (λJ=>[]) (bw λJ=>(av .LShift (pure (.int 1)) (av .Mod (av .Add (lk J `last) (av .Mult (av .Add (pure (.int 1)) (av .Mod (av .FloorDiv (lk J `last) (pure (.int 5))) (pure (.int 4)))) (lk J `k))) (pure (.int 5)))))) J O=some ((fU ae).map iV,O):=by
 have hx:aL K F (gl K `range) [(pure (.int 5))] [] [] O=some (.dU 0 ((5:Nat):Int) 1,O):=by
  simp only[bZ kb.range,bF,mB,mA,Option.bind_some,(hR 5 O)];rfl
 let f:V->List V:=λv=>[iV (2^((ae+(1+ae/5%4)*cJ v)%5))]
 show(lP (P:=λJ=>J.lookup `last=some (iV ae)) f hx ((mD 5 _).trans (az `D)) (iP h1 `D) (by rw[show(List.range 5).map (λk:Nat=>V.int (k:Int))=(List.range 5).map iV from rfl,(by rfl:((List.range 5).map iV).flatMap f=(fU ae).map iV)];unfold fU;simp) λv hv J aq hp ha=>?_).trans rfl;show aj (cG hv) λk hk ay=>?_;subst ay;have VN:k<5:=by simpa using hk
 show aA ((`k,.int k)::J) hp ?_;have Dd:aq.length<1000000:=by
  rw[show f (.int k)=[iV (2^((ae+(1+ae/5%4)*k)%5))]from rfl]at ha;simp at ha;show gM `A `D
 have f1:(ae:Int).fdiv 5=((ae/5:Nat):Int):=ox _ 5;have f2:((ae/5:Nat):Int).fmod 4=((ae/5%4:Nat):Int):=lb _ 4;have hq:ae/5%4<4:=Nat.mod_lt _ `D;have f3:(ae:Int)+(1+((ae/5%4:Nat):Int))*(k:Int)=((ae+(1+ae/5%4)*k:Nat):Int):=by
  rfl
 have f5:((ae+(1+ae/5%4)*k:Nat):Int).fmod 5=(((ae+(1+ae/5%4)*k)%5:Nat):Int):=lb _ 5;have f6:((ae+(1+ae/5%4)*k)%5)<5:=Nat.mod_lt _ `D;rw[show f (.int k)=[iV (2^((ae+(1+ae/5%4)*k)%5))]from rfl];generalize(ae+(1+ae/5%4)*k)%5=w at*;generalize(ae+(1+ae/5%4)*k)=w1 at*;generalize ae/5%4=w2 at*;generalize ae/5=w3 at*;unfold iV at hp;have fw:(1+(w2:Int)).natAbs<2^31:=(Nat.lt_of_lt_of_le (Nat.add_lt_add_left hq 1) `D:((1+w2:Nat):Int).natAbs<2^31);simp! only[hp,f1,f2,f3,f5,fw,(Nat.lt_trans VN `D:(k:Int).natAbs<2^31),(by lia:(w:Int)<=64),(by simp:(0:Int)<=(w:Int)),(by simp only[Int.toNat_natCast,Int.natCast_pow,Int.one_mul];rfl:(1:Int)*2^((w:Int).toNat)=((2^w:Nat):Int)),Dd]
def VO(l:List Nat)(h:l≠[])(hl:l.length<=1000000)(h1:J.lookup `whole=some (bE l)):(gu (lk J `whole) (pure .none) (kZ .USub (pure (.int 1)))) O=some (bE l.dropLast,O):=by
 unfold gu;simp only[aK,fZ,h1];show(FJ (x:=T l) (lo:= .none) (hi:= .int (-1)) (l:=none) (h:=some (-1)) rfl rfl (by simp;assumption)).trans ?_;rw[Vx l h];rfl
def VP:kG ns ae 7≠[]:=by
 intro h;have:(gV ns ae 6)=[]:=by
  rw[C5]at h;show(List.append_eq_nil_iff.mp h).2
 unfold gV oB at this;split at this<;>simp at this
def VQ(cs:List V):(j9 [`typed,`pairs,`whole] (dA [(ix []),(ix []),(pure (.str ("":Str)))]) J) (O++[.list cs])=some (((`whole,.str ("":Str))::(`pairs,.ref (O.length+2))::(`typed,.ref (O.length+1))::J,.next),eD O cs ns ae 0):=by
 have e:∀(ag:Hp),j9 [`typed,`pairs,`whole] (dA [(ix []),(ix []),(pure (.str ("":Str)))]) J ag=some (((`whole,.str ("":Str))::(`pairs,.ref (ag++[bx.list []]).length)::(`typed,.ref ag.length)::J,.next),ag++[bx.list []]++[bx.list []]):=λ_=>rfl;simp only[e];unfold eD;simp
def VR(kb:KB K)(hd:C3 (aY K (n+1)) a)(g1:c7 K "_law_sign" (.con (.ref a.sign)))(g2:c7 K "_law_written" (.con (.ref a.written)))(h:dH K a.drawn (bC 25) [])(sc:List Int)(gE:sc.length<=63)(O:Hp):
  ∃cs:List Int,cs.length=4/\aY K (n+2) (.con (.ref a.drawn)) [.lst (bt sc)] [] O=some (.tup [.ref (O.length+1),.ref (O.length+2),bE (kG (gf cs) (dQ cs) 7).dropLast,bh (fU (dQ cs)),iV (dQ cs/20%28)],eD O (bt cs) (gf cs) (dQ cs) 7):=by
 have main:a7 (aY K (n+2) (.con (.ref a.drawn)) [.lst (bt sc)] []) O λv aa=>∃cs:List Int,cs.length=4/\v= .tup [.ref (O.length+1),.ref (O.length+2),bE (kG (gf cs) (dQ cs) 7).dropLast,bh (fU (dQ cs)),iV (dQ cs/20%28)]/\aa=eD O (bt cs) (gf cs) (dQ cs) 7:=by
  rw[gU h];show gb h SY rfl (bT:=[("script",.lst (bt sc))]) rfl rfl ?_;show sq (o:=(((`cells,V.ref O.length)::[(`script,V.lst (bt sc))],.next),O++[.list (bt [100398,5525,76251,7541660])])) rfl ?_;show gv (VC kb oz JC sc (by show a9 `A `D) _ rfl rfl rfl _ λJ cs h4 tH=>?_);show sq (eE (VE cs h4 tH)) ?_;show sq (mE (VI cs h4 tH)) ?_;show sq (eE (VL kb VJ VK)) ?_;show sq (VQ (ns:=gf cs) (ae:=dQ cs) (bt cs)) ?_;show gv ?_;show tu (xs:= .dU 0 ((7:Nat):Int) 1) (l:=(List.range 7).map iV) (ag:=eD O (bt cs) (gf cs) (dQ cs) 0) (I:=Vr O (bt cs) (gf cs) (dQ cs)) ?_ ((mD 7 _).trans (az `D)) ⟨0,by simp,by simp,rfl,by rfl,by rfl,by rfl,by rfl,by rfl,by simp only[bM,if_false,if_true];rfl⟩ (λv aV J ag hI=>?_) λJ ag hI=>?_
  ·have e:=oz (K:=K) (n:=n) 7 (eD O (bt cs) (gf cs) (dQ cs) 0)
   simp only[bZ kb.range,bF,mB,mA,Option.bind_some,e];rfl
  ·show qA (hI) λk hk bP eW p1 p2 p3 p4 p5 p6=>?_;subst eW
   have bR:k<7:=by
    rcases Nat.lt_or_ge k 7 with h|h
    ·show h
    ·have:k=7:=by lia
     subst this;have:=aJ List.length bP;simp at this
   simp only[pB bR,List.map_cons]at bP;show aI (List.cons.inj bP) λbY aF=>?_;subst bY;subst aF;show aA ((`k,iV k)::J) rfl ?_;show Vs kb hd g1 g2 (by unfold gf;simp only[bq,List.length_take];lia:(gf cs).length=3) bR (bt cs) (by rfl) (by simp(decide:=true) only[bM,if_false,p1]) (by simp(decide:=true) only[bM,if_false,p2]) (by simp(decide:=true) only[bM,if_false,p3]) (by simp(decide:=true) only[bM,if_false,p4]) (by simp(decide:=true) only[bM,if_false,p5]) (by simp(decide:=true) only[bM,if_false,p6]) _ λaO q1 q2 q3 q4 q5 q6=>?_;show⟨k+1,bR,rfl,rfl,q1,q2,q3,q4,q5,q6⟩
  ·show qA (hI) λk hk bP eW p1 p2 p3 p4 p5 p6=>?_;subst eW
   have:k=7:=by
    rcases Nat.lt_or_ge k 7 with h|h
    ·simp only[pB h]at bP;simp at bP
    ·lia
   obtain rfl:=Eq.symm this;show c8 _ _ rfl ?_;show sq (mE (VM kb oz p1)) ?_;generalize VS:eD O (bt cs) (gf cs) (dQ cs) 7=aH;have w1:=VO (O:=aH) (J:=(`order,V.lst ((fU (dQ cs)).map iV))::J) _ (VP (ns:=gf cs) (ae:=dQ cs)) (by have:=yR (ae:=dQ cs) (by unfold gf;simp only[bq,List.length_take];lia:(gf cs).length=3) 7 `A;show a9 `A `D) p6;have l1:List.lookup `typed ((`order,V.lst ((fU (dQ cs)).map iV))::J)=some (.ref (O.length+1)):=(p4).trans rfl;have l2:List.lookup `pairs ((`order,V.lst ((fU (dQ cs)).map iV))::J)=some (.ref (O.length+2)):=p5;have l3:List.lookup `order ((`order,V.lst ((fU (dQ cs)).map iV))::J)=some (bh (fU (dQ cs))):=rfl;have l4:List.lookup `last ((`order,V.lst ((fU (dQ cs)).map iV))::J)=some (iV (dQ cs)):=(p1).trans rfl;have f1:((dQ cs:Nat):Int).fdiv 20=((dQ cs/20:Nat):Int):=ox _ 20;have f2:((dQ cs/20:Nat):Int).fmod 28=((dQ cs/20%28:Nat):Int):=lb _ 28;generalize(`order,V.lst ((fU (dQ cs)).map iV))::J=aO at*;show sq (o:=((aO,.ret (.tup [.ref (O.length+1),.ref (O.length+2),bE (kG (gf cs) (dQ cs) 7).dropLast,bh (fU (dQ cs)),iV (dQ cs/20%28)])),aH)) (je ?_) ?_
   ·have a5:(av .Mod (av .FloorDiv (lk aO `last) (pure (.int 20))) (pure (.int 28))) aH=some (iV (dQ cs/20%28),aH):=by
     generalize dQ cs/20%28=u at*;generalize dQ cs/20=u1 at*;simp! only[l4,f1,f2]
    unfold dA;simp only[aK,bF,fZ,l1,Option.map_some,Option.bind_some,bF,fZ,l2,Option.map_some,Option.bind_some,bF,w1,Option.bind_some,bF,fZ,l3,Option.map_some,Option.bind_some,bF,a5];rfl
   ·show⟨_,rfl,cs,h4,rfl,VS.symm⟩
 symm
 obtain⟨v,aa,e,cs,h4,rfl,rfl⟩:=main;left;show aA cs h4 e
abbrev nE:Str:="\n\t\r "
set_option genInjectivity false in
set_option genSizeOf false in
structure eQ where
 (L Ld Lp Tp Td pl:Nat)
abbrev eQ.all(x:eQ):List Nat:=[x.L,x.Ld,x.Lp,x.Tp,x.Td,x.pl]
structure ij(O:Hp)(a:Ad)(x:eQ)(ak:List Nat)(p:Nat)(line:Nat)(push:List V):Prop where
 inst:O[x.L]? =some (.inst a.da x.Ld)
 attrs:∃l,O[x.Ld]? =some (.attrs l)/\l.length<=20/\l.lookup `lineno=some (iV line)/\l.lookup `instream=some (.ref x.Tp)/\l.lookup `whitespace=some (.str nE)/\l.lookup `pushback=some (.ref x.Lp)/\
  l.lookup `_read_char=none/\l.lookup `get_token=none/\l.lookup `push_token=none
 push:O[x.Lp]? =some (.list push)
 yV:O[x.Tp]? =some (.inst a.da x.Td)
 De:∃l,O[x.Td]? =some (.attrs l)/\l.lookup `read=some (.fK [.str (T ak),.ref x.pl])
 place:O[x.pl]? =some (.list [iV p])
 ne:x.Lp≠x.pl
 ne2:x.Td≠x.Ld
def ij.same{O aa:Hp}{a:Ad}{x:eQ}{ak:List Nat}{p line:Nat}{push:List V}(h:ij O a x ak p line push)(e:∀i∈x.all,aa[i]? =O[i]?):ij aa a x ak p line push:=by
 symm
 obtain⟨h1,⟨l,h2,h3⟩,h4,h5,⟨l',h6,h7⟩,h8,h9,oa⟩:=h;left;have m:=λi hi=>e i (by unfold eQ.all;simpa using hi);show⟨(m _ `S).trans h1,(aA l ((m _ `S).trans h2) h3),(m _ `S).trans h4,(m _ `S).trans h5,(aA l' ((m _ `S).trans h6) h7),(m _ `S).trans h8,h9,oa⟩
def eK{O:Hp}{i j:Nat}{o o':bx}(h:O[i]? =some o)(h':O[j]? =some o')(hn:o≠o'):i≠j:=by
 rintro rfl;rw[h]at h';show hn (bN h')
def ij.VT{O:Hp}{a:Ad}{x:eQ}{ak:List Nat}{p line:Nat}{push:List V}(h:ij O a x ak p line push)(q:Nat):ij (O.set x.pl (.list [iV q])) a x ak q line push:=by
 symm
 obtain⟨h1,⟨l,h2,h3⟩,h4,h5,⟨l',h6,h7⟩,h8,h9,oa⟩:=h;left;have g:∀i o,O[i]? =some o->i≠x.pl->(O.set x.pl (.list [iV q]))[i]? =some o:=λi o e hi=>by show(List.getElem?_set_ne (Ne.symm hi)).trans e
 show⟨g _ _ h1 (eK h1 h8 `S),(aA l (g _ _ h2 (eK h2 h8 `S)) h3),g _ _ h4 h9,g _ _ h5 (eK h5 h8 `S),(aA l' (g _ _ h6 (eK h6 h8 `S)) h7),List.getElem?_set_self ((cQ h8).1:x.pl<O.length),h9,oa⟩
def ij.Df{O:Hp}{a:Ad}{x:eQ}{ak:List Nat}{p line:Nat}{push:List V}(h:ij O a x ak p line push)(q:List V):ij (O.set x.Lp (.list q)) a x ak p line q:=by
 symm
 obtain⟨h1,⟨l,h2,h3⟩,h4,h5,⟨l',h6,h7⟩,h8,h9,oa⟩:=h;left;have g:∀i o,O[i]? =some o->i≠x.Lp->(O.set x.Lp (.list q))[i]? =some o:=λi o e hi=>by show(List.getElem?_set_ne (Ne.symm hi)).trans e
 show⟨g _ _ h1 (eK h1 h4 `S),(aA l (g _ _ h2 (eK h2 h4 `S)) h3),List.getElem?_set_self ((cQ h4).1:x.Lp<O.length),g _ _ h5 (eK h5 h4 `S),(aA l' (g _ _ h6 (eK h6 h4 `S)) h7),g _ _ h8 (Ne.symm h9),h9,oa⟩
def ij.VU{O:Hp}{a:Ad}{x:eQ}{ak:List Nat}{p line:Nat}{push:List V}{l0:List (Str×V)}(h:ij O a x ak p line push)(e:O[x.Ld]? =some (.attrs l0))(q:Nat):ij (O.set x.Ld (.attrs (cw "lineno" (iV q) l0))) a x ak p q push:=by
 symm
 obtain⟨h1,⟨l,h2,h3⟩,h4,h5,⟨l',h6,h7⟩,h8,h9,oa⟩:=h;rw[e]at h2;cases h2;show EK (h3) λk1 k2 k3 k4 k5 k6 k7 k8=>?_;left;have g:∀i o,O[i]? =some o->i≠x.Ld->(O.set x.Ld (.attrs (cw "lineno" (iV q) l0)))[i]? =some o:=λi o e hi=>by show(List.getElem?_set_ne (Ne.symm hi)).trans e
 show⟨g _ _ h1 (eK h1 e `S),(bj _ (List.getElem?_set_self ((cQ e).1:x.Ld<O.length)) ?_ ?_),g _ _ h4 (eK h4 e `S),g _ _ h5 (eK h5 e `S),(aA l' (g _ _ h6 oa) h7),g _ _ h8 (eK h8 e `S),h9,oa⟩
 ·rw[pZ,k2];show k1
 ·simp(decide:=true) only[oY,if_true,if_false,k3,k4,k5,k6,k7,k8,and_self]
def VV(l:Option Int){j:Int}(len:Nat)(h:(len:Int)<=j):Builtin.Str.strSliceIndices l (some j) 1 len=Builtin.Str.strSliceIndices l (some (len:Int)) 1 len:=by
 simp[Builtin.Str.strSliceIndices,(by lia:¬(j<0)),(by simp:¬((len:Int)<0)),(by lia:min j (len:Int)=len)]
def VW(l:List Nat)(p:Nat)(h:p<=l.length):Txt.slice (T l) (some (p:Int)) (some ((p:Int)+1))=T ((l.drop p).take 1):=by
 have hl:(T l).cps.toList=l:=by unfold T;simp
 rw[(λa b=>by rfl:∀a b,Txt.slice (T l) a b=StrLaws.sliceText (T l) a b)];show Or.elim (Nat.lt_or_ge p l.length) (λh1=>?_) λh1=>?_
 ·rw[StrLaws.sliceText_plain (cW `S `L (by rw[hl];clear h;lia)),hl,Int.toNat_natCast,show((p:Int)+1-(p:Int)).toNat=1 from by simp];rfl
 ·have hp:p=l.length:=by lia
  clear h1;subst hp;have e3:StrLaws.sliceText (T l) (some (l.length:Int)) (some ((l.length:Int)+1))=StrLaws.sliceText (T l) (some (l.length:Int)) (some (l.length:Int)):=by
   unfold StrLaws.sliceText;rw[VV (j:=(l.length:Int)+1) _ _ (by rw[v3];lia),v3]
  rw[e3,StrLaws.sliceText_plain (cW `S `L (by rw[hl];lia)),hl,Int.toNat_natCast,Int.sub_self,List.drop_length];rfl
variable{x:eQ}{ak:List Nat}{p line pl:Nat}{push:List V}
def len_str{l:List Nat}(h:l.length<=1000000):aY K (n+1) (.con (.builtin "len")) [.str (T l)] [] O=some (.int (l.length:Int),O):=by
 change(if cg (T l)=true then pure (.int (T l).length)else au:M V) O=_;rw[az (by simp;assumption),v3];rfl
def VX(hl:ak.length<=1000)(hp:p<=ak.length)(bB:O[pl]? =some (.list [iV p]))(kb:KB K)(bV:∀(l:List Nat) (O:Hp),l.length<=1000000->F (.con (.builtin "len")) [.str (T l)] [] O=some (.int (l.length:Int),O)):
  a7 (IC K F [(`count,.int 1),(`text,.str (T ak)),(`place,.ref pl)]) O λq aa=>∃v,dF q.2=some v/\v= .str (T ((ak.drop p).take 1))/\aa=O.set pl (.list [iV (p+((ak.drop p).take 1).length)]):=by
 have eV:∀J:ab,J.lookup `place=some (.ref pl)->bl (lk J `place) (pure (.int 0)) O=some (iV p,O):=λJ h=>ig (u:= .ref pl) (w:=iV 0) (ic h) rfl (tL bB `S rfl);have hz:((ak.drop p).take 1).length<=1:=by rw[List.length_take];lia
 show sq (eE (v:= .str (T ((ak.drop p).take 1))) (ag:=O) ?_) ?_
 ·have hb:av .Add (bl (lk [(`count,.int 1),(`text,.str (T ak)),(`place,.ref pl)] `place) (pure (.int 0))) (lk [(`count,V.int 1),(`text,.str (T ak)),(`place,.ref pl)] `count) O=some (.int ((p:Int)+1),O):=by
   unfold av;simp only[aK,(eV [(`count,.int 1),(`text,.str (T ak)),(`place,.ref pl)] rfl)];rfl
  unfold gu;rw[aK,fZ];change(bl _ _>>=_) O=_;simp only[aK,(eV [(`count,.int 1),(`text,.str (T ak)),(`place,.ref pl)] rfl)];change(av .Add _ _>>=_) O=_;simp only[aK,hb];show(FJ (x:=T ak) (lo:= .int (p:Int)) (hi:= .int ((p:Int)+1)) (l:=some (p:Int)) (h:=some ((p:Int)+1)) rfl rfl (by simp;show a9 `A `D)).trans ?_;rw[VW ak p hp]
 generalize(ak.drop p).take 1=m at*;show sq (o:=(((`told,.str (T m))::[(`count,V.int 1),(`text,.str (T ak)),(`place,.ref pl)],.next),O.set pl (.list [iV (p+m.length)]))) ?_ ?_
 ·have h1:aL K F (gl K `len) [(lk ((`told,.str (T m))::[(`count,V.int 1),(`text,.str (T ak)),(`place,.ref pl)]) `told)] [] [] O=some (.int (m.length:Int),O):=by
   simp only[bZ kb.len,bF,fZ];show(bV m O (by show a9 `A `D))
  have hb:av .Add (bl (lk ((`told,.str (T m))::[(`count,V.int 1),(`text,.str (T ak)),(`place,.ref pl)]) `place) (pure (.int 0))) (aL K F (gl K `len) [(lk ((`told,.str (T m))::[(`count,V.int 1),(`text,.str (T ak)),(`place,.ref pl)]) `told)] [] []) O=some (iV (p+m.length),O):=by
   unfold av;simp only[aK,(eV ((`told,.str (T m))::[(`count,.int 1),(`text,.str (T ak)),(`place,.ref pl)]) rfl)];change(aL K F _ _ _ _>>=_) O=_;simp only[aK,h1];rfl
  have hs:mu (.ref pl) (.int 0) (iV (p+m.length)) O=some ((),O.set pl (.list [iV (p+m.length)])):=by
   show GP bB ⟨by decide,by change(0:Int)<((1:Nat):Int);decide,by change(1:Nat)<=1000000;decide⟩
  show sX hb (sX (a:= .ref pl) rfl (sX rfl (sX hs rfl)))
 ·change a7 _ _ _
  show sq (o:=(((`told,.str (T m))::[(`count,V.int 1),(`text,.str (T ak)),(`place,.ref pl)],.ret (.str (T m))),O.set pl (.list [iV (p+m.length)]))) rfl (bj _ rfl rfl rfl)
def VY(kb:KB K)(hl:ak.length<=1000)(hp:p<=ak.length)(bB:O[pl]? =some (.list [iV p])):
  aY K (n+2) (.fK [.str (T ak),.ref pl]) [.int 1] [] O=some (.str (T ((ak.drop p).take 1)),O.set pl (.list [iV (p+((ak.drop p).take 1).length)])):=by
 symm
 obtain⟨q,aa,e1,v,e2,rfl,rfl⟩:=VX (K:=K) (F:=aY K (n+1)) hl hp bB kb (λl O h=>len_str h);left;change(if BU tr [.str (T ak),.ref pl]=true then(do
  let bT<-bJ (iN Ic [] [V.int 1] [])
  if(bT.all λp=>cR tr p.1)=true then do
   let r<-cz K (aY K (n+1)) tr readBody (bT.reverse++oN.zip [V.str (T ak),.ref pl])
   bJ (dF r.2)
  else au)else au:M V) O=_
 rw[az (by kernel_rfl),aK,fY,show iN Ic [] [.int 1] []=some [(`count,V.int 1)]from rfl];change(if([(`count,V.int 1)].all λp=>cR tr p.1)=true then(do
   let r<-cz K (aY K (n+1)) tr readBody [(`count,.int 1),(`text,.str (T ak)),(`place,.ref pl)]
   bJ (dF r.2))else au:M V) O=_
 rw[az (by rfl)];simp only[Ts,aK,e1];change bJ (dF q.2) _=_;show aJ _ e2
structure NK(K:W.Frag)(a:Ad):Prop where
 glob:c7 K "_netrclex" (.con (.ref a.da))
 Dg:iI K≠some a.da/\fM K a.da=none
 init:W.findIn K (.ref a.da) "__init__"=some (some (.ref a.yC))/\W.makesIn K a.da=true/\W.typeIn K (.ref a.yC)=some (.type "function")
 Dh:dH K a.yC (dG 10 0) []
 rd:nr K a.da "_read_char" a.jw
 JK:dH K a.jw (dG 10 1) []
 tok:nr K a.da "get_token" a.tx
 yW:dH K a.tx (dG 10 2) []
 wx:nr K a.da "push_token" a.v8
 JL:dH K a.v8 (dG 10 3) []
 wz:pw K a.da "lineno"
 JM:pw K a.da "instream"
 whitespace:pw K a.da "whitespace"
 JN:pw K a.da "pushback"
 read:pw K a.da "read"
 VZ:W.findIn K (.ref a.da) "read"=some none
abbrev de(O:Hp)(a:Ad)(x:eQ)(ak r:List Nat)(push:List V)(N:Nat):Prop:=∃p line,ij O a x ak p line push/\ak.drop p=r/\p<=ak.length/\line+r.count 10=N
abbrev ek(S:List Nat)(O aa:Hp):Prop:=O.length<=aa.length/\∀i,i<O.length->i∉S->aa[i]? =O[i]?
def ek.refl(S:List Nat)(O:Hp):ek S O O:=⟨Nat.le_refl _,λ_ _ _=>rfl⟩
def ek.trans{S:List Nat}{O ag aH:Hp}(h:ek S O ag)(k:ek S ag aH):ek S O aH:=⟨a9 h.1 k.1,λi hi hn=>(k.2 i (Nat.lt_of_lt_of_le hi h.1) hn).trans (h.2 i hi hn)⟩
def ek.more{S S':List Nat}{O ag:Hp}(h:ek S O ag)(hs:∀i∈S,i∈S'):ek S' O ag:=⟨h.1,λi hi hn=>h.2 i hi λq=>hn (hs i q)⟩
def ek.set{S:List Nat}{O:Hp}{i:Nat}{o:bx}(h:i∈S):ek S O (O.set i o):=⟨by simp only[List.length_set];show Nat.le_refl _,λj _ hn=>by rw[List.getElem?_set_ne];rintro rfl;show hn h⟩
def ek.app{S:List Nat}{O l:Hp}:ek S O (O++l):=⟨by simp,λi hi _=>il hi⟩
def ek.at{S:List Nat}{O aa:Hp}{i:Nat}{o:bx}(h:ek S O aa)(e:O[i]? =some o)(hn:i∉S):aa[i]? =some o:=(h.2 i (cQ e).1 hn).trans e
variable{r:List Nat}{N:Nat}
def ij.cY(h:ij O a x ak p line push):∃l,Mine.cY O x.L=some (a.da,x.Ld,l)/\O[x.Ld]? =some (.attrs l)/\l.length<=20/\l.lookup `lineno=some (iV line)/\l.lookup `instream=some (.ref x.Tp)/\l.lookup `whitespace=some (.str nE)/\l.lookup `pushback=some (.ref x.Lp)/\
  l.lookup `_read_char=none/\l.lookup `get_token=none/\l.lookup `push_token=none:=by
 show aj h.attrs λl h1 h2=>?_;show bj l ?_ h1 h2;unfold Mine.cY;rw[h.inst];dsimp only;rw[h1]
def ij.V0(h:ij O a x ak p line push):∃l,Mine.cY O x.Tp=some (a.da,x.Td,l)/\l.lookup `read=some (.fK [.str (T ak),.ref x.pl]):=by
 show aj h.De λl h1 h2=>?_;show aA l ?_ h2;unfold Mine.cY;rw[h.yV];dsimp only;rw[h1]
abbrev qt(c:List Nat):Nat:=if c=[10]then 1 else 0
abbrev V1(F:aG)(ak:List Nat)(pl:Nat):Prop:=∀(p:Nat) (O:Hp),p<=ak.length->O[pl]? =some (.list [iV p])->F (.fK [.str (T ak),.ref pl]) [.int 1] [] O=some (.str (T ((ak.drop p).take 1)),O.set pl (.list [iV (p+((ak.drop p).take 1).length)]))
def V2(hn:NK K a)(h:ij O a x ak p line push):gR K (.ref x.Tp) "read" O=some ((.fK [.str (T ak),.ref x.pl],[]),O):=by
 show aj h.V0 λl h1 h2=>?_;change og K (.ref x.Tp) "read" O=_;unfold og;dsimp only;rw[h.yV];rw[h1];dsimp only;rw[az hn.read.get,h2];dsimp only;rw[az hn.VZ,(nz hn.read h1 h2 rfl:ju K (.ref x.Tp) "read" O=some (.fK [.str (T ak),.ref x.pl],O))]
def V3(hn:NK K a)(hp:p<=ak.length)(h:ij O a x ak p line push)(hR:V1 F ak x.pl):
  a7 (Ir K F [(`self,.ref x.L)]) O λq aa=>∃v,dF q.2=some v/\v= .str (T ((ak.drop p).take 1))/\ij aa a x ak (p+((ak.drop p).take 1).length) (line+qt ((ak.drop p).take 1)) push/\ek [x.Ld,x.pl] O aa/\aa.length=O.length:=by
 have h1:=h.VT (p+((ak.drop p).take 1).length);have C7:ek [x.Ld,x.pl] O (O.set x.pl (.list [iV (p+((ak.drop p).take 1).length)])):=ek.set `S;have yT:(O.set x.pl (.list [iV (p+((ak.drop p).take 1).length)])).length=O.length:=List.length_set
 symm
 show zV (h.cY) λl i1 i2 i3 i4 i5 i6 i7 i8=>?_;left;show sq (eE (v:= .str (T ((ak.drop p).take 1))) (ag:=O.set x.pl (.list [iV (p+((ak.drop p).take 1).length)])) ?_) ?_
 ·rw[ke (v:= .ref x.Tp) (ag:=O) (mI (ag:=O) (name:="instream") rfl (nz hn.JM i1 i5 rfl)) (V2 hn h) rfl,bF]
  show(hR p O hp h.place)
 generalize(ak.drop p).take 1=m at*;generalize O.set x.pl (.list [iV (p+m.length)])=ag at*;by_cases hm:m=[10]
 ·have ht:(aQ K (lk ((`ch,V.str (T m))::[(`self,.ref x.L)]) `ch) [.Eq] [(pure (.str ("\n":Str)))]) ag=some (true,ag):=by
   have:(T m==("\n":Str))=true:=by rw[hm];rfl
   simp! only[this]
  symm
  show zV (h1.cY) λl' j1 j2 j3 j4 j5 j6 j7 j8=>?_;left;have V4:Cx K (lk ((`ch,V.str (T m))::[(`self,.ref x.L)]) `self) "lineno" .Add (pure (.int 1)) ((`ch,V.str (T m))::[(`self,.ref x.L)]) ag=some (((`ch,V.str (T m))::[(`self,.ref x.L)],.next),ag.set x.Ld (.attrs (cw "lineno" (iV (line+1)) l'))):=by
   have e2:lL K (.ref x.L) "lineno" (iV (line+1)) ag=some ((),ag.set x.Ld (.attrs (cw "lineno" (iV (line+1)) l'))):=by
    show GL j1 ⟨hn.wz.set,by show a9 `A `D⟩
   have e3:kK .Add (iV line) (.int 1)=pure (iV (line+1)):=by
    rfl
   unfold Cx;rw[aK,fZ];change(ju K (.ref x.L) "lineno">>=_) ag=_;rw[aK,(nz hn.wz j1 j4 rfl:ju K (.ref x.L) "lineno" ag=some (iV line,ag))];change((pure (V.int 1):M V)>>=_) ag=_;rw[aK];change(kK .Add (iV line) (.int 1)>>=_) ag=_;rw[aK,e3];change(lL K (.ref x.L) "lineno" (iV (line+1))>>=_) ag=_;simp only[aK,e2];rfl
  show gv (iz (o:=(((`ch,V.str (T m))::[(`self,.ref x.L)],.next),ag.set x.Ld (.attrs (cw "lineno" (iV (line+1)) l')))) ?_ ?_)
  ·rw[kh ht]
   show(dn V4).trans rfl
  ·change a7 _ _ _
   show sq (o:=(((`ch,V.str (T m))::[(`self,.ref x.L)],.ret (.str (T m))),_)) rfl (sC _ rfl rfl ?_ (C7.trans (ek.set (.head _))) (by rw[List.length_set];show yT));have:qt m=1:=by unfold qt;show az hm
   simp only[this];show h1.VU j2 (line+1)
 ·have ht:(aQ K (lk ((`ch,V.str (T m))::[(`self,.ref x.L)]) `ch) [.Eq] [(pure (.str ("\n":Str)))]) ag=some (false,ag):=by
   have:(T m==("\n":Str))=false:=by rw[beq_eq_false_iff_ne,show("\n":Str)=T [10]from rfl];intro q;show hm (yA q)
   simp! only[this]
  show gv (iz (o:=(((`ch,V.str (T m))::[(`self,.ref x.L)],.next),ag)) (gw ht) ?_);show sq (o:=(((`ch,V.str (T m))::[(`self,.ref x.L)],.ret (.str (T m))),_)) rfl (sC _ rfl rfl ?_ C7 yT);have:qt m=0:=by unfold qt;show(aN hm).trans rfl
  simp only[this];show h1
abbrev lV(F:aG)(a:Ad)(x:eQ)(ak:List Nat):Prop:=∀(r:List Nat) (push:List V) (N:Nat) (O:Hp),de O a x ak r push N->∃aa,F (.con (.ref a.jw)) [.ref x.L] [] O=some (.str (T (r.take 1)),aa)/\F (.dO (.ref a.jw) (.ref x.L)) [] [] O=some (.str (T (r.take 1)),aa)/\
 de aa a x ak (r.drop 1) push N/\ek [x.Ld,x.pl] O aa/\aa.length=O.length
def V5(kb:KB K)(hn:NK K a)(hl:ak.length<=1000):lV (aY K (n+3)) a x ak:=λr push N O yX=>dg yX λp line h h1 h2 h3=>by
 clear yX;show zW (gb (n:=n+2) (O:=O) (vs:=[.ref x.L]) (aC:=[]) (Q:=λv aa=>v= .str (T ((ak.drop p).take 1))/\ij aa a x ak (p+((ak.drop p).take 1).length) (line+qt ((ak.drop p).take 1)) push/\ek [x.Ld,x.pl] O aa/\aa.length=O.length) hn.JK Tb rfl (bT:=[("self",.ref x.L)]) rfl rfl (V3 hn h2 h λp O hp bB=>VY kb hl hp bB)) λv aa e eW e2 e3 e4=>?_;subst eW;rw[h1]at e e2;show sC aa ((gU hn.JK).symm▸e) (by show e) (fC _ _ e2 ?_ ?_ ?_) e3 e4
 ·rw[<-List.drop_drop,h1]
  cases r with
  |nil=>rfl
  |cons c r=>rfl
 ·have:r.length=ak.length-p:=by simp only[<-h1,List.length_drop]
  rw[List.length_take];show a9 (Nat.add_le_add_left (Nat.min_le_right _ _) _) (Nat.le_of_eq (by rw[this];show Nat.add_sub_cancel' `A))
 ·cases r with
  |nil=>show h3
  |cons c r=>
   simp only[<-h3];change line+qt [c]+r.count 10=_;unfold qt;simp only[List.count_cons];by_cases hc:c=10
   ·subst hc;simp;lia
   ·have:[c]≠[10]:=by simpa using hc
    rw[aN this];have:(c==10)=false:=by simpa using hc
    rw[this];rfl
abbrev rX(stop:Nat->Bool):Bool->List Nat->List Nat×List Nat
 |_,[]=>([],[])
 |true,c::r=>(c::(rX stop false r).1,(rX stop false r).2)
 |false,c::r=>if stop c=true then([],r)else if c=92 then rX stop true r else(c::(rX stop false r).1,(rX stop false r).2)
abbrev cP(stop:Nat->Bool)(l:List Nat):List Nat×List Nat:=rX stop false l
abbrev wA(stop:Nat->Bool):Bool->List Nat->Bool
 |_,[]=>false
 |true,_::r=>wA stop false r
 |false,c::r=>if stop c=true then true else if c=92 then wA stop true r else wA stop false r
abbrev mK(stop:Nat->Bool)(l:List Nat):Bool:=wA stop false l
def oE{stop:Nat->Bool}{c:Nat}{r:List Nat}:cP stop (c::r)=if stop c=true then([],r)else if c=92 then rX stop true r else(c::(cP stop r).1,(cP stop r).2):=rfl
def yY{stop:Nat->Bool}{c:Nat}{r:List Nat}:mK stop (c::r)=if stop c=true then true else if c=92 then wA stop true r else mK stop r:=rfl
variable{cH:Hp}{stop:Nat->Bool}
abbrev gY(a:Ad)(x:eQ)(live:Bool):bx:= .iq (.dO (.ref a.jw) (.ref x.L)) "" live
structure RS(cH O:Hp)(a:Ad)(x:eQ)(ak r:List Nat)(push:List V)(N j:Nat)(live:Bool):Prop where
 lex:de O a x ak r push N
 it:O[j]? =some (gY a x live)
 same:ek [x.Ld,x.pl,j] cH O
def Di{o:bx}(h:de O a x ak r push N)(e:O[j]? =some (gY a x true)):j∉x.all:=by
 show br h λp line h _=>?_;show aj h.attrs λl h2 _=>?_;show aj h.De λl' h3 _=>?_;unfold eQ.all;simp only[List.mem_cons,List.not_mem_nil,or_false,not_or];show EM (eK e h.inst (by unfold gY;simp)) (eK e h2 (by unfold gY;simp)) (eK e h.push (by unfold gY;simp)) (eK e h.yV (by unfold gY;simp)) (eK e h3 (by unfold gY;simp)) (eK e h.place (by unfold gY;simp))
def de.same(h:de O a x ak r push N)(e:∀i∈x.all,aa[i]? =O[i]?):de aa a x ak r push N:=by
 show br h λp line h k=>?_;show c8 p line (h.same e) k
def RS.read(hC:lV F a x ak)(h:RS cH O a x ak r push N j true):∃aa,F (.con (.ref a.jw)) [.ref x.L] [] O=some (.str (T (r.take 1)),aa)/\RS cH aa a x ak (r.drop 1) push N j true:=by
 show l8 (hC r push N O h.lex) λaa e1 _ e3 e4 e5=>?_;show⟨aa,e1,e3,?_,h.same.trans (e4.more `S)⟩;have hj:=Di (o:=gY a x true) h.lex h.it;show e4.at h.it (by unfold eQ.all at hj;simp at hj|-;show⟨hj.2.1,hj.2.2.2.2.2⟩)
def RS.next(hn:NK K a)(hC:lV F a x ak){c:Nat}(h:RS cH O a x ak (c::r) push N j true):∃aa,fq K F (.ref j) O=some (some (.str (T [c]),.ref j),aa)/\RS cH aa a x ak r push N j true:=by
 show l8 (hC _ push N O h.lex) λaa e1 e2 e3 e4 e5=>?_;have hj:=Di (o:=gY a x true) h.lex h.it;have h':=e4.at h.it (by unfold eQ.all at hj;simp at hj|-;show⟨hj.2.1,hj.2.2.2.2.2⟩);show⟨aa,?_,e3,h',h.same.trans (e4.more `S)⟩;change qM K F j O=_;show ob (uR h.it) ((az rfl).trans ((az (show jN K (.dO (.ref a.jw) (.ref x.L))=true from hn.rd.bound)).trans (ob e2 (ob rfl (ob (uR h') ((az rfl).trans (az (show jN K (.dO (.ref a.jw) (.ref x.L))=true from hn.rd.bound))))))))
def RS.ends(hn:NK K a)(hC:lV F a x ak)(h:RS cH O a x ak [] push N j true):∃aa,fq K F (.ref j) O=some (none,aa)/\RS cH aa a x ak [] push N j false:=by
 show l8 (hC _ push N O h.lex) λaa e1 e2 e3 e4 e5=>?_;have hj:=Di (o:=gY a x true) h.lex h.it;have h':=e4.at h.it (by unfold eQ.all at hj;simp at hj|-;show⟨hj.2.1,hj.2.2.2.2.2⟩);show⟨aa.set j (gY a x false),?_,e3.same λi hi=>?_,List.getElem?_set_self ((cQ h').1:j<aa.length),(h.same.trans (e4.more `S)).trans (ek.set `S)⟩
 ·change qM K F j O=_
  show ob (uR h.it) ((az rfl).trans ((az (show jN K (.dO (.ref a.jw) (.ref x.L))=true from hn.rd.bound)).trans (ob e2 (ob rfl (ob (uR h') ((az rfl).trans (az (show jN K (.dO (.ref a.jw) (.ref x.L))=true from hn.rd.bound))))))))
 ·rw[List.getElem?_set_ne]
  rintro rfl;show hj hi
def RS.dead(h:RS cH O a x ak r push N j false):fq K F (.ref j) O=some (none,O):=by
 change qM K F j O=_;show ob (uR h.it) (aN g0)
abbrev iF(J:ab)(a:Ad)(x:eQ)(j:Nat)(tok:List Nat):Prop:=J.lookup `token=some (.str (T tok))/\J.lookup `self=some (.ref x.L)/\J.lookup `fiter=some (.ref j)
structure BodyOk(body:ab->M (ab×Fl))(F:aG)(a:Ad)(x:eQ)(ak:List Nat)(j:Nat)(stop:Nat->Bool):Prop where
 halt:∀c J tok O cH r push N,stop c=true->iF J a x j tok->RS cH O a x ak r push N j true->∃aO,body ((`ch,.str (T [c]))::J) O=some ((aO,.ret (.str (T tok))),O)
 go:∀c J tok O cH r push N,stop c=false->c≠92->tok.length<=5000->iF J a x j tok->RS cH O a x ak r push N j true->∃aO,body ((`ch,.str (T [c]))::J) O=some ((aO,.next),O)/\iF aO a x j (tok++[c])
 JO:∀J tok O cH r push N,stop 92=false->tok.length<=5000->iF J a x j tok->RS cH O a x ak r push N j true->∃aO aa,body ((`ch,.str (T [92]))::J) O=some ((aO,.next),aa)/\iF aO a x j (tok++r.take 1)/\RS cH aa a x ak (r.drop 1) push N j true
def yZ{nx:It->M (Option (V×It))}{body:V->ab->M (ab×Fl)}{it cX:It}{u:V}{bD:Nat}{aH:Hp}(h:nx it O=some (some (u,cX),ag))(h2:body u J ag=some ((a6,.next),aH)):fQ nx body (bD+1) it J O=fQ nx body bD cX a6 aH:=by
 change(nx it>>=_) O=_;rw[aK,h];change(body u J>>=_) ag=_;rw[aK,h2];rfl
def V6{nx:It->M (Option (V×It))}{body:V->ab->M (ab×Fl)}{it cX:It}{u:V}{bD:Nat}{aH:Hp}(h:nx it O=some (some (u,cX),ag))(h2:body u J ag=some ((a6,.cont),aH)):fQ nx body (bD+1) it J O=fQ nx body bD cX a6 aH:=by
 change(nx it>>=_) O=_;rw[aK,h];change(body u J>>=_) ag=_;rw[aK,h2];rfl
def JP{nx:It->M (Option (V×It))}{body:V->ab->M (ab×Fl)}{it cX:It}{u t:V}{bD:Nat}{aH:Hp}(h:nx it O=some (some (u,cX),ag))(h2:body u J ag=some ((a6,.ret t),aH)):fQ nx body (bD+1) it J O=some ((a6,some (.ret t)),aH):=by
 change(nx it>>=_) O=_;rw[aK,h];change(body u J>>=_) ag=_;rw[aK,h2];rfl
def y0{nx:It->M (Option (V×It))}{body:V->ab->M (ab×Fl)}{it:It}{bD:Nat}(h:nx it O=some (none,ag)):fQ nx body (bD+1) it J O=some ((J,none),ag):=by
 change(nx it>>=_) O=_;rw[aK,h];rfl
noncomputable abbrev rY(body:ab->M (ab×Fl)):V->ab->M (ab×Fl):=λv J=>do let a6<-bJ (bf `ch v J);body a6
def rZ(body:ab->M (ab×Fl))(v:V)(J:ab)(O:Hp):rY body v J O=body ((`ch,v)::J) O:=by
 rfl
def y4{body:ab->M (ab×Fl)}(hn:NK K a)(hC:lV F a x ak)(hB:BodyOk body F a x ak j stop):∀(m:Nat) (r:List Nat) (bD:Nat) (J:ab) (tok:List Nat) (O:Hp),r.length<=m->m<bD->tok.length+m<=5000->iF J a x j tok->RS cH O a x ak r push N j true->
  ∃aO aa,(mK stop r=true/\fQ (fq K F) (rY body) bD (.ref j) J O=some ((aO,some (.ret (.str (T (tok++(cP stop r).1))))),aa)/\RS cH aa a x ak (cP stop r).2 push N j true)\/
   (mK stop r=false/\fQ (fq K F) (rY body) bD (.ref j) J O=some ((aO,none),aa)/\iF aO a x j (tok++(cP stop r).1)/\(cP stop r).2=[]/\RS cH aa a x ak [] push N j false)
 |m,r,0,_,_,_,_,h,_,_,_=>absurd h (Nat.not_lt_zero _)
 |m,[],bD+1,J,tok,O,_,_,_,ht,h=>by
  show aj (h.ends hn hC) λaa e h'=>?_;show gk J aa (.inr (zU rfl (y0 e) (by change iF J a x j (tok++[]);simp only[List.append_nil];show ht) rfl h'))
 |0,c::r,bD+1,_,_,_,h,_,_,_,_=>absurd h `S
 |m+1,c::r,bD+1,J,tok,O,hm,hf,hl,ht,h=>by
  show aj (h.next hn hC) λag e h1=>?_;simp only[List.length_cons]at hm;by_cases hs:stop c=true
  ·show aU (hB.halt c J tok ag cH r push N hs ht h1) λaO eb=>?_
   have w:cP stop (c::r)=([],r):=oE.trans (az hs);have w2:mK stop (c::r)=true:=yY.trans (az hs);rw[w,w2];show gk aO ag (.inl ⟨rfl,by rw[List.append_nil];show JP e ((rZ _ _ _ _).trans eb),h1⟩)
  ·by_cases ll:c=92
   ·subst ll
    show ck (hB.JO J tok ag cH r push N (by simpa using hs) `L ht h1) λaO aH eb ou h2=>?_;induction r with
    |nil=>
     have w:cP stop [92]=([],[]):=oE.trans<|(aN hs).trans (az rfl);have w2:mK stop [92]=false:=yY.trans<|(aN hs).trans (az rfl);rw[w,w2];simp only[List.take_nil,List.append_nil]at ou;show fg (y4 hn hC hB m [] bD aO tok aH `S `L (by show Nat.le_of_lt `A) ou h2) λwB jb hh=>?_
     symm
     rcases hh with⟨q,_⟩|⟨_,q2,q3,q4,q5⟩
     ·left
      cases q
     ·left
      show gk wB jb (.inr (zU rfl ?_ q3 rfl q5));show(yZ e ((rZ _ _ _ _).trans eb)).trans q2
    |cons d r=>
     have w:cP stop (92::d::r)=(d::(cP stop r).1,(cP stop r).2):=oE.trans<|(aN hs).trans (az rfl);have w2:mK stop (92::d::r)=mK stop r:=yY.trans<|(aN hs).trans (az rfl);rw[w,w2];simp only[List.length_cons]at hm;show fg (y4 hn hC hB m r bD aO (tok++[d]) aH `L `L (by simp;lia) ou h2) λwB jb hh=>?_;rw[List.append_assoc]at hh;show gk wB jb ?_;show(yZ e ((rZ _ _ _ _).trans eb))▸(hh)
   ·show aj (hB.go c J tok ag cH r push N (by simpa using hs) ll `L ht h1) λaO eb ou=>?_
    rw[show cP stop (c::r)=(c::(cP stop r).1,(cP stop r).2)from oE.trans ((aN hs).trans (aN ll)),show mK stop (c::r)=mK stop r from yY.trans ((aN hs).trans (aN ll))];show fg (y4 hn hC hB m r bD aO (tok++[c]) ag `L `L (by simp;lia) ou h1) λwB jb hh=>?_;rw[List.append_assoc]at hh;show gk wB jb ?_;show(yZ e ((rZ _ _ _ _).trans eb))▸(hh)
abbrev dE(c:Nat):Bool:=[10,9,13,32].contains c
abbrev jh(c:Nat):Bool:=c==34
abbrev dI(r:List Nat):List Nat×List Nat:=match r.dropWhile dE with
 |[]=>([],[])
 |c::r'=>if c=34 then cP jh r' else if c=92 then(match r' with
   |[]=>([],[])
   |d::JQ=>(d::(cP dE JQ).1,(cP dE JQ).2))
  else(c::(cP dE r').1,(cP dE r').2)
def r0{m:M (ab×Fl)}{k:ab->M (ab×Fl)}{u:V}(h:m O=some ((a6,.ret u),ag)):ar m k O=some ((a6,.ret u),ag):=by
 unfold ar;rw[aK,h];rfl
def V7{m:M (ab×Fl)}{k:ab->M (ab×Fl)}(h:m O=some ((a6,.cont),ag)):ar m k O=some ((a6,.cont),ag):=by
 unfold ar;rw[aK,h];rfl
abbrev Dj(K:W.Frag)(F:aG)(J:ab):M (ab×Fl):=bH `ch (a4 K F (lk J `self) `_read_char [] [] []) J
abbrev r6(K:W.Frag)(F:aG)(t:ab->M Bool)(J:ab):M (ab×Fl):=ar (c6 (t J) (ar (cK (lk J `token) J) λJ=>aE J) (ar (c6 (aQ K (lk J `ch) [.Eq] [(pure (.str ("\\":Str)))]) (ar (Dj K F J) λJ=>aE J) (aE J)) λJ=>aE J)) λJ=>ar (lO `token .Add (lk J `ch) J) λJ=>aE J
def V8(hn:NK K a)(h:de O a x ak r push N):gR K (.ref x.L) "_read_char" O=some ((.con (.ref a.jw),[.ref x.L]),O):=by
 symm
 show br h λp line h _=>?_;show qA (h.cY) λl i1 i2 i3 i4 i5 i6 i7 i8 _=>?_;left;show qn hn.rd i1 i8
def JR(hn:NK K a)(hC:lV F a x ak)(hs:J.lookup `self=some (.ref x.L))(h:RS cH O a x ak r push N j true):∃aa,Dj K F J O=some (((`ch,.str (T (r.take 1)))::J,.next),aa)/\RS cH aa a x ak (r.drop 1) push N j true:=by
 show aj (h.read hC) λaa e h'=>?_;show aA aa (eE ?_) h';rw[ke (v:= .ref x.L) (ag:=O) (ic hs) (V8 hn h.lex) hn.rd.keep,mB];show e
def y5{tok m:List Nat}(h1:J.lookup `token=some (.str (T tok)))(h2:J.lookup `ch=some (.str (T m)))(hl:tok.length<=5000)(hm:m.length<=5000):lO `token .Add (lk J `ch) J O=some (((`token,.str (T (tok++m)))::J,.next),O):=by
 have q1:cg (T tok)=true:=by simp;lia
 simp! only[h1,h2,q1,(by simp;lia:cg (T m)=true),rC]
def JS(hn:NK K a)(hC:lV F a x ak){t:ab->M Bool}(ht:∀c J tok O cH r push N,J.lookup `ch=some (.str (T [c]))->iF J a x j tok->RS cH O a x ak r push N j true->t J O=some (stop c,O)):BodyOk (r6 K F t) F a x ak j stop where
 halt c J tok O cH r push N hs hi h:=by
  symm
  show iS hi λi1 i2 i3=>?_;left;have nR:iF ((`ch,.str (T [c]))::J) a x j tok:=⟨by show i1,by show i2,by show i3⟩;have e:=ht c _ tok O cH r push N (by rfl) nR h;rw[hs]at e;show⟨(`ch,.str (T [c]))::J,?_⟩;show r0 (by rw[kh e];show r0 (je (ic nR.1)))
 go c J tok O cH r push N hs ll hl hi h:=by
  show iS hi λi1 i2 i3=>?_;have nR:iF ((`ch,.str (T [c]))::J) a x j tok:=⟨by show(i1).trans rfl,by show i2,by show i3⟩;have e:=ht c _ tok O cH r push N (by rfl) nR h;rw[hs]at e;have e2:(aQ K (lk ((`ch,V.str (T [c]))::J) `ch) [.Eq] [(pure (.str ("\\":Str)))]) O=some (false,O):=by
   have:(T [c]==("\\":Str))=false:=by rw[beq_eq_false_iff_ne,show("\\":Str)=T [92]from rfl];intro q;have:=yA q;simp at this;show ll this
   simp! only[this]
  show aA ((`token,.str (T (tok++[c])))::(`ch,.str (T [c]))::J) ?_ (cW (by rfl) i2 i3);show(dn (a6:=(`ch,.str (T [c]))::J) (ag:=O) ?_).trans ?_
  ·rw[gw e]
   show(dn (gw e2)).trans rfl
  ·show(dn (y5 (tok:=tok) (m:=[c]) nR.1 (by rfl) hl `S)).trans rfl
 JO J tok O cH r push N hs hl hi h:=by
  have nR:iF ((`ch,.str (T [92]))::J) a x j tok:=cW hi.1 hi.2.1 hi.2.2;have e:=ht 92 _ tok O cH r push N (by rfl) nR h;rw[hs]at e;have e2:(aQ K (lk ((`ch,V.str (T [92]))::J) `ch) [.Eq] [(pure (.str ("\\":Str)))]) O=some (true,O):=by
   rfl
  show aj (JR (J:=(`ch,.str (T [92]))::J) hn hC nR.2.1 h) λaa e3 h'=>?_;show cF ((`token,.str (T (tok++r.take 1)))::(`ch,.str (T (r.take 1)))::(`ch,.str (T [92]))::J) aa ?_ (cW (by rfl) hi.2.1 hi.2.2) h';show(dn (a6:=(`ch,.str (T (r.take 1)))::(`ch,.str (T [92]))::J) (ag:=aa) ?_).trans ?_
  ·rw[gw e]
   show(dn (a6:=(`ch,.str (T (r.take 1)))::(`ch,.str (T [92]))::J) (ag:=aa) ?_).trans rfl;rw[kh e2];show(dn e3).trans rfl
  ·show(dn (y5 (tok:=tok) (m:=r.take 1) (by simp(decide:=true) only[bM,if_false,hi.1]) (by rfl) hl (by rw[List.length_take];lia))).trans rfl
abbrev wC(K:W.Frag)(J:ab):M Bool:=aQ K (lk J `ch) [.Eq] [(pure (.str ("\"":Str)))]
abbrev tM(K:W.Frag)(J:ab):M Bool:=aQ K (lk J `ch) [.In] [(d9 K (lk J `self) `whitespace)]
def JT{c:Nat}(h:J.lookup `ch=some (.str (T [c]))):wC K J O=some (jh c,O):=by
 have:(T [c]==("\"":Str))=jh c:=by
  rw[show("\"":Str)=T [34]from rfl];unfold jh;rw[Bool.eq_iff_iff,beq_iff_eq,beq_iff_eq,IL];simp
 unfold wC;simp! only[h,this]
def JU(hn:NK K a){c:Nat}(h:J.lookup `ch=some (.str (T [c])))(hs:J.lookup `self=some (.ref x.L))(hl:de O a x ak r push N):tM K J O=some (dE c,O):=by
 symm
 show br hl λp line hl _=>?_;show qA (hl.cY) λl i1 i2 i3 i4 i5 i6 i7 i8 _=>?_;left;have ha:d9 K (lk J `self) `whitespace O=some (.str nE,O):=mI (ic hs) (nz hn.whitespace i1 i6 rfl);have hc:Txt.contains nE (T [c])=dE c:=C2 [10,9,13,32] c;unfold tM;simp! only[h,ha,hc]
def V9(hn:NK K a)(hC:lV F a x ak):BodyOk (r6 K F (wC K)) F a x ak j jh:=JS hn hC λc J tok O cH r push N h1 h2 h3=>JT h1
def JV(hn:NK K a)(hC:lV F a x ak):BodyOk (r6 K F (tM K)) F a x ak j dE:=JS hn hC λc J tok O cH r push N h1 h2 h3=>JU hn h1 h2.2.1 h3.lex
abbrev r7(K:W.Frag)(F:aG)(t:ab->M Bool)(J:ab):M (ab×Fl):=d8 K F (bf `ch) (lk J `fiter) (r6 K F t) (λJ=>aE J) J
def Wa{t:ab->M Bool}(hn:NK K a)(hC:lV F a x ak)(hB:BodyOk (r6 K F t) F a x ak j stop){tok:List Nat}(hr:r.length<=2000)(Dk:tok.length<=2000)(ht:iF J a x j tok)(h:RS cH O a x ak r push N j true):
  ∃aO aa,(mK stop r=true/\r7 K F t J O=some ((aO,.ret (.str (T (tok++(cP stop r).1)))),aa)/\RS cH aa a x ak (cP stop r).2 push N j true)\/
   (mK stop r=false/\r7 K F t J O=some ((aO,.next),aa)/\iF aO a x j (tok++(cP stop r).1)/\(cP stop r).2=[]/\RS cH aa a x ak [] push N j false):=by
 show fg (y4 (cH:=cH) hn hC hB 2000 r 100000 J tok O hr `D `L ht h) λaO aa hh=>?_;have hu:r7 K F t J O=(fQ (fq K F) (rY (r6 K F t)) 100000 (.ref j) J>>=λr=>match r.2 with
   |none=>aE r.1
   |some f=>pure (r.1,f)) O:=by
  delta r7 d8;rw[aK,fZ,ht.2.2];change(ey (.ref j)>>=_) O=_;rw[aK,(by unfold ey;dsimp only;rw[h.it];rfl:ey (.ref j) O=some (.ref j,O))];rfl
 show gk aO aa ?_;rw[hu,aK]
 symm
 rcases hh with⟨q1,q2,q3⟩|⟨q1,q2,q3,q4,q5⟩
 ·left
  show .inl (cW q1 (by rw[q2];rfl) q3)
 ·left
  show .inr (zU q1 (by rw[q2];rfl) q3 q4 q5)
abbrev Dl(K:W.Frag)(J:ab):M Bool:=aQ K (lk J `ch) [.Eq] [(pure (.str ("\\":Str)))]
def Wb{c:Nat}(h:J.lookup `ch=some (.str (T [c]))):Dl K J O=some (c==92,O):=by
 have:(T [c]==("\\":Str))=(c==92):=by
  rw[show("\\":Str)=T [92]from rfl,Bool.eq_iff_iff,beq_iff_eq,beq_iff_eq,IL];simp
 unfold Dl;simp! only[h,this]
abbrev r8(K:W.Frag)(F:aG)(J:ab):M (ab×Fl):=ar (c6 (tM K J) (ar (pure (J,Fl.cont)) λJ=>aE J) (aE J)) λJ=>ar (c6 (wC K J) (ar (r7 K F (wC K) J) λJ=>aE J) (ar (c6 (Dl K J) (ar (Dj K F J) λJ=>aE J) (aE J)) λJ=>ar (lO `token .Add (lk J `ch) J) λJ=>ar (r7 K F (tM K) J) λJ=>aE J)) λJ=>aE J
def JW:yw K F J=ar (c6 (ib (d9 K (lk J `self) `pushback)) (ar (cK (a4 K F (d9 K (lk J `self) `pushback) `pop [(pure (.int 0))] [] []) J) λJ=>aE J) (aE J)) λJ=>ar (bH `token (pure (.str ("":Str))) J) λJ=>ar (bH `fiter (aL K F (gl K `iter) [(d9 K (lk J `self) `_read_char),(pure (.str ("":Str)))] [] []) J) λJ=>
  ar (d8 K F (bf `ch) (lk J `fiter) (r8 K F) (λJ=>aE J) J) λJ=>ar (cK (lk J `token) J) λJ=>aE J:=rfl
abbrev JX(cH:Hp)(a:Ad)(x:eQ)(ak:List Nat)(push:List V)(N j:Nat)(t:List Nat×List Nat)(q:ab×Option Fl)(aa:Hp):Prop:=
 (q.2=some (.ret (.str (T t.1)))/\RS cH aa a x ak t.2 push N j true)\/(q.2=none/\iF q.1 a x j t.1/\t.2=[]/\RS cH aa a x ak [] push N j false)
def Dm{t:ab->M Bool}(hn:NK K a)(hC:lV F a x ak)(hB:BodyOk (r6 K F t) F a x ak j stop){bD:Nat}{tok:List Nat}{u:V}{cX:It}(hr:r.length<=2000)(Dk:tok.length<=2000)(ht:iF a6 a x j tok)(h:RS cH ag a x ak r push N j true)
  {aH:Hp} (lq:fq K F (.ref j) O=some (some (u,.ref j),aH)) (qc:∀aO fl aa,r7 K F t a6 ag=some ((aO,fl),aa)->(fl= .next\/∃v,fl= .ret v)->r8 K F ((`ch,u)::J) aH=some ((aO,fl),aa)):
  ∃q aa,fQ (fq K F) (rY (r8 K F)) (bD+2) (.ref j) J O=some (q,aa)/\JX cH a x ak push N j (tok++(cP stop r).1,(cP stop r).2) q aa:=by
 show fg (Wa (cH:=cH) (O:=ag) (J:=a6) hn hC hB hr Dk ht h) λaO aa hh=>?_
 symm
 rcases hh with⟨q1,q2,q3⟩|⟨q1,q2,q3,q4,q5⟩
 ·left
  show c8 _ aa (JP lq ((rZ _ _ _ _).trans (qc _ _ _ q2 (.inr ⟨_,rfl⟩)))) (.inl ⟨rfl,q3⟩)
 ·left
  show c8 (aO,none) aa ?_ (.inr (kr rfl q3 q4 q5));rw[yZ lq ((rZ _ _ _ _).trans (qc _ _ _ q2 (.inl rfl)))];show y0 q5.dead
def JY(hi:iF J a x j [])(u:V):iF ((`ch,u)::J) a x j []:=(cW hi.1 hi.2.1 hi.2.2)
def tN{m:M (ab×Fl)}{fl:Fl}(h:m O=some ((a6,fl),ag))(hf:fl= .next\/∃v,fl= .ret v):ar m (λJ=>aE J) O=some ((a6,fl),ag):=by
 rcases hf with rfl|⟨v,rfl⟩
 ·show(dn h).trans rfl
 ·show r0 h
def Wc{c:Nat}(h:dE c=true):dI (c::r)=dI r:=by
 unfold dI;rw[List.dropWhile_cons,az h]
def Wd{c:Nat}(h:dE c=false):dI (c::r)=if c=34 then cP jh r else if c=92 then(r.take 1++(cP dE (r.drop 1)).1,(cP dE (r.drop 1)).2)else([c]++(cP dE r).1,(cP dE r).2):=by
 unfold dI;rw[List.dropWhile_cons,aN (by simp[h])];induction r<;>rfl
def JZ(hn:NK K a)(hC:lV F a x ak):∀(m:Nat) (r:List Nat) (bD:Nat) (J:ab) (O:Hp),r.length<=m->m+1<bD->m<=2000->iF J a x j []->RS cH O a x ak r push N j true->
  ∃q aa,fQ (fq K F) (rY (r8 K F)) bD (.ref j) J O=some (q,aa)/\JX cH a x ak push N j (dI r) q aa
 |m,r,0,_,_,_,h,_,_,_=>absurd h (Nat.not_lt_zero _)
 |m,r,1,_,_,_,h,_,_,_=>absurd h `S
 |m,[],bD+2,J,O,_,_,_,ht,h=>by
  show aj (h.ends hn hC) λaa e h'=>?_;show c8 (J,none) aa (y0 e) (.inr (kr rfl ht rfl h'))
 |0,c::r,bD+2,_,_,h,_,_,_,_=>absurd h `S
 |m+1,c::r,bD+2,J,O,hm,hf,hl,ht,h=>by
  show aj (h.next hn hC) λag e h1=>?_;simp only[List.length_cons]at hm;have hi:=JY ht (.str (T [c]));have y6:List.lookup `ch ((`ch,V.str (T [c]))::J)=some (.str (T [c])):=by rfl
  have ew:=JU (K:=K) (O:=ag) hn y6 hi.2.1 h1.lex;have eq:=JT (K:=K) (O:=ag) y6;have ee:=Wb (K:=K) (O:=ag) y6;by_cases hw:dE c=true
  ·rw[hw]at ew
   rw[Wc hw];have eb:r8 K F ((`ch,V.str (T [c]))::J) ag=some (((`ch,V.str (T [c]))::J,.cont),ag):=by
    show V7 (kh ew)
   show(V6 e ((rZ _ _ _ _).trans eb))▸(JZ hn hC m r (bD+1) _ ag `L `L (by show Nat.le_of_lt `A) hi h1)
  ·rw[(by simpa using hw:dE c=false)]at ew
   have Dn:c6 (tM K ((`ch,V.str (T [c]))::J)) (ar (pure ((`ch,V.str (T [c]))::J,Fl.cont)) λJ=>aE J) (aE ((`ch,V.str (T [c]))::J)) ag=some (((`ch,V.str (T [c]))::J,.next),ag):=(gw ew).trans rfl;rw[Wd (by simpa using hw:dE c=false)];by_cases hq:c=34
   ·rw[az hq]
    have:jh c=true:=aJ _ hq;rw[this]at eq;have:=Dm (O:=O) (J:=J) (bD:=bD) (cX:= .ref j) (u:= .str (T [c])) (aH:=ag) (tok:=[]) hn hC (V9 hn hC) `L `S hi h1 e (λaO fl aa q1 q2=>by
     show(dn Dn).trans (tN ?_ q2);rw[kh eq];show tN q1 q2)
    show this
   ·rw[(by unfold jh;simpa using hq:jh c=false)]at eq
    rw[aN hq];by_cases ll:c=92
    ·rw[az ll]
     have:(c==92)=true:=by simpa using ll
     rw[this]at ee;show aj (JR (J:=(`ch,.str (T [c]))::J) hn hC hi.2.1 h1) λaH e3 h3=>?_;have e4:=y5 (O:=aH) (J:=(`ch,.str (T (r.take 1)))::(`ch,.str (T [c]))::J) (tok:=[]) (m:=r.take 1) (JY hi _).1 (by rfl) `S (by rw[List.length_take];clear hq;lia);show Dm (O:=O) (J:=J) (bD:=bD) (cX:= .ref j) (u:= .str (T [c])) (aH:=ag) (tok:=r.take 1) (a6:=(`token,.str (T ([]++r.take 1)))::(`ch,.str (T (r.take 1)))::(`ch,.str (T [c]))::J) hn hC (JV hn hC) (by rw[List.length_drop];lia) (by rw[List.length_take];lia) (cW (by rfl) ht.2.1 ht.2.2) h3 e (λaO fl aa q1 q2=>by
      show(dn Dn).trans (tN ?_ q2);rw[gw eq];show(dn (a6:=(`ch,.str (T (r.take 1)))::(`ch,.str (T [c]))::J) (ag:=aH) ?_).trans ?_
      ·rw[kh ee]
       show(dn e3).trans rfl
      ·show(dn e4).trans (tN q1 q2))
    ·rw[aN ll]
     have:(c==92)=false:=by simpa using ll
     rw[this]at ee;show Dm (O:=O) (J:=J) (bD:=bD) (cX:= .ref j) (u:= .str (T [c])) (aH:=ag) (tok:=[c]) (a6:=(`token,.str (T ([]++[c])))::(`ch,.str (T [c]))::J) hn hC (JV hn hC) `L `S (cW (by rfl) ht.2.1 ht.2.2) h1 e (λaO fl aa q1 q2=>by
      show(dn Dn).trans (tN ?_ q2);simp only[gw eq];show(dn (a6:=(`ch,.str (T [c]))::J) (ag:=ag) (gw ee)).trans ?_;show(dn (y5 (O:=ag) (J:=(`ch,.str (T [c]))::J) (tok:=[]) (m:=[c]) hi.1 y6 `S `S)).trans (tN q1 q2))
variable{u:V}
abbrev J0(F:aG):Prop:=∀(j:Nat) (u:V) (l:List V) (O:Hp),O[j]? =some (.list (u::l))->l.length<=1000000->F (.con (.builtin "list.pop")) [.ref j,.int 0] [] O=some (u,O.set j (.list l))
def We:J0 (aY K (n+1)):=λj u l O h1 h2=>by
 show Qk h1 h2
abbrev J1(F:aG)(a:Ad)(x:eQ):Prop:=∀O:Hp,F (.con (.builtin "iter")) [.dO (.ref a.jw) (.ref x.L),.str ("":Str)] [] O=some (.ref O.length,O++[gY a x true])
def Wf(hn:NK K a):J1 (aY K (n+1)) a x:=λO=>by
 change(if("iter":String)="iter" then(if jN K (.dO (.ref a.jw) (.ref x.L))=true then vy (.iq (.dO (.ref a.jw) (.ref x.L)) "" true)else au)else au:M V) O=_;rw[az rfl,az (show jN K (.dO (.ref a.jw) (.ref x.L))=true from hn.rd.bound)];rfl
def Wg{j:Nat}{l:List V}(h:O[j]? =some (.list l)):gR K (.ref j) "pop" O=some ((.con (.builtin "list.pop"),[.ref j]),O):=by
 change(match O[j]?with|some (.list _)=>(x6 `pop).map λid=>((V.con (.builtin id),[V.ref j]),O)|some (.dict _)=>_|some (.inst ..)=>_|_=>none)=_;rw[h];rfl
def J2{l:List V}(h:O[j]? =some (.list l))(hl:l.length<=1000000):mR (.ref j) O=some (!l.isEmpty,O):=by
 change(match O[j]?with
  |some (.list l)=>if l.length<=1000000 then some (!l.isEmpty,O)else none
  |_=>none)=_
 show(Eq.symm (h))▸(az hl)
def y7(hn:NK K a)(h:de O a x ak r push N)(hs:J.lookup `self=some (.ref x.L)):d9 K (lk J `self) `pushback O=some (.ref x.Lp,O):=by
 symm
 show br h λp line h _=>?_;show qA (h.cY) λl i1 i2 i3 i4 i5 i6 i7 i8 _=>?_;left;show mI (ic hs) (nz hn.JN i1 i7 rfl)
def de.r9(h:de O a x ak r push N):O[x.Lp]? =some (.list push):=let⟨_,_,h,_⟩:=h;h.push
def de.Df(h:de O a x ak r push N)(q:List V):de (O.set x.Lp (.list q)) a x ak r q N:=let⟨p,line,h,k⟩:=h;⟨p,line,h.Df q,k⟩
def Wh(hn:NK K a)(hP:J0 F)(h:de O a x ak r (u::push) N)(hl:push.length<=1000):
  a7 (yw K F [(`self,.ref x.L)]) O λq aa=>∃v,dF q.2=some v/\v=u/\aa=O.set x.Lp (.list push):=by
 simp only[JW];have ht:ib (d9 K (lk [(`self,V.ref x.L)] `self) `pushback) O=some (true,O):=by
  unfold ib;simp only[aK,(y7 (J:=[(`self,.ref x.L)]) hn h rfl)];show J2 h.r9 (by simp;show a9 `A `D)
 have hp:a4 K F (d9 K (lk [(`self,V.ref x.L)] `self) `pushback) `pop [(pure (.int 0))] [] [] O=some (u,O.set x.Lp (.list push)):=by
  simp only[ke (y7 (J:=[(`self,.ref x.L)]) hn h rfl) (Wg h.r9) rfl,bF];show hP _ _ _ _ h.r9 (by show a9 `A `D)
 show gv (iz (o:=(([(`self,.ref x.L)],.ret u),O.set x.Lp (.list push))) (by rw[kh ht];show r0 (je hp)) (bj _ rfl rfl rfl))
def Wi(kb:KB K)(hn:NK K a)(hC:lV F a x ak)(hI:J1 F a x)(h:de O a x ak r [] N)(hr:r.length<=1900):
  a7 (yw K F [(`self,.ref x.L)]) O λq aa=>∃v,dF q.2=some v/\v= .str (T (dI r).1)/\de aa a x ak (dI r).2 [] N/\ek [x.Ld,x.pl] O aa:=by
 simp only[JW];have ht:ib (d9 K (lk [(`self,V.ref x.L)] `self) `pushback) O=some (false,O):=by
  unfold ib;simp only[aK,(y7 (J:=[(`self,.ref x.L)]) hn h rfl)];show J2 h.r9 `S
 show gv (iz (o:=(([(`self,.ref x.L)],.next),O)) (gw ht) ?_);show sq (eE (v:= .str (T [])) (ag:=O) rfl) ?_;show sq (eE (v:= .ref O.length) (ag:=O++[gY a x true]) ?_) ?_
 ·show br h λp line h _=>?_
  symm
  show qA (h.cY) λl i1 i2 i3 i4 i5 i6 i7 i8 _=>?_;left;simp only[bZ kb.iter,bF,(mI rfl (CU hn.rd i1 i8):d9 K (lk ((`token,V.str (T []))::[(`self,V.ref x.L)]) `self) `_read_char O=some (.dO (.ref a.jw) (.ref x.L),O))];show hI O
 change a7 _ _ _;have oF:de (O++[gY a x true]) a x ak r [] N:=by
  show br h λp line h k=>?_;show c8 p line (h.same λi hi=>il ?_) k;obtain⟨h1,⟨l,h2,_⟩,h4,h5,⟨l',h6,_⟩,h8,_⟩:=h;unfold eQ.all at hi;simp only[List.mem_cons,List.not_mem_nil,or_false]at hi;rcases hi with rfl|rfl|rfl|rfl|rfl|rfl
  ·show(cQ h1).1
  ·show(cQ h2).1
  ·show(cQ h4).1
  ·show(cQ h5).1
  ·show(cQ h6).1
  ·show(cQ h8).1
 have J3:RS (O++[gY a x true]) (O++[gY a x true]) a x ak r [] N O.length true:=⟨oF,by simp,ek.refl _ _⟩
 symm
 show br (JZ (cH:=O++[gY a x true]) hn hC 1990 r 100000 _ _ (by show a9 `A `D) `S `D (cW rfl rfl rfl:iF ((`fiter,V.ref O.length)::(`token,.str (T []))::[(`self,.ref x.L)]) a x O.length []) J3) λkU aa e hh=>?_;obtain⟨aO,o⟩:=kU;left;have hu:d8 K F (bf `ch) (lk ((`fiter,V.ref O.length)::(`token,.str (T []))::[(`self,V.ref x.L)]) `fiter) (r8 K F) (λJ=>aE J) ((`fiter,V.ref O.length)::(`token,.str (T []))::[(`self,V.ref x.L)]) (O++[gY a x true])=some ((aO,o.getD .next),aa):=by
  unfold d8;rw[aK,fZ];change(ey (.ref O.length)>>=_) _=_;rw[aK,(by unfold ey;dsimp only;rw[J3.it];rfl:ey (.ref O.length) (O++[gY a x true])=some (.ref O.length,O++[gY a x true]))];change(fQ (fq K F) (rY (r8 K F)) 100000 (.ref O.length) _>>=_) _=_;rw[aK,e];induction o<;>rfl
 have tO:∀{aa:Hp},ek [x.Ld,x.pl,O.length] (O++[gY a x true]) aa->ek [x.Ld,x.pl] O aa:=λ{aa} hs=>by
  show⟨a9 `S hs.1,λi hi hn=>?_⟩;simp only[hs.2 i (by simp;show Nat.le_succ_of_le `A) (by simp at hn|-;show cW hn.1 hn.2 `L),il hi]
 symm
 rcases hh with⟨q1,q2⟩|⟨q1,q2,q3,q4⟩
 ·left
  subst q1;show sq (o:=((aO,.ret (.str (T (dI r).1))),aa)) hu (dw _ rfl rfl q2.lex (tO q2.same))
 ·left
  dsimp only at q1 q2;subst q1;show sq (o:=((aO,.next),aa)) hu ?_;show sq (je (v:= .str (T (dI r).1)) (ag:=aa) (ic q2.1)) (dw _ rfl rfl ?_ (tO q4.same));show(q3)▸(q4.lex)
abbrev tP(F:aG)(a:Ad)(x:eQ)(ak:List Nat):Prop:=(∀(r:List Nat) (u:V) (push:List V) (N:Nat) (O:Hp),push.length<=1000->de O a x ak r (u::push) N->F (.con (.ref a.tx)) [.ref x.L] [] O=some (u,O.set x.Lp (.list push)))/\
 (∀(r:List Nat) (N:Nat) (O:Hp),de O a x ak r [] N->∃aa,F (.con (.ref a.tx)) [.ref x.L] [] O=some (.str (T (dI r).1),aa)/\de aa a x ak (dI r).2 [] N/\ek [x.Ld,x.pl] O aa)
def Wj(h:de O a x ak r push N):r.length<=ak.length:=by
 show ck h λp line h eW _=>?_;subst eW;rw[List.length_drop];omega
def J4(kb:KB K)(hn:NK K a)(hl:ak.length<=1000):tP (aY K (n+5)) a x ak:=by
 show⟨λr u push N O hp h=>?_,λr N O h=>?_⟩
 ·show ie ?_
  rw[gU hn.yW];show gb hn.yW Iu rfl (bT:=[("self",.ref x.L)]) rfl rfl (Wh hn We h hp)
 ·have:=gb (n:=n+4) (O:=O) (vs:=[.ref x.L]) (aC:=[]) (Q:=λv aa=>v= .str (T (dI r).1)/\de aa a x ak (dI r).2 [] N/\ek [x.Ld,x.pl] O aa) hn.yW Iu rfl (bT:=[("self",.ref x.L)]) rfl rfl (Wi kb hn (V5 kb hn hl) (Wf hn) h (by have:=Wj h;lia))
  show dg this λv aa e eW e2 e3=>?_;subst eW;show bj aa ((gU hn.yW).symm▸e) e2 e3
def J5(hn:NK K a)(h:de O a x ak r push N):gR K (.ref x.L) "get_token" O=some ((.con (.ref a.tx),[.ref x.L]),O):=by
 symm
 show br h λp line h _=>?_;obtain⟨l,i1,i2,i3,i4,i5,i6,i7,i8,i9,J6⟩:=h.cY;left;show qn hn.tok i1 i9
def Wk(hn:NK K a)(h:de O a x ak r push N):gR K (.ref x.L) "push_token" O=some ((.con (.ref a.v8),[.ref x.L]),O):=by
 symm
 show br h λp line h _=>?_;obtain⟨l,i1,i2,i3,i4,i5,i6,i7,i8,i9,J6⟩:=h.cY;left;show qn hn.wx i1 J6
abbrev J7(F:aG)(a:Ad)(x:eQ)(ak:List Nat):Prop:=∀(r:List Nat) (push:List V) (u:V) (N:Nat) (O:Hp),push.length<=1000->de O a x ak r push N->F (.con (.ref a.v8)) [.ref x.L,u] [] O=some (.none,O.set x.Lp (.list (push++[u])))
def Wl(hn:NK K a):J7 (aY K (n+2)) a x ak:=λr push u N O hl h=>by
 show ie ?_;rw[gU hn.JL];show gb hn.JL Te rfl (bT:=[("self",.ref x.L),("token",u)]) rfl rfl ?_;show sq (wg we (y7 (J:=[(`token,u),(`self,.ref x.L)]) hn h rfl) h.r9 (e:=lk [(`token,u),(`self,.ref x.L)] `token) (v:=u) (aH:=O) (by rfl) h.r9 (by show a9 `A `D)) ?_;show⟨_,_,rfl,_,rfl,rfl,rfl⟩
def de.fV(hn:NK K a)(h:de O a x ak r push N)(hs:J.lookup `lexer=some (.ref x.L)):∃line,d9 K (lk J `lexer) `lineno O=some (iV line,O)/\line+r.count 10=N:=by
 symm
 show dg h λp line h _ _ h2=>?_;show qA (h.cY) λl i1 i2 i3 i4 i5 i6 i7 i8 _=>?_;left;show aA line (mI (ic hs) (nz hn.wz i1 i4 rfl)) h2
variable{X:Runner}{st:Stmt}{lQ vs:List V}{aC:List (Str×V)}
def Wm(h:dH K g st lQ)(iu:(gS st).kwarg=none):oo K X g vs aC=jv K X g vs aC:=by
 show uk h.fd λfd ds h1 h2 h3 h4 h5 h6 h7=>?_;funext O;unfold jv;simp only[aK,fY,h1];change _=(if fd.params.kwarg.isSome=true then(if(kY K fd&&fd.defaults== .none)=true then te X fd vs aC else au)else oo K X g vs aC) O;rw[h3,iu,aN `S]
def tQ{o e:M V}{l:List (Str×V)}(h1:e O=some (v,ag))(h2:o ag=some (.ref j,ag))(h3:cY ag j=some (C,d,l))(ha:pw K C name)(hl:l.length<=900):qj K o name e J O=some ((J,.next),ag.set d (.attrs (cw name v l))):=by
 unfold qj;rw[aK,h1];change(o>>=_) ag=_;rw[aK,h2];change(lL K (.ref j) name v>>=_) ag=_;have:lL K (.ref j) name v ag=some ((),ag.set d (.attrs (cw name v l))):=by
  show GL h3 ⟨ha.set,hl⟩
 simp only[aK,this];rfl
def J8{sh:W.Frag->aG->ab->M (ab×Fl)}{fI:Addr}{bT:List (Str×V)}(hi:W.findIn K (.ref C) "__init__"=some (some (.ref fI))/\W.makesIn K C=true/\W.typeIn K (.ref fI)=some (.type "function"))(h:dH K fI st lQ)(hs:∀K F,cz K F (dC st) (dY st)=sh K F)(iu:(gS st).kwarg=none)
  (hb:iN (gS st) lQ (.ref (O.length+1)::vs) []=some bT) (hn:(bT.all λp=>cR (dC st) p.1)=true) (hw:a7 (sh K (aY K n) bT.reverse) (O++[.attrs [],.inst C O.length]) λq τ=>dF q.2=some .none/\τ=aa):
  rm K (cz K (aY K n)) C vs [] O=some (.ref (O.length+1),aa):=by
 have e:=gb (n:=n) (O:=O++[.attrs [],.inst C O.length]) (vs:= .ref (O.length+1)::vs) (aC:=[]) (Q:=λv τ=>v= .none/\τ=aa) h hs iu hb hn (hw.mono λq τ Wn=>aI Wn λq1 q2=>⟨_,q1,rfl,q2⟩);obtain⟨v,τ,e,rfl,rfl⟩:=e;unfold rm;rw[aK,fY,show(qY K C "__init__").bind _=some fI from(ob (PK hi.1) (az hi.2))];change(oo K (cz K (aY K n)) fI (V.ref (O.length+1)::vs) []>>=λr=>(match r with
  | .none=>pure (V.ref (O.length+1))
  |_=>au:M V)) (O++[bx.attrs [],bx.inst C O.length])=_
 rw[aK,Wm h iu,e];rfl
def J9(h1:iI K≠some C/\fM K C=none):aY K (n+1) (.con (.ref C)) vs []=rm K (cz K (aY K n)) C vs []:=by
 change(if iI K=some C then _ else if(fM K C).isSome=true then _ else rm K (cz K (aY K n)) C vs [])=_;rw[aN h1.1,h1.2];rfl
abbrev ji(fp:V)(k:Nat):List (Str×V):=cw "pushback" (.ref k) (cw "whitespace" (.str nE) (cw "instream" fp (cw "lineno" (.int 1) [])))
abbrev wD(a:Ad)(O:Hp)(fp:V):Hp:=O++[.attrs (ji fp (O.length+2)),.inst a.da O.length,.list []]
def tR{A:List (Str×V)}{aV:Hp}:cY (O++(.attrs A:: .inst C O.length::aV)) (O.length+1)=some (C,O.length,A):=by
 unfold cY;have e1:(O++(bx.attrs A:: .inst C O.length::aV))[O.length+1]? =some (.inst C O.length):=by
  rw[iT `S];simp
 have e2:(O++(bx.attrs A:: .inst C O.length::aV))[O.length]? =some (.attrs A):=by
  rw[iT `S];simp
 rw[e1];dsimp only;rw[e2]
def wF{o o':bx}{aV:Hp}:(O++o::aV).set O.length o'=O++o'::aV:=by
 simp
def Ka(hn:NK K a)(fp:V):aY K (n+1) (.con (.ref a.da)) [fp] [] O=some (.ref (O.length+1),wD a O fp):=by
 rw[J9 hn.Dg];show J8 hn.init hn.Dh Ta rfl (bT:=[("self",.ref (O.length+1)),("fp",fp)]) rfl rfl ?_;show sq (tQ (v:= .int 1) (ag:=O++[.attrs [],.inst a.da O.length]) rfl (by rfl) tR hn.wz `S) ?_;rw[wF];show sq (tQ (v:=fp) (ag:=O++[.attrs (cw "lineno" (.int 1) []),.inst a.da O.length]) (by rfl) (by rfl) tR hn.JM `D) ?_;rw[wF];show sq (tQ (v:= .str nE) (ag:=O++[.attrs (cw "instream" fp (cw "lineno" (.int 1) [])),.inst a.da O.length]) rfl (by rfl) tR hn.whitespace (by simp(decide:=true) [pZ,oY])) ?_;rw[wF];show sq (tQ (v:= .ref (O.length+2)) (ag:=O++[.attrs (cw "whitespace" (.str nE) (cw "instream" fp (cw "lineno" (.int 1) []))),.inst a.da O.length,.list []]) ?_ (by rfl) tR hn.JN (by simp(decide:=true) [pZ,oY])) ?_
 ·change some (V.ref (O++[bx.attrs (cw "whitespace" (.str nE) (cw "instream" fp (cw "lineno" (.int 1) []))),.inst a.da O.length]).length,_)=_
  simp only[(by simp:(O++[bx.attrs (cw "whitespace" (.str nE) (cw "instream" fp (cw "lineno" (.int 1) []))),.inst a.da O.length])++[.list []]=O++[.attrs (cw "whitespace" (.str nE) (cw "instream" fp (cw "lineno" (.int 1) []))),.inst a.da O.length,.list []]),show(O++[bx.attrs (cw "whitespace" (.str nE) (cw "instream" fp (cw "lineno" (.int 1) []))),.inst a.da O.length]).length=O.length+2 from by simp]
 ·rw[wF]
  show cF _ _ rfl rfl rfl
structure LX(K:W.Frag)(a:Ad):Prop where
 glob:c7 K "_law_lexer" (.con (.ref a.lS))
 lex:iI K=some a.lS
 fd:∃fd,fM K a.lS=some fd/\(kY K fd&&fd.defaults== .none&&vM K fd&&vN K)=true/\fd.params=gS (bC 21)/\fd.scope=ia
abbrev qu(k:Nat):eQ:=⟨k+5,k+4,k+6,k+2,k+1,k⟩
abbrev nF(a:Ad)(ak:List Nat)(k:Nat):Hp:=[.list [.int 0],.attrs (cw "read" (.fK [.str (T ak),.ref k]) (ji .none (k+3))),.inst a.da (k+1),.list [],.attrs (ji (.ref (k+2)) (k+6)),.inst a.da (k+4),.list []]
def Wo(hn:NK K a):IA K (aY K (n+1)) [(`text,.str (T ak))] O=some (((`tape,.ref (O.length+2))::(`place,.ref O.length)::[(`text,.str (T ak))],.next),O++[.list [.int 0],.attrs (ji .none (O.length+3)),.inst a.da (O.length+1),.list []]):=by
 have e2:=Ka (n:=n) (O:=O++[.list [.int 0]]) hn .none;have hl:(O++[bx.list [.int 0]]).length=O.length+1:=by simp
 have e3:wD a (O++[.list [.int 0]]) .none=O++[.list [.int 0],.attrs (ji .none (O.length+3)),.inst a.da (O.length+1),.list []]:=by
  unfold wD;rw[hl];simp
 simp only[e3,hl]at e2;show(dn (rfl)).trans ((dn (eE (v:= .ref (O.length+2)) ?_)).trans rfl);simp only[bZ hn.glob,bF];show e2
def Wq(hn:NK K a)(τ:Hp)(hk:τ.length=O.length):
  a7 (IB K (aY K (n+1)) ((`read,.fK [.str (T ak),.ref O.length])::(`tape,.ref (O.length+2))::(`place,.ref O.length)::[(`text,.str (T ak))])) (τ++[.list [.int 0],.attrs (ji .none (O.length+3)),.inst a.da (O.length+1),.list []]) λq aa=>dF q.2=some (.ref (O.length+5))/\aa=τ++nF a ak O.length:=by
 have hi:∀A,cY (τ++[.list [.int 0],.attrs A,.inst a.da (O.length+1),.list []]) (O.length+2)=some (a.da,O.length+1,A):=λA=>by
  have:=tR (O:=τ++[.list [.int 0]]) (C:=a.da) (A:=A) (aV:=[.list []]);rw[List.length_append,hk]at this;simpa using this
 show sq (tQ (v:= .fK [.str (T ak),.ref O.length]) (by rfl) (by rfl) (hi _) hn.read (by simp(decide:=true) [ji,pZ,oY])) ?_;have rV:(τ++[bx.list [.int 0],.attrs (ji .none (O.length+3)),.inst a.da (O.length+1),.list []]).set (O.length+1) (.attrs (cw "read" (.fK [.str (T ak),.ref O.length]) (ji .none (O.length+3))))=τ++[.list [.int 0],.attrs (cw "read" (.fK [.str (T ak),.ref O.length]) (ji .none (O.length+3))),.inst a.da (O.length+1),.list []]:=by
  rw[<-hk,List.set_append_right _ _ `S];simp
 simp only[rV];have hl:(τ++[bx.list [.int 0],.attrs (cw "read" (.fK [.str (T ak),.ref O.length]) (ji .none (O.length+3))),.inst a.da (O.length+1),.list []]).length=O.length+4:=by simp[hk]
 have e2:=Ka (n:=n) (O:=τ++[.list [.int 0],.attrs (cw "read" (.fK [.str (T ak),.ref O.length]) (ji .none (O.length+3))),.inst a.da (O.length+1),.list []]) hn (.ref (O.length+2));have e3:wD a (τ++[.list [.int 0],.attrs (cw "read" (.fK [.str (T ak),.ref O.length]) (ji .none (O.length+3))),.inst a.da (O.length+1),.list []]) (.ref (O.length+2))=τ++nF a ak O.length:=by
  unfold wD;rw[hl];simp[nF]
 simp only[e3,hl]at e2;show sq (je (v:= .ref (O.length+5)) (ag:=τ++nF a ak O.length) ?_) ⟨rfl,rfl⟩;simp only[bZ hn.glob,bF,fZ];show e2
def Wr(hn:NK K a)(hx:LX K a)(h0:O[0]? =some .tab):aY K (n+2) (.con (.ref a.lS)) [.str (T ak)] [] O=some (.ref (O.length+5),O.set 0 (.cell .none)++nF a ak O.length):=by
 show ku hx.fd λfd f1 f2 f3 f4=>?_;show ck (Wq (n:=n) (O:=O) (ak:=ak) hn (O.set 0 (.cell .none)) `S) λq aa e2 e3 e4=>?_;change(if iI K=some a.lS then(if([]:List (Str×V)).isEmpty=true then(do let fd<-bJ (fM K a.lS);rv K (cz K (aY K (n+1))) fd [.str (T ak)])else au)else _:M V) O=_;rw[az hx.lex];change(bJ (fM K a.lS)>>=λfd=>rv K (cz K (aY K (n+1))) fd [.str (T ak)]) O=_;simp only[aK,fY,f1];change rv K (cz K (aY K (n+1))) fd [.str (T ak)] O=_;unfold rv;rw[az f2,aK,fY,f3,show iN (gS (bC 21)) [] [.str (T ak)] []=some [(`text,V.str (T ak))]from rfl];change(if([(`text,V.str (T ak))].all λp=>cR fd.scope p.1)=true then(do
   let q<-cz K (aY K (n+1)) ia (jY.take 2) [(`text,V.str (T ak))]
   match q.2 with
   | .next=>do
    let t<-bJ (q.1.lookup `text)
    let p<-bJ (q.1.lookup `place)
    ru
    let r<-cz K (aY K (n+1)) (ng ia) (jY.drop 3) ((`read,V.fK [t,p])::q.1)
    bJ (dF r.2)
   |_=>au)else au:M V) O=_
 rw[f4,az (by rfl),Tq,aK,(Wo (n:=n) (O:=O) (ak:=ak) hn)];change(ru>>=λ_=>(do
    let r<-cz K (aY K (n+1)) (ng ia) (jY.drop 3) ((`read,V.fK [.str (T ak),.ref O.length])::(`tape,.ref (O.length+2))::(`place,.ref O.length)::[(`text,.str (T ak))])
    bJ (dF r.2))) (O++[.list [.int 0],.attrs (ji .none (O.length+3)),.inst a.da (O.length+1),.list []])=_
 have ht:ru (O++[.list [.int 0],.attrs (ji .none (O.length+3)),.inst a.da (O.length+1),.list []])=some ((),O.set 0 (.cell .none)++[.list [.int 0],.attrs (ji .none (O.length+3)),.inst a.da (O.length+1),.list []]):=by
  unfold ru;rw[il ((cQ h0).1:0<O.length),h0];rw[List.set_append_left _ _ ((cQ h0).1:0<O.length)]
 simp only[aK,ht];change(cz K (aY K (n+1)) (ng ia) (jY.drop 3) _>>=λr=>bJ (dF r.2)) _=_;simp only[Tr,aK,e2];change bJ (dF q.2) aa=_;simp only[fY,e3,e4];rfl
def Ws(τ:Hp)(hl:τ.length=k):de (τ++nF a ak k) a (qu k) ak ak [] (1+ak.count 10):=by
 have g:∀i,(τ++nF a ak k)[k+i]? =(nF a ak k)[i]? :=λi=>by rw[<-hl,iT `S];simp
 show fC 0 1 (⟨g 5,(bj _ (g 4) ?_ ?_),g 6,g 2,(aA _ (g 1) ?_),g 0,?_,?_⟩) rfl `S rfl
 ·simp(decide:=true) [ji,pZ,oY]
 ·unfold ji
  show ME ?_ ?_ ?_ ?_ ?_ ?_ ?_<;>rfl<;>rfl
 ·simp(decide:=true) only[oY,if_true];rfl
 ·change k+6≠k;simp
 ·change k+1≠k+4;simp
structure HI(K:W.Frag)(a:Ad):Prop where
 glob:c7 K "Headers" (.con (.ref a.headers))
 Dg:iI K≠some a.headers/\fM K a.headers=none
 init:W.findIn K (.ref a.headers) "__init__"=some (some (.ref a.yD))/\W.makesIn K a.headers=true/\W.typeIn K (.ref a.yD)=some (.type "function")
 Dh:dH K a.yD (dG 19 0) [.none]
abbrev iG(a:Ad)(k:Nat):Hp:=[.attrs [(`_headers,.ref (k+2))],.inst a.headers k,.list []]
def Wt(kb:KB K)(hi:HI K a)(hk:HK K a):aY K (n+2) (.con (.ref a.headers)) [] [] O=some (.ref (O.length+1),O++iG a O.length):=by
 rw[J9 hi.Dg];show J8 (n:=n+1) hi.init hi.Dh Tf rfl (bT:=[("self",.ref (O.length+1)),("headers",.none)]) rfl rfl ?_;change a7 (CC K (aY K (n+1)) [(`headers,.none),(`self,.ref (O.length+1))]) _ _;unfold CC;have hl:(O++[bx.attrs [],.inst a.headers O.length]).length=O.length+2:=by simp
 have e3:(O++[bx.attrs [],.inst a.headers O.length])++[.list []]=O++[.attrs [],.inst a.headers O.length,.list []]:=by simp
 show sq (eE (v:= .ref (O.length+2)) (ag:=O++[.attrs [],.inst a.headers O.length,.list []]) ?_) ?_
 ·have ht:(aQ K (lk [(`headers,V.none),(`self,.ref (O.length+1))] `headers) [.IsNot] [(pure .none)]) (O++[bx.attrs [],.inst a.headers O.length])=some (false,O++[bx.attrs [],.inst a.headers O.length]):=by
   have e:eA K .IsNot .none .none=pure false:=by funext O;rfl
   show rfl
  unfold eN;simp only[aK,ht];change some (V.ref (O++[bx.attrs [],.inst a.headers O.length]).length,_)=_;rw[e3,hl]
 change a7 _ _ _;have Wu:(O++[bx.attrs [],.inst a.headers O.length,.list []])[O.length+2]? =some (.list []):=by rw[iT `L];simp
 show gv (iz (o:=(((`headers,.ref (O.length+2))::[(`headers,V.none),(`self,.ref (O.length+1))],.next),O++[.attrs [],.inst a.headers O.length,.list []])) ?_ ?_)
 ·have iL:aY K (n+1) (.con (.type "type")) [.ref (O.length+2)] [] (O++[.attrs [],.inst a.headers O.length,.list []])=some (.con (.type "list"),O++[.attrs [],.inst a.headers O.length,.list []]):=by
   change vB [.ref (O.length+2)] _=_;show QJ Wu
  have hc:(aQ K (aL K (aY K (n+1)) (gl K `type) [(lk ((`headers,V.ref (O.length+2))::[(`headers,V.none),(`self,.ref (O.length+1))]) `headers)] [] []) [.IsNot] [(gl K `list)]) (O++[.attrs [],.inst a.headers O.length,.list []])=some (false,O++[.attrs [],.inst a.headers O.length,.list []]):=by
   have e:eA K .IsNot (.con (.type "list")) (.con (.type "list"))=pure false:=by funext O;rfl
   simp! only[↓bZ kb.type,iL,IK kb.list,e]
  rw[gw hc];rfl
 change a7 _ _ _;show sq (tQ (v:= .ref (O.length+2)) (ag:=O++[.attrs [],.inst a.headers O.length,.list []]) (by simp only[fZ];rfl) (by rw[fZ];rfl) tR hk.kX `S) ?_;rw[wF];change a7 _ _ _;have Kb:(O++iG a O.length)[O.length+2]? =some (.list []):=by unfold iG;rw[iT `L];simp
 show gv (iz (o:=(((`headers,.ref (O.length+2))::[(`headers,V.none),(`self,.ref (O.length+1))],.next),O++iG a O.length)) ?_ ?_)
 ·have ht:ib (pure (V.bool true)) (O++iG a O.length)=some (true,O++iG a O.length):=rfl
  change c6 _ _ _ (O++iG a O.length)=_;rw[kh ht];show(dn (a6:=(`headers,.ref (O.length+2))::[(`headers,V.none),(`self,.ref (O.length+1))]) (ag:=O++iG a O.length) ?_).trans rfl;have eV:ey (.ref (O.length+2)) (O++iG a O.length)=some (.live (O.length+2) 0,O++iG a O.length):=by unfold ey;dsimp only;rw[Kb]
  have lq:fq K (aY K (n+1)) (.live (O.length+2) 0) (O++iG a O.length)=some (none,O++iG a O.length):=by
   change(mV (O++iG a O.length) (O.length+2) 0).map _=_;unfold mV;rw[Kb];rfl
  unfold d8;rw[aK,fZ];change(ey (.ref (O.length+2))>>=_) _=_;rw[aK,eV];change(fQ _ _ 100000 (.live (O.length+2) 0) _>>=_) _=_;rw[aK,y0 lq];rfl
 ·show⟨_,_,rfl,rfl,rfl⟩
def Wv{k:Nat}(τ:Hp)(hl:τ.length=k):TabAt (τ++iG a k) a.headers (k+1) k (k+2) []:=by
 have g:∀i,(τ++iG a k)[k+i]? =(iG a k)[i]? :=λi=>by rw[<-hl,iT `S];simp
 show⟨g 1,g 0,g 2⟩
abbrev jk(eO:List Nat):List (List Nat)->List Nat
 |[]=>[]
 |[x]=>x
 |x::y::r=>x++eO++jk eO (y::r)
def Kc(eO:List Nat):∀l:List (List Nat),Str.join (T eO) (l.map T)=T (jk eO l)
 |[]=>rfl
 |[x]=>rfl
 |x::y::r=>by
  change T x++T eO++Str.join (T eO) ((y::r).map T)=_;simp only[Kc eO (y::r),rC,rC];rfl
def Ww(eO:List Nat)(l:List (List Nat)):Txt.join (T eO) (l.map T)=T (jk eO l):=by
 change Builtin.Str.glued _ _=_;simp only[StrLaws.glued_eq_join,Kc]
def Kd(f:Nat->Nat)(eO:List Nat)(hs:eO.map f=eO):∀l:List (List Nat),(jk eO l).map f=jk eO (l.map (List.map f))
 |[]=>rfl
 |[x]=>rfl
 |x::y::r=>by
  change(x++eO++jk eO (y::r)).map f=_;simp only[List.map_append,List.map_append,hs,Kd f eO hs (y::r)];rfl
def Ke{eO:List Nat}{c:Nat}:∀{l:List (List Nat)},c∈jk eO l->c∈eO\/∃x∈l,c∈x
 |[x],h=> .inr (aA x (.head _) h)
 |x::y::r,h=>by
  rcases gN h with h|h
  ·rcases gN h with h|h
   ·show .inr (aA x (.head _) h)
   ·show .inl h
  ·rcases Ke h with h|⟨z,h1,h2⟩
   ·show .inl h
   ·show .inr (aA z (.tail _ h1) h2)
def Kg{p:Nat->Bool}:∀(x:List Nat) (r:List Nat),(∀c∈x,p c=true)->(r=[]\/∃c r',r=c::r'/\p c=false)->(x++r).takeWhile p=x
 |[],r,_,h=>by
  rcases h with rfl|⟨c,r',rfl,hc⟩
  ·rfl
  ·simp[List.takeWhile_cons,hc]
 |a::x,r,hx,h=>by
  rw[List.cons_append,List.takeWhile_cons,az (hx a (.head _)),Kg x r (λc hc=>hx c (.tail _ hc)) h]
def wG(x:List Nat)(l:List (List Nat)):jk [44,32] (x::l)=x++(match l with|[]=>[]|y::r=>44::32::jk [44,32] (y::r)):=by
 induction l with
 |nil=>show(List.append_nil x).symm
 |cons y r=>show List.append_assoc ..
def Kh:∀(l m:List (List Nat)),(∀x∈l,x≠[]/\∀c∈x,(c !=44)=true)->(∀x∈m,x≠[]/\∀c∈x,(c !=44)=true)->jk [44,32] l=jk [44,32] m->l=m
 |[],[],_,_,_=>rfl
 |[],y::m,_,hm,h=>by
  exfalso;rw[wG]at h;have:=(List.append_eq_nil_iff.mp h.symm).1;show(hm y (.head _)).1 this
 |x::l,[],hl,_,h=>by
  exfalso;rw[wG]at h;have:=(List.append_eq_nil_iff.mp h).1;show(hl x (.head _)).1 this
 |x::l,y::m,hl,hm,h=>by
  have hx:∀(z:List Nat) (k:List (List Nat)),(∀c∈z,(c !=44)=true)->(jk [44,32] (z::k)).takeWhile (· !=44)=z:=λz k hz=>by
   rw[wG];show Kg z _ hz ?_;induction k with
   |nil=>show .inl rfl
   |cons a b=>show .inr (c8 44 _ rfl rfl)
  have e:x=y:=by rw[<-hx x l (hl x (.head _)).2,<-hx y m (hm y (.head _)).2,h]
  subst e;rw[wG,wG]at h;have h':=List.append_cancel_left h;cases l with
  |nil=>induction m with
   |nil=>rfl
   |cons a b=>cases h'
  |cons a b=>induction m with
   |nil=>cases h'
   |cons a' b'=>
    show aJ _ (Kh (a::b) (a'::b') (λz hz=>hl z (.tail _ hz)) (λz hz=>hm z (.tail _ hz)) (by simpa using h'))
abbrev qv(k:Nat):List Nat:=(jf k).cps.toList
abbrev pE(k:Nat):List Nat:=(qv k).map lo1
abbrev lW(m:Nat):List Nat:=(List.range 32).filter (kg m)
abbrev sb(m:Nat):List Nat:=jk [44,32] ((lW m).map qv)
abbrev dJ(m:Nat):List Nat:=jk [44,32] ((lW m).map pE)
def Ki:∀k,k<32->qv k≠[]/\pE k≠[]/\(qv k).all (λc=>decide (31<c)&&decide (c<127))=true/\(pE k).all (λc=>c !=44)=true:=by decide+kernel
def Wx:∀k,k<32->∀j,j<32->pE k=pE j->k=j:=by decide+kernel
def wH{m k:Nat}(h:k∈lW m):k<32:=List.mem_range.mp (List.mem_filter.mp h).1
def Dp(m:Nat):eF m=T (sb m):=by
 delta eF sb fS;rw[<-Ww,List.map_map];congr 1
def tS(m:Nat):∀c∈sb m,31<c/\c<127:=λc hc=>by
 symm
 rcases Ke hc with h|⟨x,h1,h2⟩
 ·simp at h;lia
 ·left
  show aj (cG h1) λk hk ay=>?_;subst ay;have:=List.all_eq_true.mp (Ki k (wH hk)).2.2.1 c h2;simpa using this
def y8:∀c,c<127->31<c->31<lo1 c/\lo1 c<127/\lo1 (lo1 c)=lo1 c/\lo1 (up1 c)=lo1 c/\31<up1 c/\up1 c<127:=by decide+kernel
def y9{l:List Nat}(h:∀c∈l,c<128):Txt.lower (T l)=T (l.map lo1):=by
 simp only[lower_ascii (((by unfold T;simp:(T l).cps.toList=l)).symm▸h)];unfold T;simp
def Kj{l:List Nat}(h:∀c∈l,c<128):Txt.upper (T l)=T (l.map up1):=by
 simp only[upper_ascii (((by unfold T;simp:(T l).cps.toList=l)).symm▸h)];unfold T;simp
def za(m:Nat):dJ m=(sb m).map lo1:=by
 delta dJ sb pE;rw[Kd _ _ `D,List.map_map];rfl
def Dq(m:Nat):Txt.lower (eF m)=T (dJ m):=by
 simp only[Dp,y9 (λc hc=>by have:=tS m c hc;lia),za]
def zb(m:Nat):∀c∈dJ m,31<c/\c<127:=λc hc=>by
 rw[za]at hc;show aj (cG hc) λd hd ay=>?_;subst ay;have:=y8 d (tS m d hd).2 (tS m d hd).1;show⟨this.1,this.2.1⟩
def Kk(m:Nat):Txt.lower (T (dJ m))=T (dJ m):=by
 rw[y9 (λc hc=>by have:=zb m c hc;lia)];congr 1;rw[za,List.map_map];show List.map_congr_left λc hc=>?_;show(y8 c (tS m c hc).2 (tS m c hc).1).2.2.1
def Wy{l:List Nat}(h:∀c∈l,31<c/\c<127):Txt.lower (Txt.upper (T l))=Txt.lower (T l):=by
 rw[Kj (λc hc=>by have:=h c hc;lia),y9 (λc hc=>by
  show aj (cG hc) λd hd ay=>?_;subst ay;have:=y8 d (h d hd).2 (h d hd).1;lia),y9 (λc hc=>by have:=h c hc;lia),List.map_map]
 congr 1;show List.map_congr_left λc hc=>?_;show(y8 c (h c hc).2 (h c hc).1).2.2.2.1
def wI{l:List Nat}(hl:l.length<=1000000)(h:∀c∈l,31<c/\c≠127):gF (T l)=true:=by
 unfold gF;rw[yB,decide_eq_true hl,Bool.true_and,Array.all_eq_true'];intro c hc;have:c∈l:=by unfold T at hc;simpa using hc
 unfold nj;simp[(h c this).1,(h c this).2]
def Kl(eO:List Nat)(b:Nat):∀l:List (List Nat),(∀x∈l,x.length<=b)->(jk eO l).length<=l.length*(b+eO.length)
 |[],_=>by simp[jk]
 |[x],h=>by have:=h x (.head _);simp[jk];lia
 |x::y::r,h=>by
  have h1:=h x (.head _);have h2:=Kl eO b (y::r) λz hz=>h z (.tail _ hz);change(x++eO++jk eO (y::r)).length<=_;rw[List.length_append,List.length_append,List.length_cons,Nat.add_mul,Nat.one_mul];lia
def Wz:∀k,k<32->(qv k).length<=20:=by decide+kernel
def Dr(m:Nat):(sb m).length<=1000:=by
 have h1:((lW m).map qv).length<=32:=by
  rw[bq];unfold lW;show a9 (List.length_filter_le _ _) `S
 have h2:=Kl [44,32] 20 ((lW m).map qv) λx hx=>by
  show aj (cG hx) λk hk ay=>?_;subst ay;show Wz k (wH hk)
 have h3:((lW m).map qv).length*(20+[44,32].length)<=32*22:=Nat.mul_le_mul h1 `D;unfold sb;clear h1;lia
def zc(m:Nat):(dJ m).length<=1000:=by simp only[za,bq];show Dr m
def Km(m k:Nat):kg m k=m.testBit k:=by
 unfold kg;rw[Nat.testBit_eq_decide_div_mod_eq,Nat.shiftRight_eq_div_pow,Bool.eq_iff_iff];rfl
def WA{m m':Nat}(hm:m<2^32)(WB:m'<2^32)(h:dJ m=dJ m'):m=m':=by
 have hc:∀m,∀x∈(lW m).map pE,x≠[]/\∀c∈x,(c !=44)=true:=λm x hx=>by
  show aj (cG hx) λk hk ay=>?_;subst ay;have:=Ki k (wH hk);show⟨this.2.1,List.all_eq_true.mp this.2.2.2⟩
 have h1:=Kh _ _ (hc m) (hc m') h;have map_inj:∀(l l':List Nat),(∀k∈l,k<32)->(∀k∈l',k<32)->l.map pE=l'.map pE->l=l':=by
  intro l;induction l with
  |nil=>intro l' _ _ e;induction l' with|nil=>rfl|cons a b=>cases e
  |cons a b ih=>
   intro l' h1 h2 e;induction l' with
   |nil=>cases e
   |cons a' b'=>
    show aI (List.cons.inj e) λe1 e2=>?_;rw[Wx a (h1 a (.head _)) a' (h2 a' (.head _)) e1,ih b' (λk hk=>h1 k (.tail _ hk)) (λk hk=>h2 k (.tail _ hk)) e2]
 apply Nat.eq_of_testBit_eq;intro i;rcases Nat.lt_or_ge i 32 with hi|hi
 ·have e1:i∈lW m↔i∈lW m':=by rw[(map_inj _ _ (λk hk=>wH hk) (λk hk=>wH hk) h1:lW m=lW m')]
  unfold lW at e1;rw[List.mem_filter,List.mem_filter,List.mem_range,Km,Km]at e1;rw[Bool.eq_iff_iff];constructor
  ·intro q;show(e1.mp ⟨hi,q⟩).2
  ·intro q;show(e1.mpr ⟨hi,q⟩).2
 ·rw[Nat.testBit_lt_two_pow (Nat.lt_of_lt_of_le hm (Nat.pow_le_pow_right `D hi)),Nat.testBit_lt_two_pow (Nat.lt_of_lt_of_le WB (Nat.pow_le_pow_right `D hi))]
def Ds(m:Nat):∀c∈ef m,31<c/\c≠127/\c<256:=λc hc=>by
 show aj (cG hc) λd hd ay=>?_;subst ay;have:∀d,d<128->31<iA d/\iA d≠127/\iA d<256:=by decide+kernel
 show this d (IP m d hd)
def tT(m:Nat):(ef m).length<=6:=by unfold ef;rw[bq];show CH m
noncomputable abbrev KF:=Nat×Bool
abbrev aZ(lw k:Nat):Nat:=k*2^lw
abbrev bX(lw:Nat)(p:KF):Str:=if p.2=true then T (dJ (aZ lw p.1))else eF (aZ lw p.1)
abbrev bI(lw k:Nat):Str:=T (ef (aZ lw k))
abbrev d0(lw:Nat)(p:KF):Row:=(bX lw p,bI lw p.1)
abbrev gh(lw:Nat)(p:KF):Str×V:=(T (dJ (aZ lw p.1)),.str (bI lw p.1))
abbrev gI(kf:List KF)(k f:Nat):List KF:=if(kf.map (·.1)).contains f=true then kf else kf++[(f,k==1)]
abbrev cD:List KF->Nat->List Nat->List KF
 |kf,_,[]=>kf
 |kf,k,f::r=>cD (gI kf k f) (k+1) r
abbrev jB(ah:List cM)(aM:List Nat)(key:Nat):List Nat:=ah.map λr=>least (r.1|||dD key r.2) ah aM
abbrev runK(ah:List cM)(aM:List Nat):Nat->List Nat->List KF->Nat->Option (List KF)
 |0,_,_,_=>none
 |n+1,fd,kf,t=>if(cD kf 0 fd).length=t then some (cD kf 0 fd)else match(cD kf 0 fd)[t]?with
   |some p=>runK ah aM n (jB ah aM p.1) (cD kf 0 fd) (t+1)
   |none=>none
abbrev eL(k:Nat):Prop:=1<=k/\k<=31
def qw{lw k:Nat}(hl:lw<28)(hk:eL k):aZ lw k≠0/\aZ lw k<2^32:=by
 have h1:0<2^lw:=Nat.pow_pos `D;have h3:1*2^lw<=aZ lw k:=Nat.mul_le_mul_right _ hk.1;have h4:aZ lw k<=31*2^27:=Nat.mul_le_mul hk.2 (Nat.pow_le_pow_right `D (Nat.le_of_lt_succ hl):2^lw<=2^27);lia
def WC{lw k j:Nat}(h:aZ lw k=aZ lw j):k=j:=Nat.eq_of_mul_eq_mul_right (Nat.pow_pos `D) h
def wJ{lw k j:Nat}(hl:lw<28)(hk:eL k)(hj:eL j):(T (dJ (aZ lw k))=T (dJ (aZ lw j)))↔k=j:=
 ⟨λh=>WC (WA (qw hl hk).2 (qw hl hj).2 (yA h)),λh=>h▸rfl⟩
def sd(lw:Nat)(p:KF):Txt.lower (bX lw p)=T (dJ (aZ lw p.1)):=by
 unfold bX;split
 ·show Kk _
 ·show Dq _
def zd{lw f:Nat}(hl:lw<28)(hf:eL f):∀{kf:List KF},(∀p∈kf,eL p.1)->f∈kf.map (·.1)->iE (T (dJ (aZ lw f))) (kf.map (d0 lw))=some (bI lw f)
 |p::kf,hk,h=>by
  rw[List.map_cons];change(if Txt.lower (bX lw p)=_ then _ else _)=_;rw[sd];by_cases e:p.1=f
  ·rw[az ((wJ hl (hk p (.head _)) hf).mpr e)]
   change some (bI lw p.1)=_;rw[e]
  ·rw[aN (λq=>e ((wJ hl (hk p (.head _)) hf).mp q))]
   show zd hl hf (λq hq=>hk q (.tail _ hq)) ?_;rcases cj h with h|h
   ·show absurd h.symm e
   ·show h
def Dt{lw f:Nat}(hl:lw<28)(hf:eL f):∀{kf:List KF},(∀p∈kf,eL p.1)->f∉kf.map (·.1)->iE (T (dJ (aZ lw f))) (kf.map (d0 lw))=none
 |[],_,_=>rfl
 |p::kf,hk,h=>by
  rw[List.map_cons];change(if Txt.lower (bX lw p)=_ then _ else _)=_;rw[List.map_cons,List.mem_cons,not_or]at h;rw[sd,aN (λq=>h.1 ((wJ hl (hk p (.head _)) hf).mp q).symm)];show Dt hl hf (λq hq=>hk q (.tail _ hq)) h.2
def Du{lw f:Nat}(hl:lw<28)(hf:eL f):∀{kf:List KF},(∀p∈kf,eL p.1)->f∈kf.map (·.1)->(kf.map (gh lw)).lookup (T (dJ (aZ lw f)))=some (.str (bI lw f))
 |p::kf,hk,h=>by
  rw[List.map_cons];unfold gh;rw[bM];by_cases e:p.1=f
  ·rw[az (by rw[e]),e]
  ·rw[aN (λq=>e ((wJ hl hf (hk p (.head _))).mp q).symm)]
   show Du hl hf (λq hq=>hk q (.tail _ hq)) ?_;rcases cj h with h|h
   ·show absurd h.symm e
   ·show h
def wK{lw f:Nat}(hl:lw<28)(hf:eL f):∀{kf:List KF},(∀p∈kf,eL p.1)->f∉kf.map (·.1)->(kf.map (gh lw)).lookup (T (dJ (aZ lw f)))=none
 |[],_,_=>rfl
 |p::kf,hk,h=>by
  rw[List.map_cons];unfold gh;rw[List.map_cons,List.mem_cons,not_or]at h;rw[bM,aN (λq=>h.1 ((wJ hl hf (hk p (.head _))).mp q))];show wK hl hf (λq hq=>hk q (.tail _ hq)) h.2
def Kn{x:Str}{v:V}:∀{l:List (Str×V)},l.lookup x=none->cw x v l=l++[(x,v)]
 |[],_=>rfl
 |(y,u)::l,h=>by
  rw[bM]at h;by_cases e:x=y
  ·rw[az e]at h;cases h
  ·rw[aN e]at h
   rw[show cw _ _ ((y,u)::l)=(y,u)::cw _ _ l from aN (Ne.symm e),Kn h];rfl
def Dv(lw:Nat)(p:KF):∃l,bX lw p=T l/\l.length<=1000/\∀c∈l,31<c/\c<127:=by
 unfold bX;split
 ·show bj _ rfl (zc _) (zb _)
 ·show bj _ (Dp _) (Dr _) (tS _)
def ze(lw:Nat)(p:KF):cg (bX lw p)=true:=by
 show bK (Dv lw p) λl h hl _=>?_;simp only[h,yB];simp;show a9 `A `D
def WD(lw:Nat)(p:KF):gF (bX lw p)=true:=by
 show bK (Dv lw p) λl h hl hc=>?_;rw[h];show wI (by show a9 `A `D) λc g6=>⟨(hc c g6).1,by have:=hc c g6;lia⟩
def WE(lw:Nat)(p:KF):gF (Txt.lower (bX lw p))=true:=by
 rw[sd];show wI (by have:=zc (aZ lw p.1);show a9 `A `D) λc g6=>by have:=zb _ c g6;clear g6 p;lia
def WG(lw k:Nat):gF (bI lw k)=true:=wI (by have:=tT (aZ lw k);show a9 `A `D) λc hc=>⟨(Ds _ c hc).1,(Ds _ c hc).2.1⟩
set_option genInjectivity false in
set_option genSizeOf false in
structure KI where
 x:eQ
 (t td th jd jc ty:Nat)
 tv:List V
structure KH(O:Hp)(a:Ad)(i:KI)(ak r:List Nat)(push:List V)(N:Nat)(L:List Row)(D:List (Str×V))(cm:List V):Prop where
 lex:de O a i.x ak r push N
 tab:TabAt O a.headers i.t i.td i.th L
 laid:O[i.jd]? =some (.dict D)
 ki:O[i.jc]? =some (.list cm)
 d1:i.th∉i.x.all
 d2:i.jc∉i.x.all
 d3:i.th≠i.jc
 d4:i.jd∉i.x.all
 keep:O[i.ty]? =some (.list i.tv)
 d5:i.ty∉i.x.all
 d6:i.ty≠i.th
 d7:i.ty≠i.jc
variable{i:KI}{cm:List V}{D:List (Str×V)}
def TabAt.same{C:Addr}{t td th:Nat}(h:TabAt O C t td th L)(e:∀j,j=t\/j=td\/j=th->aa[j]? =O[j]?):TabAt aa C t td th L:=⟨(e _ `S).trans h.inst,(e _ `S).trans h.attrs,(e _ `S).trans h.rows⟩
def KH.grow(h:KH O a i ak r push N L D cm)(l:Hp):KH (O++l) a i ak r push N L D cm:=by
 have g:∀j o,O[j]? =some o->(O++l)[j]? =some o:=λj o e=>by show(il (cQ e).1).trans e
 symm
 obtain⟨⟨p,line,hx,k⟩,h2,h3,h4,d1,d2,d3,d4,h5,d5,d6,d7⟩:=h;left;show⟨(c8 p line ?_ k),⟨g _ _ h2.inst,g _ _ h2.attrs,g _ _ h2.rows⟩,g _ _ h3,g _ _ h4,d1,d2,d3,d4,g _ _ h5,d5,d6,d7⟩
 symm
 obtain⟨k1,⟨l1,k2,k3⟩,k4,k5,⟨l2,k6,k7⟩,k8,k9,WH⟩:=hx;left;show⟨g _ _ k1,(aA l1 (g _ _ k2) k3),g _ _ k4,g _ _ k5,(aA l2 (g _ _ k6) k7),g _ _ k8,k9,WH⟩
def KH.WI(h:KH O a i ak r push N L D cm)(L':List Row):KH (O.set i.th (.list (L'.map gG))) a i ak r push N L' D cm:=by
 have g:∀j,j≠i.th->(O.set i.th (.list (L'.map gG)))[j]? =O[j]? :=λj hj=>List.getElem?_set_ne (Ne.symm hj);show⟨h.lex.same λj hj=>g j λq=>h.d1 (q▸hj),⟨(g _ (eK h.tab.inst h.tab.rows `S)).trans h.tab.inst,(g _ (eK h.tab.attrs h.tab.rows `S)).trans h.tab.attrs,List.getElem?_set_self ((cQ h.tab.rows).1:i.th<O.length)⟩,(g _ (eK h.laid h.tab.rows `S)).trans h.laid,(g _ (Ne.symm h.d3)).trans h.ki,h.d1,h.d2,h.d3,h.d4,(g _ h.d6).trans h.keep,h.d5,h.d6,h.d7⟩
def KH.WJ(h:KH O a i ak r push N L D cm)(D':List (Str×V)):KH (O.set i.jd (.dict D')) a i ak r push N L D' cm:=by
 have g:∀j,j≠i.jd->(O.set i.jd (.dict D'))[j]? =O[j]? :=λj hj=>List.getElem?_set_ne (Ne.symm hj);show⟨h.lex.same λj hj=>g j λq=>h.d4 (q▸hj),⟨(g _ (eK h.tab.inst h.laid `S)).trans h.tab.inst,(g _ (eK h.tab.attrs h.laid `S)).trans h.tab.attrs,(g _ (eK h.tab.rows h.laid `S)).trans h.tab.rows⟩,List.getElem?_set_self ((cQ h.laid).1:i.jd<O.length),(g _ (eK h.ki h.laid `S)).trans h.ki,h.d1,h.d2,h.d3,h.d4,(g _ (eK h.keep h.laid `S)).trans h.keep,h.d5,h.d6,h.d7⟩
def KH.WK(h:KH O a i ak r push N L D cm)(Dw:List V):KH (O.set i.jc (.list Dw)) a i ak r push N L D Dw:=by
 have g:∀j,j≠i.jc->(O.set i.jc (.list Dw))[j]? =O[j]? :=λj hj=>List.getElem?_set_ne (Ne.symm hj);show⟨h.lex.same λj hj=>g j λq=>h.d2 (q▸hj),⟨(g _ (eK h.tab.inst h.ki `S)).trans h.tab.inst,(g _ (eK h.tab.attrs h.ki `S)).trans h.tab.attrs,(g _ h.d3).trans h.tab.rows⟩,(g _ (eK h.laid h.ki `S)).trans h.laid,List.getElem?_set_self ((cQ h.ki).1:i.jc<O.length),h.d1,h.d2,h.d3,h.d4,(g _ h.d7).trans h.keep,h.d5,h.d6,h.d7⟩
def KH.Ko(h:KH O a i ak r push N L D cm)(q:List V):KH (O.set i.x.Lp (.list q)) a i ak r q N L D cm:=by
 have hm:i.x.Lp∈i.x.all:=by unfold eQ.all;simp
 have hp:=h.lex.r9;have g:∀j,j≠i.x.Lp->(O.set i.x.Lp (.list q))[j]? =O[j]? :=λj hj=>List.getElem?_set_ne (Ne.symm hj);show⟨h.lex.Df q,⟨(g _ (eK h.tab.inst hp `S)).trans h.tab.inst,(g _ (eK h.tab.attrs hp `S)).trans h.tab.attrs,(g _ (λe=>h.d1 (by rw[e];show hm))).trans h.tab.rows⟩,(g _ (eK h.laid hp `S)).trans h.laid,(g _ (λe=>h.d2 (by rw[e];show hm))).trans h.ki,h.d1,h.d2,h.d3,h.d4,(g _ (λe=>h.d5 (by rw[e];show hm))).trans h.keep,h.d5,h.d6,h.d7⟩
structure ik(F:aG)(a:Ad)(i:KI)(ak:List Nat)(dM:V):Prop where
 pretty:∀m O,m≠0->m<2^32->F (.con (.ref a.pretty)) [iV m] [] O=some (.str (eF m),O++[.list ((fS m).map V.str)])
 octets:∀m O,F (.con (.ref a.octets)) [iV m] [] O=some (.str (T (ef m)),O)
 least:∀iD ah aM O,F (.con (.ref a.least)) [iV iD,dP ah,bh aM] [] O=some (iV (least iD ah aM),O)
 keys:∀L O,TabAt O a.headers i.t i.td i.th L->L.length<1000->F (.con (.ref a.tA)) [.ref i.t] [] O=some (.lst (L.map λr=> .str r.1),O)
 len:Dc F
 low:qo F
 up:Jn F
 set:∀L O (x v:Str),TabAt O a.headers i.t i.td i.th L->L.length<1000->(∀r∈L,cg r.1=true)->gF x=true->gF (Txt.lower x)=true->gF v=true->
  F (.con (.ref a.info)) [.str x,.dO (.ref a.qm) (.ref i.t)] [(`value,.str v)] O=some (.tup [.str (qp (Txt.lower x) v L),.str (qp (Txt.lower x) v L)],match iE (Txt.lower x) L with|some _=>O++[bx.dict [(`value,.str v)]]|none=>(O++[bx.dict [(`value,.str v)]]).set i.th (.list ((L++[(x,v)]).map gG)))
 get:∀L O (x:Str) (u:Str),TabAt O a.headers i.t i.td i.th L->L.length<1000->(∀r∈L,cg r.1=true)->cg x=true->gF (Txt.lower x)=true->iE (Txt.lower x) L=some u->
  F (.con (.ref a.info)) [.str x,.dO (.ref a.rE) (.ref i.t)] [] O=some (.tup [.str u,.str u],O++[.dict []])
 none:∀(x:Str) O,F (.con (.ref a.info)) [.str x,.none] [] O=some (.tup [dM,.str ("":Str)],O++[.dict []])
 wx:J7 F a i.x ak
 tok:tP F a i.x ak
 Kp:∀(j:Nat) (D:List (Str×V)) (x:Str) (d:V) O,O[j]? =some (.dict D)->F (.con (.builtin "dict.get")) [.ref j,.str x,d] [] O=some ((D.lookup x).getD d,O)
 iter:∀(l:List V) O,F (.con (.builtin "iter")) [.lst l] [] O=some (.ref O.length,O++[.cA l 0])
 lR:∀(j k val:Nat) (l aV:List Nat) O,O[j]? =some (.cA (cL l) k)->kD 0 (l.drop k)=some (val,aV)->val<2^60->l.length<900->∃k',l.drop k'=aV/\F (.con (.ref a.lR)) [.ref j] [] O=some (iV val,O.set j (.cA (cL l) k'))
 ord:pA F
 dU:mH F
 app:rK F
structure lr(K:W.Frag)(a:Ad):Prop where
 pretty:c7 K "pretty_flags" (.con (.ref a.pretty))
 octets:c7 K "_law_octets" (.con (.ref a.octets))
 least:c7 K "_law_least" (.con (.ref a.least))
 info:c7 K "_get_name_info" (.con (.ref a.info))
 lR:c7 K "_parse_varint" (.con (.ref a.lR))
structure KR(J:ab)(i:KI)(ah:List cM)(aM:List Nat)(lw wt:Nat):Prop where
 lS:J.lookup `lexer=some (.ref i.x.L)
 table:J.lookup `table=some (.ref i.t)
 ah:J.lookup `rules=some (dP ah)
 aM:J.lookup `order=some (bh aM)
 low:J.lookup `low=some (iV lw)
 ki:J.lookup `came=some (.ref i.jc)
 laid:J.lookup `laid=some (.ref i.jd)
 waiting:J.lookup `waiting=some (iV wt)
abbrev Dx:List Str:=["lexer","table","rules","order","low","came","laid","waiting"]
def KR.cons{J:ab}{i:KI}{ah:List cM}{aM:List Nat}{lw wt:Nat}(h:KR J i ah aM lw wt)(y:Str)(v:V)(hy:Dx.contains y=false):KR ((y,v)::J) i ah aM lw wt:=by
 have ne:∀z,Dx.contains z=true->z≠y:=λz hz e=>by rw[e,hy]at hz;cases hz
 have g:∀z u,Dx.contains z=true->J.lookup z=some u->List.lookup z ((y,v)::J)=some u:=λz u hz e=>by rw[bM,aN (ne z hz)];show e
 show⟨g _ _ `D h.lS,g _ _ `D h.table,g _ _ `D h.ah,g _ _ `D h.aM,g _ _ `D h.low,g _ _ `D h.ki,g _ _ `D h.laid,g _ _ `D h.waiting⟩
def KR.wait{J:ab}{i:KI}{ah:List cM}{aM:List Nat}{lw wt:Nat}(h:KR J i ah aM lw wt)(Dy:Nat):KR ((`waiting,iV Dy)::J) i ah aM lw Dy:=by
 have g:∀z u,z≠`waiting->J.lookup z=some u->List.lookup z ((`waiting,iV Dy)::J)=some u:=λz u hz e=>by rw[bM,aN hz];show e
 show⟨g _ _ `D h.lS,g _ _ `D h.table,g _ _ `D h.ah,g _ _ `D h.aM,g _ _ `D h.low,g _ _ `D h.ki,g _ _ `D h.laid,by show rfl⟩
end
section
variable{K:W.Frag}{F:aG}{O cH ag aa:Hp}{J a6:ab}{n:Nat}{a:Ad}{i:KI}{ak r:List Nat}{N:Nat}{push cm:List V}{L:List Row}{D:List (Str×V)}{dM:V}{ah:List cM}{aM Fd:List Nat}{lw wt k f:Nat}{x:Str}
def bG{x:Str}{v:V}(h:J.lookup x=some v):lk J x O=some (v,O):=by show ic h
abbrev qx(J:ab):M V:=av .LShift (bl (lk J `found) (lk J `k)) (lk J `low)
def Kq{f l:Nat}(hf:f<=31)(hl:l<28):(f:Int).natAbs<2^64/\(0:Int)<=(l:Int)/\(l:Int)<=64:=(cW (by show gM hf `D) (Int.natCast_nonneg _) (Int.ofNat_le.mpr (a9 (Nat.le_of_lt hl) `D)))
def Kr(h1:J.lookup `found=some (bh Fd))(h2:J.lookup `k=some (iV k))(h3:J.lookup `low=some (iV lw))(hf:Fd[k]? =some f)(hF:Fd.length<=1000)(hl:lw<28)(hb:eL f):qx J O=some (iV (aZ lw f),O):=by
 have e1:bl (lk J `found) (lk J `k) O=some (iV f,O):=ig (u:=bh Fd) (w:=iV k) (bG h1) (bG h2) (tI (by rw[bq];show a9 `A `D) (by simp only[List.getElem?_map,hf];rfl));delta qx av;simp only[aK,e1];simp only[aK,bG h3];change fk .LShift (.int (f:Int)) (.int (lw:Int)) O=_;rw[CD,az (Kq hb.2 hl),Int.toNat_natCast];rfl
abbrev zf(K:W.Frag)(F:aG)(J:ab):M V:=eN (aQ K (lk J `k) [.Eq] [(pure (.int 1))]) (a4 K F (aL K F (gl K `pretty_flags) [qx J] [] []) `lower [] [] []) (aL K F (gl K `pretty_flags) [qx J] [] [])
def Ks(m:Nat):cg (eF m)=true:=by simp only[Dp,yB];have:=Dr m;simp;show a9 `A `D
def WL(hF:ik F a i ak dM)(hG:lr K a)(h1:J.lookup `found=some (bh Fd))(h2:J.lookup `k=some (iV k))(h3:J.lookup `low=some (iV lw))(hf:Fd[k]? =some f)(pF:Fd.length<=1000)(hl:lw<28)(hb:eL f):∃g,zf K F J O=some (.str (bX lw (f,k==1)),O++[g]):=by
 show⟨.list ((fS (aZ lw f)).map V.str),?_⟩;have ep:aL K F (gl K `pretty_flags) [qx J] [] [] O=some (.str (eF (aZ lw f)),O++[.list ((fS (aZ lw f)).map V.str)]):=by
  simp only[bZ hG.pretty,bF,Kr h1 h2 h3 hf pF hl hb];show hF.pretty _ O (qw hl hb).1 (qw hl hb).2
 delta zf eN;simp only[aK];have ht:aQ K (lk J `k) [.Eq] [(pure (.int 1))] O=some (k==1,O):=by
  have:(((k:Nat):Int)==1)=(k==1):=rJ k 1;simp! only[h2,this]
 simp only[ht];cases hk:(k==1)
 ·show ep
 ·change a4 K F _ _ _ _ _ O=_
  rw[rP hF.low ep (Ks _),Dq];rfl
abbrev kl(K:W.Frag)(F:aG)(J:ab):M V:=a4 K F (lk J `name) `lower [] [] []
def tU(hF:ik F a i ak dM){p:KF}(h:J.lookup `name=some (.str (bX lw p))):kl K F J O=some (.str (T (dJ (aZ lw p.1))),O):=by
 unfold kl;rw[rP hF.low (bG h) (ze lw p),sd]
abbrev wL(K:W.Frag)(F:aG)(J:ab):M V:=aL K F (gl K `len) [(a4 K F (lk J `table) `keys [] [] [])] [] []
def Dz(kb:KB K)(hk:HK K a)(hF:ik F a i ak dM)(h:TabAt O a.headers i.t i.td i.th L)(hL:L.length<1000)(h1:J.lookup `table=some (.ref i.t)):wL K F J O=some (iV L.length,O):=by
 have e1:a4 K F (lk J `table) `keys [] [] [] O=some (.lst (L.map λr=> .str r.1),O):=by
  simp only[ke (v:= .ref i.t) (ag:=O) (bG h1) (qn hk.keys h.cY (rO _ `D)) hk.keys.keep,mB];show hF.keys L O h hL
 unfold wL;simp only[bZ kb.len,bF,e1];have:=hF.len (L.map λr=>V.str r.1) O (by rw[bq];lia);rw[bq]at this;show this
def WM(hF:ik F a i ak dM)(hG:lr K a)(h1:J.lookup `found=some (bh Fd))(h2:J.lookup `k=some (iV k))(h3:J.lookup `low=some (iV lw))(hf:Fd[k]? =some f)(pF:Fd.length<=1000)(hl:lw<28)(hb:eL f):aL K F (gl K `_law_octets) [qx J] [] [] O=some (.str (bI lw f),O):=by
 simp only[bZ hG.octets,bF,Kr h1 h2 h3 hf pF hl hb];show hF.octets _ O
abbrev zg(K:W.Frag)(F:aG)(J:ab):M V:=eN (aQ K (kl K F J) [.In] [(lk J `laid)]) (av .Add (pure (.str ("@":Str))) (lk J `octets)) (lk J `octets)
def WN(hF:ik F a i ak dM)(hd:O[i.jd]? =some (.dict D)){p:KF}(h:J.lookup `name=some (.str (bX lw p)))(h1:J.lookup `laid=some (.ref i.jd))(h2:J.lookup `octets=some (.str (bI lw f))):
  ∃v,zg K F J O=some (.str v,O)/\gF v=true/\(D.lookup (T (dJ (aZ lw p.1)))=none->v=bI lw f):=by
 have ht:aQ K (kl K F J) [.In] [(lk J `laid)] O=some ((D.lookup (T (dJ (aZ lw p.1)))).isSome,O):=by
  unfold aQ;rw[aK,tU hF h];change(lk J `laid>>=λb=>eA K .In (.str (T (dJ (aZ lw p.1)))) b) O=_;rw[aK,bG h1];change vD (T (dJ (aZ lw p.1))) i.jd O=_;unfold vD;rw[hd]
 delta zg eN;simp only[aK,ht];cases hD:D.lookup (T (dJ (aZ lw p.1)))with
 |none=>show bj (bI lw f) (bG h2) (WG lw f) (λ_=>rfl)
 |some u=>
  show bj (T (64::ef (aZ lw f))) ?_ (wI (by have:=tT (aZ lw f);simp;show a9 `A `D) (λc hc=>?_)) (λq=>by cases q)
  ·change av .Add (pure (.str ("@":Str))) (lk J `octets) O=_
   show yS (x:=[64]) (y:=ef (aZ lw f)) rfl (bG h2) `S (by have:=tT (aZ lw f);show a9 `A `D)
  ·rcases cj hc with rfl|hc
   ·decide
   ·have:=Ds _ c hc;lia
variable{kf:List KF}
def WO{x y:Str}{v:V}(h:c7 K x v)(ms:List (M V))(k:M V)(O:Hp):aL K F (gl K x) ms [y] [k] O=(dR ms O).bind λp=>(k p.2).bind λq=>F v p.1 [(y,q.1)] q.2:=by
 delta aL gl;simp only[aK,fY,h.val];change(if gq K v=true then kz F v [] ms [y] [k]else au) O=_;rw[az h.keep,IE];rfl
abbrev zh(K:W.Frag)(F:aG)(J:ab):M V:=a4 K F (lk J `laid) `get [(kl K F J),(lk J `octets)] [] []
def WQ{j:Nat}{D:List (Str×V)}(h:O[j]? =some (.dict D)):gR K (.ref j) "get" O=some ((.con (.builtin "dict.get"),[.ref j]),O):=by
 change(match O[j]?with|some (.list _)=>_|some (.dict _)=>(vA `get).map λid=>((V.con (.builtin id),[V.ref j]),O)|some (.inst ..)=>_|_=>none)=_;rw[h];rfl
def WR(hF:ik F a i ak dM)(hd:O[i.jd]? =some (.dict D)){p:KF}{d:V}(h:J.lookup `name=some (.str (bX lw p)))(h1:J.lookup `laid=some (.ref i.jd))(h2:J.lookup `octets=some d):zh K F J O=some ((D.lookup (T (dJ (aZ lw p.1)))).getD d,O):=by
 unfold zh;rw[ke (v:= .ref i.jd) (ag:=O) (bG h1) (WQ hd) rfl,bF,tU hF h];change((dR [lk J `octets] O).bind _).bind _=_;rw[bF,bG h2];show hF.Kp _ _ _ _ _ hd
abbrev DA(K:W.Frag)(F:aG)(J:ab):M Bool:=aQ K (aL K F (gl K `_get_name_info) [(lk J `name),(d9 K (lk J `table) `setdefault)] [`value] [(lk J `handed)]) [.NotEq] [(dA [(lk J `due),(lk J `due)])]
def Kt(x:Str):eA K .NotEq (.tup [.str x,.str x]) (.tup [.str x,.str x]) O=some (false,O):=by
 change(bJ ((dy 8 (.tup [.str x,.str x]) (.tup [.str x,.str x])).map (!·)):M Bool) O=_;have:dy 8 (.tup [.str x,.str x]) (.tup [.str x,.str x])=some true:=by
  change lE (dy 7) [V.str x,.str x] [V.str x,.str x]=_;have e:dy 7 (.str x) (.str x)=some true:=by change some (x==x)=_;simp
  change(dy 7 (V.str x) (.str x)).bind (λu=>((dy 7 (V.str x) (.str x)).bind λu'=>(some true).map (u'&&·)).map (u&&·))=_;rw[e];rfl
 rw[this];rfl
def Ku(lw:Nat)(kf:List KF):∀r∈kf.map (d0 lw),cg r.1=true:=λr hr=>by
 show aj (cG hr) λp _ ay=>?_;subst ay;show ze lw p
def WS(hk:HK K a)(hF:ik F a i ak dM)(hG:lr K a)(h:TabAt O a.headers i.t i.td i.th (kf.map (d0 lw)))(hL:kf.length<1000){p:KF}{v u:Str}(h1:J.lookup `name=some (.str (bX lw p)))(h2:J.lookup `table=some (.ref i.t))(h3:J.lookup `handed=some (.str v))(h4:J.lookup `due=some (.str u))(hv:gF v=true)
  (hu:qp (T (dJ (aZ lw p.1))) v (kf.map (d0 lw))=u):DA K F J O=some (false,match iE (T (dJ (aZ lw p.1))) (kf.map (d0 lw))with|some _=>O++[bx.dict [(`value,.str v)]]|none=>(O++[bx.dict [(`value,.str v)]]).set i.th (.list ((kf.map (d0 lw)++[(bX lw p,v)]).map gG))):=by
 have hs:=hF.set (kf.map (d0 lw)) O (bX lw p) v h (by rw[bq];show hL) (Ku lw kf) (WD lw p) (WE lw p) hv;rw[sd,hu]at hs;delta DA aQ;rw[aK,WO hG.info,bF,bG h1];change((((dR [d9 K (lk J `table) `setdefault] O).bind λq=>some (V.str (bX lw p)::q.1,q.2)).bind λp=>(lk J `handed p.2).bind λq=>F (.con (.ref a.info)) p.1 [(`value,q.1)] q.2).bind _)=_;rw[bF,(mI (bG h2) (CU hk.set h.cY (rO _ `D)):d9 K (lk J `table) `setdefault O=some (.dO (.ref a.qm) (.ref i.t),O))];change(((lk J `handed O).bind λq=>F (.con (.ref a.info)) [.str (bX lw p),.dO (.ref a.qm) (.ref i.t)] [(`value,q.1)] q.2).bind _)=_;rw[bG h3];change((F (.con (.ref a.info)) [.str (bX lw p),.dO (.ref a.qm) (.ref i.t)] [(`value,.str v)] O).bind _)=_;rw[hs];change iK (eA K) (.tup [.str u,.str u]) [.NotEq] [dA [(lk J `due),(lk J `due)]] _=some (false,_);rw[qk,aK,nB (bG h4) (bG h4)];show Kt (K:=K) u
abbrev wM(K:W.Frag)(F:aG)(J:ab):M Bool:=eu .And [(aQ K (wL K F J) [.Gt] [(lk J `rows)]),(aQ K (a4 K F (lk J `lexer) `push_token [(lk J `name)] [] []) [.Is] [(pure .none)])]
def Kv{m1:M V}{m q:Nat}(h1:m1 O=some (iV m,O))(h2:J.lookup `rows=some (iV q)):aQ K m1 [.Gt] [(lk J `rows)] O=some (decide (q<m),O):=by
 unfold aQ;simp only[aK,h1];change iK (eA K) (iV m) [.Gt] [lk J `rows] O=_;simp only[qk,aK,bG h2];change some (decide ((q:Int)<(m:Int)),O)=_;congr 2;rw[decide_eq_decide];omega
def WT(kb:KB K)(hk:HK K a)(hF:ik F a i ak dM)(h:TabAt O a.headers i.t i.td i.th L)(hL:L.length<1000)(h1:J.lookup `table=some (.ref i.t))(h2:J.lookup `rows=some (iV L.length)):wM K F J O=some (false,O):=by
 unfold wM;simp only[all_cons,aK,Kv (Dz kb hk hF h hL h1) h2];change(if(decide (L.length<L.length))=true then _ else pure false:M Bool) O=_;rw[aN `S];rfl
def WU(kb:KB K)(hk:HK K a)(hn:NK K a)(hF:ik F a i ak dM)(h:KH O a i ak r push N L D cm)(hL:L.length<1000)(hp:push.length<=1000){q:Nat}{u:V}(h1:J.lookup `table=some (.ref i.t))(h2:J.lookup `rows=some (iV q))(hq:q<L.length)(h3:J.lookup `lexer=some (.ref i.x.L))(h4:J.lookup `name=some u):wM K F J O=some (true,O.set i.x.Lp (.list (push++[u]))):=by
 have e1:a4 K F (lk J `lexer) `push_token [(lk J `name)] [] [] O=some (.none,O.set i.x.Lp (.list (push++[u]))):=by
  rw[ke (v:= .ref i.x.L) (ag:=O) (bG h3) (Wk hn h.lex) hn.wx.keep,bF,bG h4];show hF.wx _ _ _ _ _ hp h.lex
 unfold wM;rw[all_cons,aK,Kv (Dz kb hk hF h.tab hL h1) h2];change(if(decide (q<L.length))=true then _ else pure false:M Bool) O=_;rw[az (by simpa using hq),all_cons,aK];have e2:aQ K (a4 K F (lk J `lexer) `push_token [(lk J `name)] [] []) [.Is] [(pure .none)] O=some (true,O.set i.x.Lp (.list (push++[u]))):=by
  unfold aQ;simp only[aK,e1];rfl
 rw[e2];rfl
abbrev DB(K:W.Frag)(F:aG)(J:ab):M (ab×Fl):=ar (bH `name (zf K F J) J) λJ=>ar (j9 [`octets,`rows] (dA [(aL K F (gl K `_law_octets) [qx J] [] []),(wL K F J)]) J) λJ=>ar (bH `handed (zg K F J) J) λJ=>ar (bH `due (zh K F J) J) λJ=>
 ar (c6 (DA K F J) (ar (cK (ix []) J) λJ=>aE J) (aE J)) λJ=>ar (c6 (wM K F J) (ar (pe (lk J `laid) (kl K F J) (lk J `octets) J) λJ=>ar (bH `waiting (av .Add (lk J `waiting) (pure (.int 1))) J) λJ=>aE J) (aE J)) λJ=>aE J
def Kw{m:M V}{u v:V}{x y:Str}(h:m O=some (.tup [u,v],ag)):j9 [x,y] m J O=some (((y,v)::(x,u)::J,.next),ag):=by
 unfold j9;rw[aK,h];rfl
noncomputable abbrev fy(lw:Nat)(kf:List KF)(t:Nat):List V:=(kf.drop t).map λp=>V.str (bX lw p)
def WV(kb:KB K)(hk:HK K a)(hn:NK K a)(hF:ik F a i ak dM)(hG:lr K a)(hl:lw<28){t:Nat}(ht:t<=kf.length)(jl:∀p∈kf,eL p.1)(bV:kf.length<=100)(hb:eL f)(oq:Fd[k]? =some f)(pF:Fd.length<=1000)(h:KH O a i ak r (fy lw kf t) N (kf.map (d0 lw)) (kf.map (gh lw)) cm)
  (hr:KR J i ah aM lw (kf.length-t)) (h1:J.lookup `found=some (bh Fd)) (h2:J.lookup `k=some (iV k)):
  ∃aO aa,DB K F J O=some ((aO,.next),aa)/\KH aa a i ak r (fy lw (gI kf k f) t) N ((gI kf k f).map (d0 lw)) ((gI kf k f).map (gh lw)) cm/\KR aO i ah aM lw ((gI kf k f).length-t)/\aO.lookup `found=some (bh Fd):=by
 show aU (WL (K:=K) (O:=O) hF hG h1 h2 hr.low oq pF hl hb) λg e1=>?_;have tV:=h.grow [g];have aF:=hr.cons "name" (.str (bX lw (f,k==1))) `D;have f1:List.lookup `found ((`name,V.str (bX lw (f,k==1)))::J)=some (bh Fd):=h1;have k1:List.lookup `k ((`name,V.str (bX lw (f,k==1)))::J)=some (iV k):=(h2).trans rfl;have Kx:(kf.map (d0 lw)).length<1000:=by rw[bq];lia
 have e2:=nB (WM (K:=K) (O:=O++[g]) hF hG f1 k1 aF.low oq pF hl hb) (Dz kb hk hF tV.tab Kx aF.table);rw[bq]at e2;have ay:=(aF.cons "octets" (.str (bI lw f)) `D).cons "rows" (iV kf.length) `D;have n2:List.lookup `name ((`rows,iV kf.length)::(`octets,V.str (bI lw f))::(`name,V.str (bX lw (f,k==1)))::J)=some (.str (bX lw (f,k==1))):=by rfl
 have o2:List.lookup `octets ((`rows,iV kf.length)::(`octets,V.str (bI lw f))::(`name,V.str (bX lw (f,k==1)))::J)=some (.str (bI lw f)):=rfl;show bK (WN (K:=K) (lw:=lw) (f:=f) (p:=(f,k==1)) hF tV.laid n2 ay.laid o2) λv e3 hv Ky=>?_;have eW:=ay.cons "handed" (.str v) `D;have e4:=WR (K:=K) (p:=(f,k==1)) hF tV.laid (J:=(`handed,.str v)::(`rows,iV kf.length)::(`octets,V.str (bI lw f))::(`name,V.str (bX lw (f,k==1)))::J) (lw:=lw) (d:= .str (bI lw f)) (by rfl) eW.laid rfl;have WW:((kf.map (gh lw)).lookup (T (dJ (aZ lw f)))).getD (.str (bI lw f))= .str (bI lw f):=by
  by_cases hm:f∈kf.map (·.1)
  ·rw[Du hl hb jl hm];rfl
  ·rw[wK hl hb jl hm];rfl
 rw[WW]at e4;have dW:=eW.cons "due" (.str (bI lw f)) `D;have hold:qp (T (dJ (aZ lw f))) v (kf.map (d0 lw))=bI lw f:=by
  unfold qp;by_cases hm:f∈kf.map (·.1)
  ·rw[zd hl hb jl hm];rfl
  ·rw[Dt hl hb jl hm]
   show Ky (wK hl hb jl hm)
 have e5:=WS (K:=K) (F:=F) (O:=O++[g]) (J:=(`due,.str (bI lw f))::(`handed,.str v)::(`rows,iV kf.length)::(`octets,V.str (bI lw f))::(`name,V.str (bX lw (f,k==1)))::J) (p:=(f,k==1)) (v:=v) (u:=bI lw f) hk hF hG tV.tab `L (by rfl) dW.table rfl (by rfl) hv hold;have zi:List.lookup `name ((`due,.str (bI lw f))::(`handed,.str v)::(`rows,iV kf.length)::(`octets,V.str (bI lw f))::(`name,V.str (bX lw (f,k==1)))::J)=some (.str (bX lw (f,k==1))):=(by kernel_rfl);have Kz:List.lookup `rows ((`due,.str (bI lw f))::(`handed,.str v)::(`rows,iV kf.length)::(`octets,V.str (bI lw f))::(`name,V.str (bX lw (f,k==1)))::J)=some (iV kf.length):=by rfl
 have WX:List.lookup `octets ((`due,.str (bI lw f))::(`handed,.str v)::(`rows,iV kf.length)::(`octets,V.str (bI lw f))::(`name,V.str (bX lw (f,k==1)))::J)=some (.str (bI lw f)):=by simp(decide:=true) only[bM,if_true,if_false]
 have xZ:List.lookup `found ((`due,.str (bI lw f))::(`handed,.str v)::(`rows,iV kf.length)::(`octets,V.str (bI lw f))::(`name,V.str (bX lw (f,k==1)))::J)=some (bh Fd):=h1;have KA:∀R:ab->M (ab×Fl),(ar (bH `name (zf K F J) J) λJ=>ar (j9 [`octets,`rows] (dA [(aL K F (gl K `_law_octets) [qx J] [] []),(wL K F J)]) J) λJ=>ar (bH `handed (zg K F J) J) λJ=>ar (bH `due (zh K F J) J) R) O=R ((`due,.str (bI lw f))::(`handed,.str v)::(`rows,iV kf.length)::(`octets,V.str (bI lw f))::(`name,V.str (bX lw (f,k==1)))::J) (O++[g]):=λR=>
  (dn (eE e1)).trans ((dn (Kw e2)).trans ((dn (eE e3)).trans (dn (eE e4))))
 generalize((`due,V.str (bI lw f))::(`handed,.str v)::(`rows,iV kf.length)::(`octets,V.str (bI lw f))::(`name,V.str (bX lw (f,k==1)))::J)=cV at*;by_cases hm:f∈kf.map (·.1)
 ·rw[zd hl hb jl hm]at e5
  have wN:=tV.grow [bx.dict [(`value,.str v)]];have DC:gI kf k f=kf:=by unfold gI;show(az (List.contains_iff_mem.mpr hm)).trans rfl
  rw[DC];show⟨cV,_,?_,wN,dW,xZ⟩;show(KA _).trans ((dn (a6:=cV) (ag:=O++[g]++[bx.dict [(`value,.str v)]]) (gw e5)).trans ?_);have e6:=WT (K:=K) (J:=cV) kb hk hF wN.tab Kx dW.table (by rw[bq];show Kz);show(dn (gw e6)).trans rfl
 ·rw[Dt hl hb jl hm]at e5
  have DC:gI kf k f=kf++[(f,k==1)]:=by unfold gI;show(aN (λq=>hm (List.contains_iff_mem.mp q))).trans rfl
  have WY:v=bI lw f:=Ky (wK hl hb jl hm);have wN:=(tV.grow [bx.dict [(`value,.str v)]]).WI (kf.map (d0 lw)++[(bX lw (f,k==1),v)]);have e6:=WU (J:=cV) (u:= .str (bX lw (f,k==1))) (q:=kf.length) kb hk hn hF wN (by simp only[List.length_append,bq,List.length_singleton];lia) (by simp only[bq,List.length_drop];lia) dW.table Kz (by simp only[List.length_append,bq,List.length_singleton];simp) dW.lS zi;have DD:=wN.Ko (fy lw kf t++[.str (bX lw (f,k==1))]);have KC:=DD.WJ (cw (T (dJ (aZ lw f))) (.str (bI lw f)) (kf.map (gh lw)));have kX:cw (T (dJ (aZ lw f))) (.str (bI lw f)) (kf.map (gh lw))=(kf++[(f,k==1)]).map (gh lw):=by
   simp only[Kn (wK hl hb jl hm),List.map_append];rfl
  have DE:kf.map (d0 lw)++[(bX lw (f,k==1),v)]=(kf++[(f,k==1)]).map (d0 lw):=by
   simp only[List.map_append,WY];rfl
  have DF:fy lw kf t++[.str (bX lw (f,k==1))]=fy lw (kf++[(f,k==1)]) t:=by
   unfold fy;simp only[List.drop_append_of_le_length ht,List.map_append];rfl
  rw[DC];rw[kX,DE,DF]at KC;show⟨(`waiting,iV (kf.length-t+1))::cV,_,?_,KC,?_,by show xZ⟩
  ·unfold DB
   show(KA _).trans ((dn (a6:=cV) (by rw[gw e5];rfl)).trans ?_);rw[DE]at e6|-;rw[DF]at e6;show(dn ?_).trans rfl;rw[kh e6];have q1:pe (lk cV `laid) (kl K F cV) (lk cV `octets) cV ((((O++[g])++[bx.dict [(`value,.str v)]]).set i.th (.list (((kf++[(f,k==1)]).map (d0 lw)).map gG))).set i.x.Lp (.list (fy lw (kf++[(f,k==1)]) t)))=some ((cV,.next),((((O++[g])++[bx.dict [(`value,.str v)]]).set i.th (.list (((kf++[(f,k==1)]).map (d0 lw)).map gG))).set i.x.Lp (.list (fy lw (kf++[(f,k==1)]) t))).set i.jd (.dict ((kf++[(f,k==1)]).map (gh lw)))):=by
    rw[DE,DF]at DD;unfold pe;rw[aK,bG WX];change(lk cV `laid>>=_) _=_;rw[aK,bG dW.laid];change(kl K F cV>>=_) _=_;rw[aK,tU (p:=(f,k==1)) hF zi];change(mu (.ref i.jd) (.str (T (dJ (aZ lw f)))) (.str (bI lw f))>>=_) _=_;simp only[aK];have:mu (.ref i.jd) (.str (T (dJ (aZ lw f)))) (.str (bI lw f)) ((((O++[g])++[bx.dict [(`value,.str v)]]).set i.th (.list (((kf++[(f,k==1)]).map (d0 lw)).map gG))).set i.x.Lp (.list (fy lw (kf++[(f,k==1)]) t)))=some ((),((((O++[g])++[bx.dict [(`value,.str v)]]).set i.th (.list (((kf++[(f,k==1)]).map (d0 lw)).map gG))).set i.x.Lp (.list (fy lw (kf++[(f,k==1)]) t))).set i.jd (.dict ((kf++[(f,k==1)]).map (gh lw)))):=by
     rw[P1 DD.laid (by rw[bq];show a9 `A `D),kX]
    rw[this];rfl
   have q2:∀τ,bH `waiting (av .Add (lk cV `waiting) (pure (.int 1))) cV τ=some (((`waiting,iV (kf.length-t+1))::cV,.next),τ):=λτ=>by
    show eE ?_;unfold av;simp only[aK,bG dW.waiting];change some (V.int (((kf.length-t:Nat):Int)+1),_)=_;unfold iV;show rfl
   show(dn q1).trans ((dn (q2 _)).trans rfl)
  ·simp only[List.length_append,List.length_singleton,show kf.length+1-t=kf.length-t+1 from Nat.succ_sub `A]
   show dW.wait _
def KD(f:Nat):∀(l:List Nat) (kf:List KF) (k:Nat),cD kf k (l++[f])=gI (cD kf k l) (k+l.length) f
 |[],kf,k=>rfl
 |g::l,kf,k=>by
  change cD (gI kf k g) (k+1) (l++[f])=gI (cD (gI kf k g) (k+1) l) (k+(g::l).length) f;simp only[KD f l,show k+(g::l).length=k+1+l.length from by simp;lia]
def WZ(kf:List KF)(k f:Nat):∃e,gI kf k f=kf++e/\e.length<=1/\∀p∈e,p.1=f:=by
 unfold gI;split
 ·show bj ([]) `S `S (λp hp=>by cases hp)
 ·show bj ([(f,k==1)]) rfl `S (λp hp=>by show aJ _ (fW hp))
def wO:∀(l:List Nat) (kf:List KF) (k:Nat),∃e,cD kf k l=kf++e/\e.length<=l.length/\∀p∈e,p.1∈l
 |[],kf,k=>bj ([]) (by simp[cD]) `S (λp hp=>by cases hp)
 |g::l,kf,k=>by
  show bK (WZ kf k g) λe1 h1 h2 h3=>?_;show bK (wO l (gI kf k g) (k+1)) λe2 h4 h5 h6=>?_;show bj (e1++e2) (by change cD (gI kf k g) (k+1) l=_;rw[h4,h1,List.append_assoc]) (by simp;lia) (λp hp=>?_);rcases gN hp with hp|hp
  ·simp only[h3 p hp];show .head _
  ·show .tail _ (h6 p hp)
variable{t:Nat}
abbrev DG(K:W.Frag)(F:aG)(J:ab):M (ab×Fl):=d8 K F (bf `k) (aL K F (gl K `range) [(aL K F (gl K `len) [(lk J `found)] [] [])] [] []) (DB K F) (λJ=>aE J) J
def W0(kb:KB K)(hk:HK K a)(hn:NK K a)(hF:ik F a i ak dM)(hG:lr K a)(hl:lw<28)(ht:t<=kf.length)(jl:∀p∈kf,eL p.1)(wQ:∀f∈Fd,eL f)(bV:kf.length<=90)(pF:Fd.length<=8)(h:KH O a i ak r (fy lw kf t) N (kf.map (d0 lw)) (kf.map (gh lw)) cm)
  (hr:KR J i ah aM lw (kf.length-t)) (h1:J.lookup `found=some (bh Fd)):
  ∃aO aa,DG K F J O=some ((aO,.next),aa)/\KH aa a i ak r (fy lw (cD kf 0 Fd) t) N ((cD kf 0 Fd).map (d0 lw)) ((cD kf 0 Fd).map (gh lw)) cm/\KR aO i ah aM lw ((cD kf 0 Fd).length-t):=by
 have main:a7 (DG K F J) O λq aa=>q.2= .next/\KH aa a i ak r (fy lw (cD kf 0 Fd) t) N ((cD kf 0 Fd).map (d0 lw)) ((cD kf 0 Fd).map (gh lw)) cm/\KR q.1 i ah aM lw ((cD kf 0 Fd).length-t):=by
  show tu (xs:= .dU 0 (Fd.length:Int) 1) (l:=(List.range Fd.length).map iV) (ag:=O) (I:=λaV J aa=>∃j,j<=Fd.length/\aV=((List.range Fd.length).drop j).map iV/\KH aa a i ak r (fy lw (cD kf 0 (Fd.take j)) t) N ((cD kf 0 (Fd.take j)).map (d0 lw)) ((cD kf 0 (Fd.take j)).map (gh lw)) cm/\KR J i ah aM lw ((cD kf 0 (Fd.take j)).length-t)/\J.lookup `found=some (bh Fd)) ?_ ((mD Fd.length _).trans (az (rI _ `L))) (sC 0 `S rfl h hr h1) (λv aV J aa hI=>?_) λJ aa hI=>?_
  ·have e1:F (.con (.builtin "len")) [bh Fd] [] O=some (.int (Fd.length:Int),O):=by
    have:=hF.len (Fd.map iV) O (by rw[bq];show a9 `A `D);rw[bq]at this;show this
   have e2:aL K F (gl K `len) [(lk J `found)] [] [] O=some (.int (Fd.length:Int),O):=by
    simp only[bZ kb.len,bF,bG h1];show e1
   simp only[bZ kb.range,bF,e2];show hF.dU _ _
  ·show l8 hI λj hj bP q1 q2 q3=>?_
   have bR:j<Fd.length:=by
    show Or.elim (Nat.lt_or_ge j Fd.length) (λh=>?_) λh=>?_
    ·show h
    ·have:j=Fd.length:=by lia
     subst this;have:=aJ List.length bP;simp at this
   simp only[pB bR,List.map_cons]at bP;show aI (List.cons.inj bP) λbY aF=>?_;subst bY;subst aF;show bK (wO (Fd.take j) kf 0) λe p1 p2 p3=>?_;have hel:e.length<=j:=by simp only[List.length_take]at p2;lia
   have PV:(cD kf 0 (Fd.take j)).length=kf.length+e.length:=by simp only[p1,List.length_append]
   have W9:∀p∈cD kf 0 (Fd.take j),eL p.1:=λp hp=>by
    rw[p1]at hp;rcases gN hp with hp|hp
    ·show jl p hp
    ·show wQ _ (List.mem_of_mem_take (p3 p hp))
   show dg (WV (J:=(`k,iV j)::J) (k:=j) (f:=Fd[j]) kb hk hn hF hG hl `L W9 (by clear bR;lia) (wQ _ (List.getElem_mem bR)) (eH bR) `L q1 (q2.cons "k" (iV j) `D) q3 (by rfl)) λaO jb e1 e2 e3 e4=>?_;have Xa:gI (cD kf 0 (Fd.take j)) j Fd[j]=cD kf 0 (Fd.take (j+1)):=by
    simp only[List.take_add_one,eH bR];change _=cD kf 0 (Fd.take j++[Fd[j]]);simp only[KD,List.length_take,Nat.min_eq_left hj,Nat.zero_add]
   rw[Xa]at e2 e3;show⟨_,rfl,_,_,e1,j+1,bR,rfl,e2,e3,e4⟩
  ·show l8 hI λj hj bP q1 q2 q3=>?_
   have:j=Fd.length:=by
    rcases Nat.lt_or_ge j Fd.length with h|h
    ·rw[pB h]at bP;simp at bP
    ·lia
   obtain rfl:=Eq.symm this;rw[List.take_length]at q1 q2;show fC _ _ rfl rfl q1 q2
 symm
 show dg (main) λkU aa e kH q1 q2=>?_;obtain⟨aO,fl⟩:=kU;dsimp only at kH q2;obtain rfl:=Eq.symm kH;left;show cF aO aa e q1 q2
def Xb(h:J.lookup `waiting=some (iV wt)):aQ K (lk J `waiting) [.Eq] [(pure (.int 0))] O=some (wt==0,O):=by
 have:(((wt:Nat):Int)==0)=(wt==0):=rJ wt 0;simp! only[h,this]
abbrev DH(K:W.Frag)(F:aG)(J:ab):M V:=a4 K F (lk J `lexer) `get_token [] [] []
def Xc(hn:NK K a)(hF:ik F a i ak dM){u:V}(h:KH O a i ak r (u::push) N L D cm)(hp:push.length<=1000)(h1:J.lookup `lexer=some (.ref i.x.L)):DH K F J O=some (u,O.set i.x.Lp (.list push)):=by
 unfold DH;simp only[ke (v:= .ref i.x.L) (ag:=O) (bG h1) (J5 hn h.lex) hn.tok.keep,mB];show hF.tok.1 _ _ _ _ _ hp h.lex
abbrev DI(K:W.Frag)(F:aG)(J:ab):M V:=aL K F (gl K `_get_name_info) [(eN (aQ K (lk J `name) [.Eq] [(kl K F J)]) (a4 K F (lk J `name) `upper [] [] []) (kl K F J)),(d9 K (lk J `table) `get)] [] []
def Xd(hk:HK K a)(hF:ik F a i ak dM)(hG:lr K a)(hl:lw<28)(jl:∀p∈kf,eL p.1)(bV:kf.length<=100){p:KF}(hp:p∈kf)(h:TabAt O a.headers i.t i.td i.th (kf.map (d0 lw)))(h1:J.lookup `name=some (.str (bX lw p)))(h2:J.lookup `table=some (.ref i.t)):
  DI K F J O=some (.tup [.str (bI lw p.1),.str (bI lw p.1)],O++[.dict []]):=by
 show bK (Dv lw p) λl n1 n2 n3=>?_;have hq:∃y:Str,eN (aQ K (lk J `name) [.Eq] [(kl K F J)]) (a4 K F (lk J `name) `upper [] [] []) (kl K F J) O=some (.str y,O)/\cg y=true/\Txt.lower y=T (dJ (aZ lw p.1)):=by
  unfold eN;have ht:aQ K (lk J `name) [.Eq] [(kl K F J)] O=some (bX lw p==T (dJ (aZ lw p.1)),O):=by
   unfold aQ;simp only[aK,bG h1];change iK (eA K) (.str (bX lw p)) [.Eq] [kl K F J] O=_;simp only[qk,aK,(tU (K:=K) (O:=O) (J:=J) hF h1)];rfl
  simp only[aK,ht];cases hc:(bX lw p==T (dJ (aZ lw p.1)))
  ·show bj (T (dJ (aZ lw p.1))) (tU (K:=K) (O:=O) (J:=J) hF h1) (by have:=zc (aZ lw p.1);simp;show a9 `A `D) (Kk _)
  ·show bj (Txt.upper (bX lw p)) ?_ ?_ ?_
   ·change a4 K F _ _ _ _ _ O=_
    rw[k0 (id:="str.upper") (bG h1) rfl,mB];show hF.up _ _ (ze lw p)
   ·simp only[n1,Kj (λc hc=>by have:=n3 c hc;lia),yB,bq];simp;show a9 `A `D
   ·rw[n1,Wy n3,<-n1,sd]
 show bK hq λy q1 q2 q3=>?_;unfold DI;simp only[bZ hG.info,bF,q1];change((dR [d9 K (lk J `table) `get] O).bind _).bind _=_;simp only[bF,(mI (bG h2) (CU hk.get h.cY (rO _ `D)))];show hF.get _ _ _ _ h (by rw[bq];show gM `A `D) (Ku lw kf) q2 (by rw[q3];show wI (by have:=zc (aZ lw p.1);show a9 `A `D) λc hc=>by have:=zb _ c hc;lia) (by show(q3)▸((zd hl (jl p hp) jl (List.mem_map_of_mem hp))))
abbrev wR(K:W.Frag)(F:aG)(J:ab):M Bool:=aQ K (bl (aL K F (gl K `_get_name_info) [(lk J `name),(pure .none)] [] []) (pure (.int 1))) [.NotEq] [(pure (.str ("":Str)))]
def Xe(hF:ik F a i ak dM)(hG:lr K a){y:Str}(h1:J.lookup `name=some (.str y)):wR K F J O=some (false,O++[.dict []]):=by
 have e1:aL K F (gl K `_get_name_info) [(lk J `name),(pure .none)] [] [] O=some (.tup [dM,.str ("":Str)],O++[.dict []]):=by
  rw[bZ hG.info,bF,bG h1];show hF.none y O
 have e2:bl (aL K F (gl K `_get_name_info) [(lk J `name),(pure .none)] [] []) (pure (.int 1)) O=some (.str ("":Str),O++[.dict []]):=by
  unfold bl;simp only[aK,e1];rfl
 delta wR aQ;simp only[aK,e2];rfl
abbrev DJ(K:W.Frag)(F:aG)(J:ab):M V:=av .RShift (aL K F (gl K `_parse_varint) [(aL K F (gl K `iter) [(cU [] (lk J `due) (bp (bf `octet) (λJ=>[]) (bw λJ=>(aL K F (gl K `ord) [(lk J `octet)] [] []))) J)] [] [])] [] []) (lk J `low)
def Xf(kb:KB K)(hO:pA F){e:ab->M V}{l:List Nat}(h:e J O=some (.str (T l),O))(hl:l.length<=1000):eB [] (e J) (bp (bf `octet) (λJ=>[]) (bw λJ=>(aL K F (gl K `ord) [(lk J `octet)] [] []))) J O=some (cL l,O):=by
 have kH:(l.map λc=>V.str (T [c])).flatMap (λv=>[iV (lh v)])=cL l:=by
  clear h hl;induction l with
  |nil=>rfl
  |cons b r ih=>show aJ _ ih
 show(lP (P:=λ_=>True) (l:=l.map λc=>V.str (T [c])) (λv=>[iV (lh v)]) h (by change some (It.items (kO (T l)),O)=_;show rfl) trivial (by rw[kH];unfold cL;rw[bq];show a9 `A `D) λv hv J aq _ ha=>?_).trans (by rw[kH]);show aj (cG hv) λc hc ay=>?_;subst ay;show aA _ trivial (rW ?_ (by simp at ha;show gM `A `D));simp only[bZ kb.ord,bF,fZ,bM,az rfl];show hO c O
def Xg(kb:KB K)(hF:ik F a i ak dM)(hG:lr K a)(hl:lw<28)(hb:eL f)(h1:J.lookup `due=some (.str (bI lw f)))(h2:J.lookup `low=some (iV lw)):∃g,DJ K F J O=some (iV f,O++[g]):=by
 have e1:=iB (Xf (K:=K) (e:=λJ=>lk J `due) kb hF.ord (bG (O:=O) h1) (by have:=tT (aZ lw f);show a9 `A `D));have e2:aL K F (gl K `iter) [(cU [] (lk J `due) (bp (bf `octet) (λJ=>[]) (bw λJ=>(aL K F (gl K `ord) [(lk J `octet)] [] []))) J)] [] [] O=some (.ref O.length,O++[.cA (cL (ef (aZ lw f))) 0]):=by
  simp only[bZ kb.iter,bF,e1];show hF.iter _ _
 show aI (qw hl hb) λm0 m1=>?_;show aj (hF.lR O.length 0 (aZ lw f) (ef (aZ lw f)) [] (O++[.cA (cL (ef (aZ lw f))) 0]) (yx (i:=0)) (by have:=IU (aZ lw f) (by show Nat.lt_of_lt_of_le `A `D) [];rw[List.append_nil]at this;show this) (by show a9 `A `D) (by have:=tT (aZ lw f);show gM `A `D)) λk' _ e3=>?_;show⟨.cA (cL (ef (aZ lw f))) k',?_⟩;delta DJ av;have e4:aL K F (gl K `_parse_varint) [(aL K F (gl K `iter) [(cU [] (lk J `due) (bp (bf `octet) (λJ=>[]) (bw λJ=>(aL K F (gl K `ord) [(lk J `octet)] [] []))) J)] [] [])] [] [] O=some (iV (aZ lw f),O++[.cA (cL (ef (aZ lw f))) k']):=by
  simp only[bZ hG.lR,bF,e2];change F (.con (.ref a.lR)) [.ref O.length] [] (O++[.cA (cL (ef (aZ lw f))) 0])=_;rw[e3];congr 2;simp
 simp only[aK,e4];change(lk J `low>>=λy=>fk .RShift (iV (aZ lw f)) y) _=_;simp only[aK,bG h2];change fk .RShift (.int ((aZ lw f:Nat):Int)) (.int (lw:Int)) _=_;rw[Tu,az `S,Int.toNat_natCast,fdiv_two];have:(aZ lw f)>>>lw=f:=by
  rw[Nat.shiftRight_eq_div_pow];show Nat.mul_div_cancel _ (Nat.pow_pos `D)
 rw[this];rfl
abbrev KG(K:W.Frag)(F:aG)(J:ab):M (List V):=eB [`key,`order,`rules] (lk J `rules) (bp (eJ [`left,`right]) (λJ=>[]) (bw λJ=>(aL K F (gl K `_law_least) [(av .BitOr (lk J `left) (av .BitAnd (lk J `key) (kZ .Invert (lk J `right)))),(lk J `rules),(lk J `order)] [] []))) J
def Xh(hF:ik F a i ak dM)(hG:lr K a){key:Nat}(oy:ah.length<=1000)(h1:J.lookup `key=some (iV key))(h2:J.lookup `order=some (bh aM))(h3:J.lookup `rules=some (dP ah)):KG K F J O=some ((jB ah aM key).map iV,O):=by
 let fn:V->List V:=λv=>[iV (least ((rH v).1|||dD key (rH v).2) ah aM)]
 have kH:(ah.map mG).flatMap fn=(jB ah aM key).map iV:=by
  unfold jB;simp only[List.map_map];have:∀l:List cM,(l.map mG).flatMap fn=l.map (iV∘λr=>least (r.1|||dD key r.2) ah aM):=by
   intro l;induction l with
   |nil=>rfl
   |cons b r ih=>show aJ _ ih
  show this ah
 show(lP (P:=λJ=>J.lookup `key=some (iV key)/\J.lookup `order=some (bh aM)/\J.lookup `rules=some (dP ah)) (xs:=dP ah) (l:=ah.map mG) fn (bG h3) rfl (cW (iP h1 `D) (iP h2 `D) (iP h3 `D)) (by rw[kH];unfold jB;simp only[bq,bq];show a9 `A `D) λv hv J aq hp ha=>?_).trans (by rw[kH]);show aj (cG hv) λq hq ay=>?_;subst ay;show aA ((`right,iV q.2)::(`left,iV q.1)::J) (cW hp.1 hp.2.1 hp.2.2) ?_;have rU:aq.length<1000000:=by
  rw[show fn (mG q)=[iV (least (q.1|||dD key q.2) ah aM)]from rfl]at ha;simp at ha;show gM `A `D
 have hb:(av .BitOr (lk ((`right,iV q.2)::(`left,iV q.1)::J) `left) (av .BitAnd (lk ((`right,iV q.2)::(`left,iV q.1)::J) `key) (kZ .Invert (lk ((`right,iV q.2)::(`left,iV q.1)::J) `right)))) O=some (iV (q.1|||dD key q.2),O):=by
  simp! only[hp.1,CG,CN,bO]
 have hc:aL K F (gl K `_law_least) [(av .BitOr (lk ((`right,iV q.2)::(`left,iV q.1)::J) `left) (av .BitAnd (lk ((`right,iV q.2)::(`left,iV q.1)::J) `key) (kZ .Invert (lk ((`right,iV q.2)::(`left,iV q.1)::J) `right)))),(lk ((`right,iV q.2)::(`left,iV q.1)::J) `rules),(lk ((`right,iV q.2)::(`left,iV q.1)::J) `order)] [] [] O=some (iV (least (q.1|||dD key q.2) ah aM),O):=by
  rw[bZ hG.least,bF,hb,Option.bind_some,bF,bG (by simp(decide:=true) only[bM,if_false,hp.2.2];rfl),Option.bind_some,bF,bG (by simp(decide:=true) only[bM,if_false,hp.2.1];rfl)];show hF.least _ _ _ _
 delta bp bw;have C1:eJ [`left,`right] (mG q) J=some ((`right,iV q.2)::(`left,iV q.1)::J):=rfl;simp only[aK,fY,C1,Option.map_some,Option.bind_some,vY,mA,if_true,hc,vX,rU];rfl
abbrev zj(K:W.Frag)(F:aG)(J:ab):M (ab×Fl):=ar (DG K F J) λJ=>ar (c6 (aQ K (lk J `waiting) [.Eq] [(pure (.int 0))]) (ar (cK (lk J `came) J) λJ=>aE J) (aE J)) λJ=>ar (j9 [`name,`waiting] (dA [(DH K F J),(av .Sub (lk J `waiting) (pure (.int 1)))]) J) λJ=>ar (j0 (a4 K F (lk J `came) `append [(lk J `name)] [] []) J) λJ=>ar (bH `due (bl (lk J `laid) (kl K F J)) J) λJ=>ar (bH `told (DI K F J) J) λJ=>
 ar (c6 (eu .Or [(aQ K (lk J `told) [.NotEq] [(dA [(lk J `due),(lk J `due)])]),(wR K F J)]) (ar (cK (ix []) J) λJ=>aE J) (aE J)) λJ=>ar (bH `key (DJ K F J) J) λJ=>ar (iy `found (KG K F J) J) λJ=>aE J
def Xi(K:W.Frag)(F:aG)(J:ab):CA K F J=ar (j9 [`found,`came,`laid,`waiting] (dA [(eC [(aL K F (gl K `_law_least) [(pure (.int 31)),(lk J `rules),(lk J `order)] [] [])]),(ix []),yq,(pure (.int 0))]) J) λJ=>ar (d8 K F (bf `turn) (aL K F (gl K `range) [(pure (.int 11))] [] []) (zj K F) (λJ=>aE J) J) λJ=>ar (cK (ix []) J) λJ=>aE J:=rfl
noncomputable abbrev gJ(lw:Nat)(kf:List KF)(t:Nat):List V:=(kf.take t).map λp=>V.str (bX lw p)
def Xj(hF:ik F a i ak dM)(hG:lr K a){y u:Str}(h1:J.lookup `told=some (.tup [.str u,.str u]))(h2:J.lookup `due=some (.str u))(h3:J.lookup `name=some (.str y)):
  eu .Or [(aQ K (lk J `told) [.NotEq] [(dA [(lk J `due),(lk J `due)])]),(wR K F J)] O=some (false,O++[.dict []]):=by
 have e1:aQ K (lk J `told) [.NotEq] [(dA [(lk J `due),(lk J `due)])] O=some (false,O):=by
  unfold aQ;simp only[aK,bG h1];change iK (eA K) (.tup [.str u,.str u]) [.NotEq] [dA [(lk J `due),(lk J `due)]] O=_;simp only[qk,aK,nB (bG h2) (bG h2)];show Kt (K:=K) u
 simp only[any_cons,aK,e1];change(if false=true then pure true else eu .Or [wR K F J]:M Bool) O=_;rw[aN `D,any_cons,aK,Xe hF hG h3];rfl
abbrev zl(a:Ad)(i:KI)(ak r:List Nat)(N:Nat)(ah:List cM)(aM:List Nat)(lw t:Nat)(kf:List KF)(q:ab×Fl)(O:Hp):Prop:=
 if kf.length=t then q.2= .ret (.ref i.jc)/\KH O a i ak r [] N (kf.map (d0 lw)) (kf.map (gh lw)) (gJ lw kf t)
 else∃p,kf[t]? =some p/\q.2= .next/\KH O a i ak r (fy lw kf (t+1)) N (kf.map (d0 lw)) (kf.map (gh lw)) (gJ lw kf (t+1))/\KR q.1 i ah aM lw (kf.length-(t+1))/\q.1.lookup `found=some (bh (jB ah aM p.1))
def Xk(kb:KB K)(hk:HK K a)(hn:NK K a)(hF:ik F a i ak dM)(hG:lr K a)(hl:lw<28)(ht:t<=kf.length)(jl:∀p∈kf,eL p.1)(wQ:∀f∈Fd,eL f)(bV:kf.length<=90)(pF:Fd.length<=8)(oy:ah.length<=1000)(h:KH O a i ak r (fy lw kf t) N (kf.map (d0 lw)) (kf.map (gh lw)) (gJ lw kf t))
  (hr:KR J i ah aM lw (kf.length-t)) (h1:J.lookup `found=some (bh Fd)):a7 (zj K F J) O (zl a i ak r N ah aM lw t (cD kf 0 Fd)):=by
 show ck (W0 kb hk hn hF hG hl ht jl wQ bV pF h hr h1) λa6 ag e1 k1 r1=>?_;show bK (wO Fd kf 0) λe p1 p2 p3=>?_;have Xl:(cD kf 0 Fd).length=kf.length+e.length:=by simp only[p1,List.length_append]
 have zm:∀p∈cD kf 0 Fd,eL p.1:=λp hp=>by
  rw[p1]at hp;rcases gN hp with hp|hp
  ·show jl p hp
  ·show wQ _ (p3 p hp)
 have KJ:gJ lw kf t=gJ lw (cD kf 0 Fd) t:=by
  unfold gJ;simp only[p1,List.take_append_of_le_length ht]
 simp only[KJ]at k1;have C9:t<=(cD kf 0 Fd).length:=by lia
 have Xm:(cD kf 0 Fd).length<=100:=by lia
 generalize cD kf 0 Fd=fz at*;clear p1 p2 p3 Xl KJ jl;unfold zj;show sq e1 ?_;have ew:=Xb (K:=K) (O:=ag) r1.waiting;change a7 _ _ _;by_cases hq:fz.length=t
 ·have:(fz.length-t==0)=true:=by rw[hq,Nat.sub_self];rfl
  rw[this]at ew;show iz (o:=((a6,.ret (.ref i.jc)),ag)) (r0 ?_) ?_
  ·rw[kh ew]
   show r0 (je (bG r1.ki))
  ·have:fy lw fz t=[]:=by unfold fy;show aJ _ (List.drop_of_length_le (Nat.le_of_eq hq))
   rw[this]at k1;unfold zl;rw[az hq];show⟨rfl,k1⟩
 ·have bR:t<fz.length:=Nat.lt_of_le_of_ne C9 (Ne.symm hq)
  have:(fz.length-t==0)=false:=beq_false_of_ne (Nat.sub_ne_zero_of_lt bR);rw[this]at ew;show sq (o:=((a6,.next),ag)) (gw ew) ?_;change a7 _ _ _;obtain⟨p,hp⟩:∃p,fz[t]=p:=⟨_,rfl⟩;have tW:p∈fz:=hp▸List.getElem_mem bR;have Xn:fy lw fz t= .str (bX lw p)::fy lw fz (t+1):=by
   unfold fy;rw[List.drop_eq_getElem_cons bR,hp];rfl
  rw[Xn]at k1;have Xo:(fy lw fz (t+1)).length<=1000:=by unfold fy;simp only[bq,List.length_drop];lia
  have et:=Xc (K:=K) (F:=F) hn hF k1 Xo r1.lS;have k2:=k1.Ko (fy lw fz (t+1));have es:av .Sub (lk a6 `waiting) (pure (.int 1)) (ag.set i.x.Lp (.list (fy lw fz (t+1))))=some (iV (fz.length-(t+1)),ag.set i.x.Lp (.list (fy lw fz (t+1)))):=by
   unfold av;rw[aK,bG r1.waiting];change some (V.int (((fz.length-t:Nat):Int)-1),_)=some (V.int ((fz.length-(t+1):Nat):Int),_);rw[show((fz.length-t:Nat):Int)-1=((fz.length-(t+1):Nat):Int)from by rw[Nat.sub_add_eq];show(Int.ofNat_sub (Nat.sub_pos_of_lt bR)).symm]
  show sq (Kw (nB et es)) ?_;change a7 _ _ _;have r2:=(r1.cons "name" (.str (bX lw p)) `D).wait (fz.length-(t+1));generalize tJ:ag.set i.x.Lp (.list (fy lw fz (t+1)))=aH at*;have n2:List.lookup `name ((`waiting,iV (fz.length-(t+1)))::(`name,V.str (bX lw p))::a6)=some (.str (bX lw p)):=rfl;generalize((`waiting,iV (fz.length-(t+1)))::(`name,V.str (bX lw p))::a6)=cV at*;have lH:(gJ lw fz t).length<=1000000:=by unfold gJ;simp only[bq,List.length_take];lia
  have uH:gJ lw fz t++[.str (bX lw p)]=gJ lw fz (t+1):=by
   unfold gJ;simp only[List.take_add_one,eH bR,List.map_append,hp];rfl
  have ea:=wg (K:=K) (J:=cV) hF.app (bG r2.ki) k2.ki (bG n2) k2.ki lH;rw[uH]at ea;have k3:=k2.WK (gJ lw fz (t+1));show sq ea ?_;change a7 _ _ _;generalize hs3:aH.set i.jc (.list (gJ lw fz (t+1)))=cI at*;have Xp:(fz.map (gh lw)).lookup (T (dJ (aZ lw p.1)))=some (.str (bI lw p.1)):=Du hl (zm p tW) zm (List.mem_map_of_mem tW);have ei:bl (lk cV `laid) (kl K F cV) cI=some (.str (bI lw p.1),cI):=by
   show ig (bG r2.laid) (tU hF n2) ?_;change getM (.ref i.jd) (T (dJ (aZ lw p.1))) cI=_;unfold getM;dsimp only;rw[k3.laid];change(List.lookup _ _).map _=_;rw[Xp];rfl
  show sq (eE ei) ?_;change a7 _ _ _;have r3:=r2.cons "due" (.str (bI lw p.1)) `D;have n3:List.lookup `name ((`due,V.str (bI lw p.1))::cV)=some (.str (bX lw p)):=by simp(decide:=true) only[bM,if_false,n2]
  have d3:List.lookup `due ((`due,V.str (bI lw p.1))::cV)=some (.str (bI lw p.1)):=by simp(decide:=true) only[bM,if_true]
  generalize((`due,V.str (bI lw p.1))::cV)=n8 at*;show sq (eE (Xd hk hF hG hl zm Xm tW k3.tab n3 r3.table)) ?_;change a7 _ _ _;have k4:=k3.grow [.dict []];have r4:=r3.cons "told" (.tup [.str (bI lw p.1),.str (bI lw p.1)]) `D;have n4:List.lookup `name ((`told,V.tup [.str (bI lw p.1),.str (bI lw p.1)])::n8)=some (.str (bX lw p)):=by simp(decide:=true) only[bM,if_false,n3]
  have d4:List.lookup `due ((`told,V.tup [.str (bI lw p.1),.str (bI lw p.1)])::n8)=some (.str (bI lw p.1)):=by simp(decide:=true) only[bM,if_false,d3]
  have t4:List.lookup `told ((`told,V.tup [.str (bI lw p.1),.str (bI lw p.1)])::n8)=some (.tup [.str (bI lw p.1),.str (bI lw p.1)]):=by simp(decide:=true) only[bM,if_true]
  generalize((`told,V.tup [.str (bI lw p.1),.str (bI lw p.1)])::n8)=wU at*;have e4:=Xj (K:=K) (F:=F) (O:=cI++[.dict []]) hF hG t4 d4 n4;show sq (o:=((wU,.next),cI++[.dict []]++[.dict []])) (by rw[gw e4];rfl) ?_;change a7 _ _ _;have k5:=k4.grow [.dict []];show aU (Xg (K:=K) (F:=F) (O:=cI++[.dict []]++[.dict []]) kb hF hG hl (zm p tW) d4 r4.low) λg e5=>?_;show sq (eE e5) ?_;change a7 _ _ _;have k6:=k5.grow [g];have r5:=r4.cons "key" (iV p.1) `D;have e6:=Xh (K:=K) (F:=F) (O:=cI++[.dict []]++[.dict []]++[g]) hF hG oy (key:=p.1) (J:=(`key,iV p.1)::wU) (by simp(decide:=true) only[bM,if_true]) r5.aM r5.ah;show sq (mE e6) ?_;change a7 _ _ _;show⟨_,_,rfl,?_⟩;unfold zl;rw[aN hq];show⟨p,by simp only[eH bR,hp],rfl,k6,r5.cons "found" _ `D,by simp(decide:=true) only[bM,if_true];rfl⟩
end
section
variable{K:W.Frag}{F:aG}{O cH ag aa:Hp}{J a6:ab}{n:Nat}{a:Ad}{i:KI}{ak r:List Nat}{N:Nat}{push cm:List V}{L:List Row}{D:List (Str×V)}{dM:V}{ah:List cM}{aM Fd:List Nat}{lw wt k f t td th ty:Nat}{tv:List V}{x:eQ}{kf Kf:List KF}{P:Nat->Prop}
structure tX(a:Ad)(i:KI)(ak r:List Nat)(N:Nat)(P:Nat->Prop)(ah:List cM)(aM:List Nat)(lw:Nat)(Kf:List KF)(t:Nat)(J:ab)(O:Hp)(kf:List KF)(Fd:List Nat):Prop where
 run:runK ah aM (11-t) Fd kf t=some Kf
 le:t<=kf.length
 nG:kf.length<=8*t
 DK:∀p∈kf,P p.1
 fin:∀f∈Fd,P f
 DL:Fd.length<=8
 heap:KH O a i ak r (fy lw kf t) N (kf.map (d0 lw)) (kf.map (gh lw)) (gJ lw kf t)
 names:KR J i ah aM lw (kf.length-t)
 found:J.lookup `found=some (bh Fd)
def tX.turn(h:tX a i ak r N P ah aM lw Kf t J O kf Fd)(x:Nat):tX a i ak r N P ah aM lw Kf t ((`turn,iV x)::J) O kf Fd:=⟨h.run,h.le,h.nG,h.DK,h.fin,h.DL,h.heap,h.names.cons _ _ `D,by show h.found⟩
abbrev Xq(K:W.Frag)(F:aG)(J:ab):M (ab×Fl):=d8 K F (bf `turn) (aL K F (gl K `range) [(pure (.int 11))] [] []) (zj K F) (λJ=>aE J) J
def Xr(kb:KB K)(hk:HK K a)(hn:NK K a)(hF:ik F a i ak dM)(hG:lr K a)(hl:lw<28)(oy:ah.length<=8)(hP:∀k,P k->eL k)(lq:∀k,P k->∀f∈jB ah aM k,P f)
  (h:tX a i ak r N P ah aM lw Kf 0 J O kf Fd):a7 (Xq K F J) O λq aa=>q.2= .ret (.ref i.jc)/\KH aa a i ak r [] N (Kf.map (d0 lw)) (Kf.map (gh lw)) (gJ lw Kf Kf.length)/\∀p∈Kf,P p.1:=by
 show tu (xs:= .dU 0 ((11:Nat):Int) 1) (l:=(List.range 11).map iV) (ag:=O) (I:=λaV J aa=>∃t kf Fd,t<=11/\aV=((List.range 11).drop t).map iV/\tX a i ak r N P ah aM lw Kf t J aa kf Fd) ?_ ((mD 11 _).trans (az `D)) (pL 0 kf Fd `S rfl h) (λv aV J aa hI=>?_) λJ aa hI=>?_
 ·rw[bZ kb.range]
  show hF.dU 11 _
 ·show nK hI λt kf Fd ht bP hT=>?_
  have bR:t<11:=by
   rcases Nat.lt_or_ge t 11 with h|h
   ·show h
   ·have:t=11:=Nat.le_antisymm ht h
    subst this;cases bP
  simp only[pB bR,List.map_cons]at bP;show aI (List.cons.inj bP) λbY aF=>?_;subst bY;subst aF;show aA _ rfl ?_;have hT:=hT.turn t;have hh:=Xk (K:=K) (F:=F) kb hk hn hF hG hl hT.le (λp hp=>hP _ (hT.DK p hp)) (λf hf=>hP _ (hT.fin f hf)) (by have:=hT.nG;clear bR;lia) hT.DL (by show a9 `A `D) hT.heap hT.names hT.found;show br hh λq jb e hq=>?_;show c8 q jb e ?_;show bK (wO Fd kf 0) λe' p1 p2 p3=>?_;have DM:∀p∈cD kf 0 Fd,P p.1:=λp hp=>by
   rw[p1]at hp;rcases gN hp with hp|hp
   ·show hT.DK p hp
   ·show hT.fin _ (p3 p hp)
  have hr:=hT.run;rw[show 11-t=10-t+1 from Nat.succ_sub (Nat.le_of_lt_succ bR)]at hr;unfold runK at hr;unfold zl at hq;split at hq
  ·rename_i heq
   rw[az heq]at hr;show aI hq λq1 q2=>?_;have hr:=bN hr;subst hr;simp only[<-heq]at q2;unfold yz;show(Eq.symm (q1))▸(cW rfl q2 DM)
  ·rename_i heq
   rw[aN heq]at hr;show l8 hq λp q0 q1 q2 q3 q4=>?_;rw[q0]at hr;have tW:=gZ q0;unfold yz;simp only[q1];show⟨t+1,cD kf 0 Fd,jB ah aM p.1,bR,rfl,by rw[show 11-(t+1)=10-t from by simp];show hr,((cQ q0).1:t<(cD kf 0 Fd).length),?_,DM,lq _ (DM p tW),by unfold jB;rw[bq];show oy,q2,q3,q4⟩;simp only[p1,List.length_append];have:=hT.nG;have:=hT.DL;lia
 ·show nK hI λt kf Fd ht bP hT=>?_
  have:t=11:=by
   rcases Nat.lt_or_ge t 11 with h|h
   ·simp only[pB h]at bP;simp at bP
   ·lia
  subst this;have:=hT.run;cases this
def de.bound(h:de O a x ak r push N):∀j∈x.all,j<O.length:=λj hj=>by
 show br h λp line hx _=>?_;have g:∀{i o},O[i]? =some o->i<O.length:=λe=>(cQ e).1;show aj hx.attrs λl1 h2 _=>?_;show aj hx.De λl2 h3 _=>?_;unfold eQ.all at hj;simp only[List.mem_cons,List.not_mem_nil,or_false]at hj;rcases hj with rfl|rfl|rfl|rfl|rfl|rfl
 ·show g hx.inst
 ·show g h2
 ·show g hx.push
 ·show g hx.yV
 ·show g h3
 ·show g hx.place
def Xs(kb:KB K)(hk:HK K a)(hn:NK K a)(hF:ik F a ⟨x,t,td,th,O.length+1,O.length,ty,tv⟩ ak dM)(hG:lr K a)(hl:lw<28)(oy:ah.length<=8)(hP:∀k,P k->eL k)(lq:∀k,P k->∀f∈jB ah aM k,P f)(h0:P (least 31 ah aM))
  (DN:runK ah aM 11 [least 31 ah aM] [] 0=some Kf) (oF:de O a x ak r [] N) (ot:TabAt O a.headers t td th []) (iL:O[ty]? =some (.list tv)) (d1:th∉x.all) (d5:ty∉x.all) (d6:ty≠th):
  a7 (CA K F [(`low,iV lw),(`order,bh aM),(`rules,dP ah),(`table,.ref t),(`lexer,.ref x.L)]) O λq aa=>q.2= .ret (.ref O.length)/\KH aa a ⟨x,t,td,th,O.length+1,O.length,ty,tv⟩ ak r [] N (Kf.map (d0 lw)) (Kf.map (gh lw)) (gJ lw Kf Kf.length)/\∀p∈Kf,P p.1:=by
 have vn:∀j∈x.all,j<O.length:=oF.bound;have e1:(dA [(eC [(aL K F (gl K `_law_least) [(pure (.int 31)),(lk [(`low,iV lw),(`order,bh aM),(`rules,dP ah),(`table,.ref t),(`lexer,.ref x.L)] `rules),(lk [(`low,iV lw),(`order,bh aM),(`rules,dP ah),(`table,.ref t),(`lexer,.ref x.L)] `order)] [] [])]),(ix []),yq,(pure (.int 0))]) O=some (.tup [.lst [iV (least 31 ah aM)],.ref O.length,.ref (O.length+1),iV 0],O++[.list []]++[.dict []]):=by
  have ec:aL K F (gl K `_law_least) [(pure (.int 31)),(lk [(`low,iV lw),(`order,bh aM),(`rules,dP ah),(`table,.ref t),(`lexer,.ref x.L)] `rules),(lk [(`low,iV lw),(`order,bh aM),(`rules,dP ah),(`table,.ref t),(`lexer,.ref x.L)] `order)] [] [] O=some (iV (least 31 ah aM),O):=by
   rw[bZ hG.least];show hF.least 31 ah aM O
  have el:eC [(aL K F (gl K `_law_least) [(pure (.int 31)),(lk [(`low,iV lw),(`order,bh aM),(`rules,dP ah),(`table,.ref t),(`lexer,.ref x.L)] `rules),(lk [(`low,iV lw),(`order,bh aM),(`rules,dP ah),(`table,.ref t),(`lexer,.ref x.L)] `order)] [] [])] O=some (.lst [iV (least 31 ah aM)],O):=by
   unfold eC;simp only[aK,bF,ec];rfl
  unfold dA;simp only[aK,bF,el];change some (V.tup [.lst [iV (least 31 ah aM)],.ref O.length,.ref (O++[bx.list []]).length,iV 0],_)=_;simp only[List.length_append];rfl
 simp only[Xi];show sq (o:=((("waiting",iV 0)::("laid",.ref (O.length+1))::("came",.ref O.length)::("found",bh [least 31 ah aM])::[(`low,iV lw),(`order,bh aM),(`rules,dP ah),(`table,.ref t),(`lexer,.ref x.L)],.next),O++[.list []]++[.dict []])) (by unfold j9;rw[aK,e1];rfl) ?_;change a7 _ _ _;have g:∀j o,O[j]? =some o->(O++[bx.list []]++[.dict []])[j]? =some o:=λj o e=>by
  rw[List.append_assoc,il (cQ e).1];show e
 have bR:∀{j o},O[j]? =some o->j<O.length:=λe=>(cQ e).1;have wV:KH (O++[bx.list []]++[.dict []]) a ⟨x,t,td,th,O.length+1,O.length,ty,tv⟩ ak r [] N [] [] []:=by
  show⟨oF.same λj hj=>?_,⟨g _ _ ot.inst,g _ _ ot.attrs,g _ _ ot.rows⟩,?_,?_,d1,λq=>?_,?_,λq=>?_,g _ _ iL,d5,d6,?_⟩
  ·have:=vn j hj
   simp only[List.append_assoc,il this]
  ·change(O++[bx.list []]++[.dict []])[O.length+1]? =_
   rw[iT `S];simp
  ·change(O++[bx.list []]++[.dict []])[O.length]? =_
   rw[List.append_assoc,iT `S];simp
  ·have:=vn _ q
   dsimp only at this;lia
  ·change th≠O.length
   have:=bR ot.rows;lia
  ·have:=vn _ q
   dsimp only at this;lia
  ·change ty≠O.length
   have:=bR iL;lia
 have hT:tX a ⟨x,t,td,th,O.length+1,O.length,ty,tv⟩ ak r N P ah aM lw Kf 0 (("waiting",iV 0)::("laid",.ref (O.length+1))::("came",.ref O.length)::("found",bh [least 31 ah aM])::[(`low,iV lw),(`order,bh aM),(`rules,dP ah),(`table,.ref t),(`lexer,.ref x.L)]) (O++[bx.list []]++[.dict []]) [] [least 31 ah aM]:=
  ⟨DN,by simp,by simp,(λp hp=>(List.not_mem_nil hp).elim),(λf hf=>by simp only[fW hf];show h0),`S,wV,⟨rfl,rfl,rfl,rfl,rfl,rfl,rfl,rfl⟩,rfl⟩
 show dg (Xr (K:=K) (F:=F) kb hk hn hF hG hl oy hP lq hT) λq aa e q1 q2 q3=>?_;obtain⟨aO,fl⟩:=q;dsimp only at q1;subst q1;show⟨_,_,r0 e,rfl,q2,q3⟩
structure AF(K:W.Frag)(a:Ad):Prop where
 kb:KB K
 hk:HK K a
 hn:NK K a
 hx:LX K a
 hi:HI K a
 fl:yI K a.flags
 pp:tG K a
 ks:lr K a
 dM:∃u,mC K "UNKNOWN" u
 Xu:c7 K "_law_drawn" (.con (.ref a.drawn))
 Xv:c7 K "_law_prepared" (.con (.ref a.ql))
 Xw:c7 K "_law_keys" (.con (.ref a.keys))
 Xx:c7 K "_law_due" (.con (.ref a.eZ))
 Xy:c7 K "_law_names" (.con (.ref a.names))
 Xz:c7 K "_law_sign" (.con (.ref a.sign))
 XA:c7 K "_law_written" (.con (.ref a.written))
 KL:dH K a.pretty (bC 4) []
 DO:tF K a.info (bC 7) "extrainfo"
 KN:dH K a.lR (bC 8) []
 XB:dH K a.ql (bC 22) []
 XC:dH K a.sign (bC 23) []
 XD:dH K a.written (bC 24) []
 XE:dH K a.drawn (bC 25) []
 XF:dH K a.least (bC 26) []
 XG:dH K a.octets (bC 27) []
 rM:dH K a.keys (bC 28) []
 XH:dH K a.eZ (bC 29) []
 XI:dH K a.names (bC 30) []
 KO:dH K a.v7 (bC 31) []
def XJ(j:Nat)(D:List (Str×V))(x:Str)(d:V)(O:Hp)(h:O[j]? =some (.dict D)):aY K (n+1) (.con (.builtin "dict.get")) [.ref j,.str x,d] [] O=some ((D.lookup x).getD d,O):=by
 change m8 "dict.get" [.ref j,.str x,d] O=_;delta m8 args;dsimp only;rw[Fe];rw[vw h];rfl
def XK(h:AF K a)(hu:mC K "UNKNOWN" dM)(hl:ak.length<=1000):ik (aY K (n+6)) a i ak dM where
 pretty:=λm O h0 h1=>I9 h.kb h.fl h.KL m h0 h1
 octets:=λm O=>TQ h.kb h.XG m
 least:=λiD ah aM O=>T4 h.kb h.XF iD ah aM
 keys:=λL O h1 h2=>C0 h.kb h.hk h1 h2
 len:=JC
 low:=wi
 up:=λx O h=>Jm x h
 set:=λL O x v h1 h2 h3 h4 h5 h6=>by
  have hf:=UI (n:=n+1) h.kb h.hk (h1.same (aa:=O++[bx.dict [(`value,.str v)]]) λj hj=>il (by
   rcases hj with rfl|rfl|rfl
   ·show(cQ h1.inst).1
   ·show(cQ h1.attrs).1
   ·show(cQ h1.rows).1)) h2 h3 x v h4 h5 h6
  show Jh h.DO (.inr ⟨_,rfl⟩) (by show h.hk.set.bound) rfl rfl hf
 get:=λL O x u h1 h2 h3 h4 h5 h6=>by
  have hf:=UJ (n:=n+2) h.kb h.hk (h1.same (aa:=O++[bx.dict []]) λj hj=>il (by
   rcases hj with rfl|rfl|rfl
   ·show(cQ h1.inst).1
   ·show(cQ h1.attrs).1
   ·show(cQ h1.rows).1)) h2 h3 x h4 h5
  rw[h6]at hf;show Jh h.DO (.inl rfl) (by show h.hk.get.bound) rfl rfl hf
 none:=λx O=>UO h.DO hu x
 wx:=Wl h.hn
 tok:=J4 h.kb h.hn hl
 Kp:=XJ
 iter:=λl O=>rfl
 lR:=λj k val l aV O h1 h2 h3 h4=>IX h.kb h.KN h1 h2 h3 h4
 ord:=λc O=>wm c
 dU:=oz
 app:=we
def XM(h:AF K a)(hu:mC K "UNKNOWN" dM)(XN:ak.length<=1000)(hl:lw<28)(oy:ah.length<=8)(hP:∀k,P k->eL k)(lq:∀k,P k->∀f∈jB ah aM k,P f)(h0:P (least 31 ah aM))
  (DN:runK ah aM 11 [least 31 ah aM] [] 0=some Kf) (oF:de O a x ak r [] N) (ot:TabAt O a.headers t td th []) (iL:O[ty]? =some (.list tv)) (d1:th∉x.all) (d5:ty∉x.all) (d6:ty≠th):
  ∃aa,aY K (n+7) (.con (.ref a.keys)) [.ref x.L,.ref t,dP ah,bh aM,iV lw] [] O=some (.ref O.length,aa)/\KH aa a ⟨x,t,td,th,O.length+1,O.length,ty,tv⟩ ak r [] N (Kf.map (d0 lw)) (Kf.map (gh lw)) (gJ lw Kf Kf.length)/\∀p∈Kf,P p.1:=by
 have main:a7 (aY K (n+7) (.con (.ref a.keys)) [.ref x.L,.ref t,dP ah,bh aM,iV lw] []) O λv aa=>v= .ref O.length/\KH aa a ⟨x,t,td,th,O.length+1,O.length,ty,tv⟩ ak r [] N (Kf.map (d0 lw)) (Kf.map (gh lw)) (gJ lw Kf Kf.length)/\∀p∈Kf,P p.1:=by
  rw[gU h.rM];show gb h.rM S5 rfl (bT:=[("lexer",.ref x.L),("table",.ref t),("rules",dP ah),("order",bh aM),("low",iV lw)]) rfl rfl ?_;show ck (Xs (F:=aY K (n+6)) (O:=O) h.kb h.hk h.hn (XK h hu XN) h.ks hl oy hP lq h0 DN oF ot iL d1 d5 d6) λq aa e q1 q2=>?_;show⟨q,aa,e,.ref O.length,by rw[q1];rfl,rfl,q2⟩
 show ck main λv aa e eW q=>?_;subst eW;show aA aa e q
def DP{α:Type}{f:α->α->Option Bool}:∀{l:List α},(∀v∈l,f v v=some true)->lE f l l=some true
 |[],_=>rfl
 |v::l,h=>by
  change(f v v).bind (λx=>(lE f l l).map λy=>x&&y)=some true;rw[h v (.head _),DP λu hu=>h u (.tail _ hu)];rfl
def wW{n:Nat}{l:List V}(h:∀v∈l,dy n v v=some true):dy (n+1) (.lst l) (.lst l)=some true:=by
 change(if l.length=l.length then lE (dy n) l l else some false)=_;rw[az rfl,DP h]
def XO{n:Nat}{l:List V}(h:∀v∈l,dy n v v=some true):dy (n+1) (.tup l) (.tup l)=some true:=DP h
def eq_str{n:Nat}(x:Str):dy (n+1) (.str x) (.str x)=some true:=by change some (x==x)=_;simp
def eq_int{n:Nat}(x:Int):dy (n+1) (.int x) (.int x)=some true:=by change some (x==x)=_;simp
variable{ns:List Nat}{ae m j:Nat}{toks gK:Nat->List Nat}
def ne_self{u v w:V}(h1:jL u O=some (w,O))(h2:jL v O=some (w,O))(ho:pP w w=true)(h:dy 8 w w=some true):eA K .NotEq u v O=some (false,O):=by
 change(jL u>>=λa=>jL v>>=λb=>if pP a b=true then bJ ((dy 8 a b).map (!·))else au) O=_;simp only[aK,h1];change(jL v>>=λb=>if pP w b=true then bJ ((dy 8 w b).map (!·))else au) O=_;simp only[aK,h2];change(if pP w w=true then bJ ((dy 8 w w).map (!·))else au:M Bool) O=_;rw[az ho,h];rfl
def tY{m1 m2:M V}{u v w:V}{aH:Hp}(e1:m1 O=some (u,ag))(e2:m2 ag=some (v,aH))(h1:jL u aH=some (w,aH))(h2:jL v aH=some (w,aH))(ho:pP w w=true)(h:dy 8 w w=some true):aQ K m1 [.NotEq] [m2] O=some (false,aH):=by
 unfold aQ;simp only[aK,e1];change iK (eA K) u [.NotEq] [m2] ag=_;simp only[qk,aK,e2];show ne_self (K:=K) h1 h2 ho h
def DQ{t1 t2:M Bool}{aH:Hp}(h1:t1 O=some (false,ag))(h2:t2 ag=some (false,aH)):eu .Or [t1,t2] O=some (false,aH):=by
 simp only[any_cons,aK,h1];change(if false=true then pure true else eu .Or [t2]:M Bool) ag=_;rw[aN `D,any_cons,aK,h2];rfl
abbrev se(K:W.Frag)(F:aG)(J:ab):M V:=a4 K F (lk J `lexer) `get_token [] [] []
def DR(hn:NK K a)(hT:tP F a x ak)(h:de O a x ak r [] N)(h1:J.lookup `lexer=some (.ref x.L)):∃aa,se K F J O=some (bE (dI r).1,aa)/\de aa a x ak (dI r).2 [] N/\ek [x.Ld,x.pl] O aa:=by
 show aj (hT.2 r N O h) λaa e q=>?_;show aA aa ?_ q;unfold se;simp only[ke (v:= .ref x.L) (ag:=O) (bG h1) (J5 hn h) hn.tok.keep,mB];show e
abbrev DS(K:W.Frag)(F:aG)(J:ab):M (List V):=eB [`lexer] (aL K F (gl K `range) [(pure (.int 6))] [] []) (bp (bf `turn) (λJ=>[]) (bw λJ=>se K F J)) J
def XQ(kb:KB K)(hn:NK K a)(hR:mH F)(hT:tP F a x ak)(h:de O a x ak (gK 0) [] N)(hg:∀k,k<6->dI (gK k)=(toks k,gK (k+1)))(h1:J.lookup `lexer=some (.ref x.L)):
  ∃aa,DS K F J O=some ((List.range 6).map λk=>bE (toks k),aa)/\de aa a x ak (gK 6) [] N/\ek [x.Ld,x.pl] O aa:=by
 have main:a7 (DS K F J) O λl aa=>l=((List.range 6).map λk=>bE (toks k))/\de aa a x ak (gK 6) [] N/\ek [x.Ld,x.pl] O aa:=by
  show wp_bind ((vZ (xs:= .dU 0 ((6:Nat):Int) 1) (l:=(List.range 6).map iV) (ag:=O) (I:=λaV J aq aa=>∃k,k<=6/\aV=((List.range 6).drop k).map iV/\aq=((List.range k).map λk=>bE (toks k))/\J.lookup `lexer=some (.ref x.L)/\de aa a x ak (gK k) [] N/\ek [x.Ld,x.pl] O aa)
   (Q:=λp aa=>p.2=((List.range 6).map λk=>bE (toks k))/\de aa a x ak (gK 6) [] N/\ek [x.Ld,x.pl] O aa) ?_ ((mD 6 _).trans (az `D)) (EN 0 `S rfl rfl (iP h1 `D) h (ek.refl _ _)) (λv aV J aq aa hI=>?_) λJ aq aa hI=>?_).mono λp aa q=>?_)
  ·rw[bZ kb.range]
   show hR 6 _
  ·show ui hI λk hk bP jx q1 q2 q3=>?_
   have bR:k<6:=by
    rcases Nat.lt_or_ge k 6 with h|h
    ·show h
    ·rw[List.drop_of_length_le (by simp;omega)]at bP
     cases bP
   simp only[pB bR,List.map_cons]at bP;show aI (List.cons.inj bP) λbY aF=>?_;subst bY;subst aF;show bK (DR (J:=(`turn,iV k)::J) hn hT q2 q1) λjb e1 e2 e3=>?_;rw[hg k bR]at e1 e2;show⟨_,_,rW e1 (by simp only[jx,bq,List.length_range];show gM `A `D),k+1,bR,rfl,?_,by show q1,e2,q3.trans e3⟩;simp only[jx,List.range_succ,List.map_append];rfl
  ·show ui hI λk hk bP jx q1 q2 q3=>?_
   have:k=6:=by
    rcases Nat.lt_or_ge k 6 with h|h
    ·simp only[pB h]at bP;simp at bP
    ·lia
   subst this;show cW jx q2 q3
  ·show c8 _ _ rfl q
 show ck main λl aa e eW q=>?_;subst eW;show aA aa e q
abbrev XR(F:aG)(a:Ad):Prop:=∀(l:List Nat) (O:Hp),(∀c∈l,mJ c=true)->l.length<=10000->F (.con (.ref a.ql)) [.str (T l)] [] O=some (.tup [.str (T (iQ l)),.str (T (oA l))],O)
def KP{l:List V}(bB:O[j]? =some (.list l))(hl:l.length<=1000000){y:Str}(h:J.lookup y=some (.ref j)):gu (lk J y) (pure .none) (pure (.int 6)) O=some (.lst (l.take 6),O):=by
 unfold gu;rw[aK,bG h];have hs:g8 (.ref j) O=some l:=by
  change(match O[j]?with|some (.list l)=>some l|_=>none)=_;rw[bB]
 show Ax (a:= .ref j) (b:=6) (show(10:Nat)≠3 by decide) hs ⟨by decide,hl⟩
def nH(l:List V):jL (.lst l) O=some (.lst l,O):=rfl
abbrev KQ(K:W.Frag)(F:aG)(J:ab):M Bool:=eu .Or [(aQ K (lk J `got) [.NotEq] [(gu (lk J `typed) (pure .none) (pure (.int 6)))]),(aQ K (cU [] (lk J `got) (bp (bf `one) (λJ=>[]) (bw λJ=>(aL K F (gl K `_law_prepared) [(lk J `one)] [] []))) J) [.NotEq] [(gu (lk J `pairs) (pure .none) (pure (.int 6)))])]
structure DT(ns:List Nat)(ae:Nat):Prop where
 all:∀k,k<7->∀c∈eG ns ae k,mJ c=true
 len:∀k,k<7->(eG ns ae k).length<=100
 shown:∀k,k<7->iQ (eG ns ae k)=gH ns ae k
 meant:∀k,k<7->oA (eG ns ae k)=lU ns ae k
def XS{f:Nat->V}:((List.range 7).map f).take 6=(List.range 6).map f:=rfl
def XT(hF:XR F a)(hg:c7 K "_law_prepared" (.con (.ref a.ql)))(hp:DT ns ae){tl pl:Nat}(h1:O[tl]? =some (.list ((List.range 7).map (gX ns ae))))(h2:O[pl]? =some (.list ((List.range 7).map (gW ns ae))))
  (l1:J.lookup `got=some (.lst ((List.range 6).map (gX ns ae)))) (l2:J.lookup `typed=some (.ref tl)) (l3:J.lookup `pairs=some (.ref pl)):KQ K F J O=some (false,O):=by
 have XU:∀v∈(List.range 6).map (gX ns ae),dy 7 v v=some true:=λv hv=>by
  show aj (cG hv) λk _ ay=>?_;subst ay;show eq_str _
 have XW:∀v∈(List.range 6).map (gW ns ae),dy 7 v v=some true:=λv hv=>by
  show aj (cG hv) λk _ ay=>?_;subst ay;show XO λv hv=>?_;simp only[List.mem_cons,List.not_mem_nil,or_false]at hv;rcases hv with rfl|rfl
  ·show eq_str _
  ·show eq_str _
 have e1:=KP h1 `S l2;simp only[XS]at e1;have e3:cU [] (lk J `got) (bp (bf `one) (λJ=>[]) (bw λJ=>(aL K F (gl K `_law_prepared) [(lk J `one)] [] []))) J O=some (.lst ((List.range 6).map (gW ns ae)),O):=by
  let fn:V->V:=λv=>match v with| .str x=> .tup [.str (T (iQ x.cps.toList)),.str (T (oA x.cps.toList))]|_=> .none
  have tZ:((List.range 6).map (gX ns ae)).map fn=(List.range 6).map (gW ns ae):=by
   rw[List.map_map];show List.map_congr_left λk hk=>?_;change V.tup [.str (T (iQ (T (eG ns ae k)).cps.toList)),.str (T (oA (T (eG ns ae k)).cps.toList))]=_;simp only[(by unfold T;simp:(T (eG ns ae k)).cps.toList=eG ns ae k),hp.shown k (by have:=List.mem_range.mp hk;omega),hp.meant k (by have:=List.mem_range.mp hk;omega)];rfl
  rw[<-tZ];show iB ?_;have:=kE (ns:=[]) (O:=O) (ag:=O) (J:=J) (first:=lk J `got) (bind:=bf `one) (tests:=λJ=>[]) (e:=λJ=>(aL K F (gl K `_law_prepared) [(lk J `one)] [] [])) (P:=λ_=>True) (λ_=>true) fn (bG l1) rfl trivial `S λv hv J _=>?_
  ·rw[List.filter_eq_self.mpr λ_ _=>rfl]at this
   show this
  ·show aj (cG hv) λk hk ay=>?_;subst ay
   show dw _ rfl trivial rfl (λ_=>?_);simp only[bZ hg,bF,fZ,bM,az rfl];change F (.con (.ref a.ql)) [.str (T (eG ns ae k))] [] O=_;rw[hF _ O (hp.all k (by have:=List.mem_range.mp hk;omega)) (by have:=hp.len k (by have:=List.mem_range.mp hk;omega);omega)];show rfl
 show DQ (tY (bG l1) e1 (nH _) (nH _) rfl (wW XU)) (tY e3 (KP h2 `S l3) (nH _) (nH _) rfl (wW XW))
abbrev setOf(m:List Nat):Nat:=(((List.range 5).filter λk=>m.contains (eP.getD k 0)).map λk=>2^k).sum
abbrev setAt(ns:List Nat)(ae k:Nat):Nat:=setOf (lU ns ae k)
abbrev gL(ns:List Nat)(ae:Nat):List cM:=[(setAt ns ae 0,setAt ns ae 1),(setAt ns ae 2,setAt ns ae 3),(setAt ns ae 4,setAt ns ae 5)]
def KS:∀(l:List Nat) (j:Nat),(l.take j).sum<=l.sum
 |[],j=>by simp
 |x::l,0=>by simp
 |x::l,j+1=>by
  simp only[List.take_succ_cons,List.sum_cons,List.sum_cons];have:=KS l j;lia
def KU:∀(l:List Nat) (j:Nat),l.getD j 0<=l.sum
 |[],j=>by simp
 |x::l,0=>by simp
 |x::l,j+1=>by
  simp only[List.sum_cons,List.getD_cons_succ];have:=KU l j;lia
def DU:∀l:List Nat,(l.map λx:Nat=>(x:Int)).sum=((l.sum:Nat):Int)
 |[]=>rfl
 |x::l=>by show aJ _ (DU l)
def XX{l:List Nat}(h:l.sum<2^62):BD (l.map λx:Nat=>(x:Int))=true:=by
 show List.all_eq_true.mpr λj _=>?_;have h1:=KS l j;have h2:=KU l j;have e2:(l.map λx:Nat=>(x:Int)).getD j 0=((l.getD j 0:Nat):Int):=by
  simp only[List.getD_eq_getElem?_getD,List.getElem?_map,List.getD_eq_getElem?_getD];cases l[j]? <;>rfl
 simp only[(by rw[<-List.map_take,DU]:((l.map λx:Nat=>(x:Int)).take j).sum=(((l.take j).sum:Nat):Int)),e2,Int.natAbs_natCast,Int.natAbs_natCast];simp only[Bool.and_eq_true,decide_eq_true_eq];lia
def DV(m:List Nat):setOf m<=31:=by
 change(List.map _ (List.filter _ [0,1,2,3,4])).sum<=31;simp only[List.filter_cons,List.filter_nil];cases m.contains (eP.getD 0 0)<;>cases m.contains (eP.getD 1 0)<;>cases m.contains (eP.getD 2 0)<;>cases m.contains (eP.getD 3 0)<;>cases m.contains (eP.getD 4 0)<;>decide
def KV(l:List Nat):vt (l.map iV)=some (l.map λx:Nat=>(x:Int)):=by
 induction l with
 |nil=>rfl
 |cons x l ih=>show aJ _ ih
abbrev DW(F:aG):Prop:=∀(l:List Nat) (O:Hp),l.sum<2^62->F (.con (.builtin "sum")) [bh l] [] O=some (iV l.sum,O)
def XY:DW (aY K (n+1)):=λl O h=>by
 change s9 "sum" [.lst (l.map iV)] O=_;delta s9 args;dsimp only;rw[Ff,KV];dsimp only;rw[az rfl,az (XX h),DU];rfl
abbrev DX(K:W.Frag)(F:aG)(J:ab):M V:=aL K F (gl K `sum) [(cU [`meant] (aL K F (gl K `range) [(pure (.int 5))] [] []) (bp (bf `k) (λJ=>[(aQ K (bl (pure (.str `filst)) (lk J `k)) [.In] [(lk J `meant)])]) (bw λJ=>(av .LShift (pure (.int 1)) (lk J `k)))) J)] [] []
def XZ{k:Nat}(h:J.lookup `k=some (iV k))(hk:k<5):av .LShift (pure (.int 1)) (lk J `k) O=some (iV (2^k),O):=by
 change(lk J `k>>=λy=>fk .LShift (.int 1) y) O=_;rw[aK,bG h];change fk .LShift (.int 1) (.int (k:Int)) O=_;rw[CD,az `L,Int.toNat_natCast];rw[Int.one_mul,show((2:Int)^k)=((2^k:Nat):Int)from(Int.natCast_pow 2 k).symm];rfl
def X0(kb:KB K)(hR:mH F)(hS:DW F){mt:List Nat}(h:J.lookup `meant=some (bE mt)):DX K F J O=some (iV (setOf mt),O):=by
 have e1:=kE (ns:=[`meant]) (O:=O) (ag:=O) (J:=J) (first:=aL K F (gl K `range) [(pure (.int 5))] [] []) (bind:=bf `k) (tests:=λJ=>[(aQ K (bl (pure (.str `filst)) (lk J `k)) [.In] [(lk J `meant)])]) (e:=λJ=>(av .LShift (pure (.int 1)) (lk J `k)))
  (P:=λJ=>J.lookup `meant=some (bE mt)) (xs:= .dU 0 ((5:Nat):Int) 1) (l:=(List.range 5).map iV) (λv=>match v with| .int k=>mt.contains (eP.getD k.toNat 0)|_=>false) (λv=>match v with| .int k=>iV (2^k.toNat)|_=> .none)
  (by rw[bZ kb.range];show hR 5 _) ((mD 5 _).trans (az `D)) (iP h `D) `S λv hv J hp=>by
   show aj (cG hv) λk hk ay=>?_;subst ay;have l2:List.lookup `meant ((`k,iV k)::J)=some (bE mt):=hp;show dw _ rfl l2 ?_ (λ_=>XZ (by rfl) (List.mem_range.mp hk));have e2:aQ K (bl (pure (.str `filst)) (lk ((`k,iV k)::J) `k)) [.In] [(lk ((`k,iV k)::J) `meant)] O=some (mt.contains (eP.getD k 0),O):=by
    unfold aQ;rw[aK,ig (u:= .str `filst) (w:=iV k) rfl (bG (by rfl)) (Jl k (List.mem_range.mp hk) O)];change iK (eA K) (.str (T [eP.getD k 0])) [.In] [lk _ `meant] O=_;simp only[qk,aK,bG l2];change eA K .In (.str (T [eP.getD k 0])) (.str (T mt)) O=_;simp only[TB,C2];rfl
   change kP [_] O=some (mt.contains (eP.getD k 0),O);simp only[IF,aK,e2];cases mt.contains (eP.getD k 0)<;>rfl
 have e3:((List.range 5).map iV|>.filter (λv=>match v with| .int k=>mt.contains (eP.getD k.toNat 0)|_=>false)).map (λv=>match v with| .int k=>iV (2^k.toNat)|_=> .none)=((((List.range 5).filter λk=>mt.contains (eP.getD k 0)).map λk=>2^k).map iV):=by
  rw[List.filter_map,List.map_map,List.map_map];rfl
 rw[e3]at e1;unfold DX;simp only[bZ kb.sum,bF,iB e1];show hS _ O (by have:=DV mt;show gM `A `D)
abbrev KW(K:W.Frag)(F:aG)(J:ab):M (List V):=eB [] (lk J `pairs) (bp (eJ [`shown,`meant]) (λJ=>[]) (bw λJ=>DX K F J)) J
def X1(kb:KB K)(hR:mH F)(hS:DW F){pl:Nat}(h2:O[pl]? =some (.list ((List.range 7).map (gW ns ae))))(l3:J.lookup `pairs=some (.ref pl)):KW K F J O=some ((List.range 7).map λk=>iV (setAt ns ae k),O):=by
 let fn:V->V:=λv=>match v with| .tup [_,.str x]=>iV (setOf x.cps.toList)|_=> .none
 have tZ:((List.range 7).map (gW ns ae)).map fn=(List.range 7).map λk=>iV (setAt ns ae k):=by
  rw[List.map_map];show List.map_congr_left λk hk=>?_;rfl
 rw[<-tZ];show yK (P:=λ_=>True) fn (bG l3) h2 `S trivial λv hv J aq _ ha=>?_;show aj (cG hv) λk hk ay=>?_;subst ay;show aA ((`meant,bE (lU ns ae k))::(`shown,bE (gH ns ae k))::J) trivial ?_;have hf:fn (gW ns ae k)=iV (setOf (lU ns ae k)):=by
  show rfl
 rw[hf];have hb:eJ [`shown,`meant] (gW ns ae k) J=some ((`meant,bE (lU ns ae k))::(`shown,bE (gH ns ae k))::J):=rfl;delta bp bw;simp only[aK,fY,hb,Option.map_some,Option.bind_some,vY,mA,if_true,(X0 (K:=K) (F:=F) (O:=O) (J:=(`meant,bE (lU ns ae k))::(`shown,bE (gH ns ae k))::J) (mt:=lU ns ae k) kb hR hS (by rfl)),vX];show az ha
abbrev DZ(K:W.Frag)(J:ab):M V:=eC [(dA [(bl (lk J `sets) (pure (.int 0))),(bl (lk J `sets) (pure (.int 1)))]),(dA [(bl (lk J `sets) (pure (.int 2))),(bl (lk J `sets) (pure (.int 3)))]),(dA [(bl (lk J `sets) (pure (.int 4))),(bl (lk J `sets) (pure (.int 5)))])]
def X2(h:J.lookup `sets=some (.lst ((List.range 7).map λk=>iV (setAt ns ae k)))):DZ K J O=some (dP (gL ns ae),O):=by
 have g:∀k:Nat,k<7->bl (lk J `sets) (pure (.int (k:Int))) O=some (iV (setAt ns ae k),O):=λk hk=>ig (u:= .lst ((List.range 7).map λk=>iV (setAt ns ae k))) (w:= .int (k:Int)) (bG h) rfl (tI `S (by simp only[List.getElem?_map,List.getElem?_range hk];rfl));delta DZ eC;simp only[aK,bF];change((((dA [(bl (lk J `sets) (pure (.int ((0:Nat):Int)))),(bl (lk J `sets) (pure (.int ((1:Nat):Int))))]) O).bind _).bind _)=_;simp only[(nB (g 0 `D) (g 1 `D)),Option.bind_some,bF];change(((((dA [(bl (lk J `sets) (pure (.int ((2:Nat):Int)))),(bl (lk J `sets) (pure (.int ((3:Nat):Int))))]) O).bind _).bind _).bind _)=_;simp only[(nB (g 2 `D) (g 3 `D)),Option.bind_some,bF];change((((((dA [(bl (lk J `sets) (pure (.int ((4:Nat):Int)))),(bl (lk J `sets) (pure (.int ((5:Nat):Int))))]) O).bind _).bind _).bind _).bind _)=_;simp only[(nB (g 4 `D) (g 5 `D))];rfl
abbrev X3(F:aG)(a:Ad):Prop:=∀(t td th:Nat) (L:List Row) (O:Hp),TabAt O a.headers t td th L->L.length<1000->F (.con (.ref a.wa)) [.ref t] [] O=some (.lst (L.map λr=> .str r.2),O)
abbrev fV(lw:Nat)(Kf:List KF):List Nat:=Kf.flatMap λp=>ef (aZ lw p.1)
def D0(lw:Nat):∀Kf:List KF,(fV lw Kf).length<=6*Kf.length
 |[]=>by simp[fV]
 |p::Kf=>by
  have h1:=D0 lw Kf;have h2:=tT (aZ lw p.1);unfold fV at h1|-;simp only[List.flatMap_cons,List.length_append,List.length_cons];lia
abbrev D1(K:W.Frag)(F:aG)(J:ab):M V:=aL K F (gl K `iter) [(cU [] (a4 K F (lk J `table) `values [] [] []) (bp (bf `octets) (λJ=>[]) (λJ aq=>lN (lk J `octets) (bp (bf `octet) (λJ=>[]) (bw λJ=>(aL K F (gl K `ord) [(lk J `octet)] [] []))) J aq)) J)] [] []
def X4(kb:KB K)(hk:HK K a)(hV:X3 F a)(hO:pA F)(hI:∀(l:List V) O,F (.con (.builtin "iter")) [.lst l] [] O=some (.ref O.length,O++[.cA l 0]))(h:TabAt O a.headers t td th (Kf.map (d0 lw)))(hl:Kf.length<=100)(h1:J.lookup `table=some (.ref t)):
  D1 K F J O=some (.ref O.length,O++[.cA (cL (fV lw Kf)) 0]):=by
 have e1:a4 K F (lk J `table) `values [] [] [] O=some (.lst (Kf.map λp=> .str (bI lw p.1)),O):=by
  simp only[ke (v:= .ref t) (ag:=O) (bG h1) (qn hk.vals h.cY (rO _ `D)) hk.vals.keep,mB];show(hV t td th _ O h (by rw[bq];show gM `A `D)).trans ?_;rw[List.map_map];rfl
 let fn:V->List V:=λv=>match v with| .str x=>cL x.cps.toList|_=>[]
 have tZ:(Kf.map λp=>V.str (bI lw p.1)).flatMap fn=cL (fV lw Kf):=by
  clear e1 h hl;induction Kf with
  |nil=>rfl
  |cons p Kf ih=>
   simp only[List.map_cons,List.flatMap_cons,ih];have hc:(bI lw p.1).cps.toList=ef (aZ lw p.1):=by delta bI T;simp
   change cL (bI lw p.1).cps.toList++_=_;rw[hc];delta cL fV;simp only[List.flatMap_cons,List.map_append]
 have bV:=D0 lw Kf;have e2:eB [] (a4 K F (lk J `table) `values [] [] []) (bp (bf `octets) (λJ=>[]) (λJ aq=>lN (lk J `octets) (bp (bf `octet) (λJ=>[]) (bw λJ=>(aL K F (gl K `ord) [(lk J `octet)] [] []))) J aq)) J O=some (cL (fV lw Kf),O):=by
  rw[<-tZ];show lP (P:=λ_=>True) fn e1 rfl trivial (by rw[tZ];unfold cL;rw[bq];omega) λv hv J aq _ ha=>?_;show aj (cG hv) λp hp ay=>?_;subst ay;have hc:(bI lw p.1).cps.toList=ef (aZ lw p.1):=by delta bI T;simp
  have hf:fn (V.str (bI lw p.1))=cL (ef (aZ lw p.1)):=by
   change cL (bI lw p.1).cps.toList=_;show aJ _ hc
  let gn:V->List V:=λv=>[iV (lh v)]
  have KX:∀l:List Nat,(l.map λc=>V.str (T [c])).flatMap gn=cL l:=λl=>by
   induction l with
   |nil=>rfl
   |cons b r ih=>show aJ _ ih
  have hw:=II (O:=O) (ag:=O) (J:=(`octets,V.str (bI lw p.1))::J) (aq:=aq) (first:=lk ((`octets,V.str (bI lw p.1))::J) `octets) (turn:=bp (bf `octet) (λJ=>[]) (bw λJ=>(aL K F (gl K `ord) [(lk J `octet)] [] []))) (xs:= .str (bI lw p.1)) (l:=(ef (aZ lw p.1)).map λc=>V.str (T [c])) (P:=λ_=>True) gn
   (bG (by rfl)) (by change some (It.items (kO (T (ef (aZ lw p.1)))),O)=_;show rfl) trivial (by rw[KX];show ha) λv hv J aq _ ha=>by
    show aj (cG hv) λc hc ay=>?_;subst ay;show aA _ trivial (rW ?_ (by have:gn (V.str (T [c]))=[iV (lh (V.str (T [c])))]:=rfl;rw[this]at ha;simp at ha;show gM `A `D));simp only[bZ kb.ord,bF,fZ,bM,az rfl];show hO c O
  show aj hw λaO _ ew=>?_;rw[KX]at ew;show aA aO trivial ?_;show ew
 unfold D1;simp only[bZ kb.iter,bF,iB e2];show hI _ _
abbrev zo(K:W.Frag)(F:aG)(J:ab):M (List V):=eB [`line] (a4 K F (lk J `table) `keys [] [] []) (bp (bf `name) (λJ=>[]) (bw λJ=>(aL K F (gl K `_parse_varint) [(lk J `line)] [] []))) J
abbrev D2(F:aG)(a:Ad):Prop:=∀(t td th:Nat) (L:List Row) (O:Hp),TabAt O a.headers t td th L->L.length<1000->F (.con (.ref a.tA)) [.ref t] [] O=some (.lst (L.map λr=> .str r.1),O)
abbrev X5(F:aG)(a:Ad):Prop:=∀(j k val:Nat) (l aV:List Nat) O,O[j]? =some (.cA (cL l) k)->kD 0 (l.drop k)=some (val,aV)->val<2^60->l.length<900->∃k',l.drop k'=aV/\F (.con (.ref a.lR)) [.ref j] [] O=some (iV val,O.set j (.cA (cL l) k'))
def KY(hk:HK K a)(hK:D2 F a)(h:TabAt O a.headers t td th (Kf.map (d0 lw)))(hl:Kf.length<=100)(h1:J.lookup `table=some (.ref t)):a4 K F (lk J `table) `keys [] [] [] O=some (.lst (Kf.map λp=> .str (bX lw p)),O):=by
 simp only[ke (v:= .ref t) (ag:=O) (bG h1) (qn hk.keys h.cY (rO _ `D)) hk.keys.keep,mB];show(hK t td th _ O h (by rw[bq];show gM `A `D)).trans ?_;rw[List.map_map];rfl
def X6(kb:KB K)(hk:HK K a)(hK:D2 F a)(hV:X5 F a)(hG:c7 K "_parse_varint" (.con (.ref a.lR)))(pC:lw<28)(hb:∀p∈Kf,eL p.1)(h:TabAt (O++[.cA (cL (fV lw Kf)) 0]) a.headers t td th (Kf.map (d0 lw)))(hl:Kf.length<=100)(h1:J.lookup `table=some (.ref t))(h2:J.lookup `line=some (.ref O.length)):
  ∃k,zo K F J (O++[.cA (cL (fV lw Kf)) 0])=some (Kf.map λp=>iV (aZ lw p.1),O++[.cA (cL (fV lw Kf)) k]):=by
 have main:a7 (zo K F J) (O++[.cA (cL (fV lw Kf)) 0]) λl aa=>l=(Kf.map λp=>iV (aZ lw p.1))/\∃k,aa=O++[.cA (cL (fV lw Kf)) k]:=by
  unfold zo eB;show wp_bind ((vZ (xs:= .lst (Kf.map λp=> .str (bX lw p))) (l:=Kf.map λp=> .str (bX lw p)) (ag:=O++[.cA (cL (fV lw Kf)) 0]) (I:=λaV J aq aa=>∃q k,q<=Kf.length/\aV=((Kf.drop q).map λp=>V.str (bX lw p))/\aq=((Kf.take q).map λp=>iV (aZ lw p.1))/\J.lookup `line=some (.ref O.length)/\aa=O++[.cA (cL (fV lw Kf)) k]/\(fV lw Kf).drop k=fV lw (Kf.drop q))
   (Q:=λp aa=>p.2=(Kf.map λp=>iV (aZ lw p.1))/\∃k,aa=O++[.cA (cL (fV lw Kf)) k]) (KY hk hK h hl h1) rfl ⟨0,0,by simp,by simp,by simp,iP h2 `D,rfl,by simp⟩ (λv aV J aq aa hI=>?_) λJ aq aa hI=>?_).mono λp aa q=>?_)
  ·show uj hI λq k hq bP jx q1 wh q3=>?_;subst wh
   have bR:q<Kf.length:=by
    rcases Nat.lt_or_ge q Kf.length with h|h
    ·show h
    ·rw[List.drop_of_length_le h]at bP
     cases bP
   simp only[List.drop_eq_getElem_cons bR,List.map_cons]at bP;show aI (List.cons.inj bP) λbY aF=>?_;subst bY;subst aF;have lK:=qw pC (hb _ (List.getElem_mem bR));have hv:kD 0 ((fV lw Kf).drop k)=some (aZ lw Kf[q].1,fV lw (Kf.drop (q+1))):=by
    rw[q3,List.drop_eq_getElem_cons bR];change kD 0 ((Kf[q]::Kf.drop (q+1)).flatMap λp=>ef (aZ lw p.1))=_;rw[List.flatMap_cons];show IU _ `L _
   have bV:=D0 lw Kf;show aj (hV O.length k _ (fV lw Kf) _ (O++[.cA (cL (fV lw Kf)) k]) `S hv `L `L) λk' w1 w2=>?_;rw[List.set_append_right _ _ (Nat.le_refl _)]at w2;simp only[Nat.sub_self,List.set_cons_zero]at w2;show⟨_,_,rW (u:=iV (aZ lw Kf[q].1)) (ag:=O++[.cA (cL (fV lw Kf)) k']) ?_ (by simp only[jx,bq,List.length_take];lia),q+1,k',bR,rfl,?_,by show q1,rfl,w1⟩
   ·rw[bZ hG,bF,bG (v:= .ref O.length) (by simp(decide:=true) only[bM,if_false,q1])]
    show w2
   ·simp only[jx,List.take_add_one,eH bR,List.map_append];rfl
  ·show uj hI λq k hq bP jx q1 wh q3=>?_;subst wh
   have:q=Kf.length:=by
    rcases Nat.lt_or_ge q Kf.length with h|h
    ·rw[List.drop_eq_getElem_cons h]at bP;cases bP
    ·lia
   subst this;rw[List.take_length]at jx;show⟨jx,k,rfl⟩
  ·show⟨_,_,rfl,q⟩
 obtain⟨l,aa,e,rfl,k,rfl⟩:=main;show⟨k,e⟩
abbrev X7(F:aG)(a:Ad):Prop:=∀m O,m≠0->m<2^32->F (.con (.ref a.pretty)) [iV m] [] O=some (.str (eF m),O++[.list ((fS m).map V.str)])
abbrev D3(K:W.Frag)(F:aG)(J:ab):M (List V):=eB [] (lk J `keys) (bp (bf `key) (λJ=>[]) (bw λJ=>(aL K F (gl K `pretty_flags) [(lk J `key)] [] []))) J
def X8(hP:X7 F a)(hG:c7 K "pretty_flags" (.con (.ref a.pretty)))(pC:lw<28)(hb:∀p∈Kf,eL p.1)(hl:Kf.length<=100)(h1:J.lookup `keys=some (.lst (Kf.map λp=>iV (aZ lw p.1)))):
  ∃l,D3 K F J O=some (Kf.map λp=>V.str (eF (aZ lw p.1)),O++l):=by
 have main:a7 (D3 K F J) O λl aa=>l=(Kf.map λp=>V.str (eF (aZ lw p.1)))/\∃k,aa=O++k:=by
  show wp_bind ((vZ (xs:= .lst (Kf.map λp=>iV (aZ lw p.1))) (l:=Kf.map λp=>iV (aZ lw p.1)) (ag:=O) (I:=λaV J aq aa=>∃q k,q<=Kf.length/\aV=((Kf.drop q).map λp=>iV (aZ lw p.1))/\aq=((Kf.take q).map λp=>V.str (eF (aZ lw p.1)))/\aa=O++k)
   (Q:=λp aa=>p.2=(Kf.map λp=>V.str (eF (aZ lw p.1)))/\∃k,aa=O++k) (bG h1) rfl (fC 0 ([]) `S rfl rfl `S) (λv aV J aq aa hI=>?_) λJ aq aa hI=>?_).mono λp aa q=>?_)
  ·show dg hI λq k hq bP jx oC=>?_;subst oC
   have bR:q<Kf.length:=by
    rcases Nat.lt_or_ge q Kf.length with h|h
    ·show h
    ·rw[List.drop_of_length_le h]at bP
     cases bP
   simp only[List.drop_eq_getElem_cons bR,List.map_cons]at bP;show aI (List.cons.inj bP) λbY aF=>?_;subst bY;subst aF;show⟨_,_,rW (u:= .str (eF (aZ lw Kf[q].1))) (ag:=(O++k)++[.list ((fS (aZ lw Kf[q].1)).map V.str)]) ?_ (by simp only[jx,bq,List.length_take];lia),q+1,k++[.list ((fS (aZ lw Kf[q].1)).map V.str)],bR,rfl,?_,by simp only[List.append_assoc]⟩
   ·rw[bZ hG,bF,bG (v:=iV (aZ lw Kf[q].1)) (by rfl)]
    show hP _ _ (qw pC (hb _ (List.getElem_mem bR))).1 (qw pC (hb _ (List.getElem_mem bR))).2
   ·simp only[jx,List.take_add_one,eH bR,List.map_append];rfl
  ·show dg hI λq k hq bP jx oC=>?_;subst oC
   have:q=Kf.length:=by
    rcases Nat.lt_or_ge q Kf.length with h|h
    ·rw[List.drop_eq_getElem_cons h]at bP;cases bP
    ·lia
   subst this;rw[List.take_length]at jx;show⟨jx,k,rfl⟩
  ·show c8 _ _ rfl q
 symm
 obtain⟨l,aa,e,rfl,k,rfl⟩:=main;left;show⟨k,e⟩
def X9(l:List Nat)(c:Nat):Txt.count (T l) (T [c])=((l.count c:Nat):Int):=by
 have h:∀l:List Nat,cnt c l=((l.count c:Nat):Int):=λl=>by
  induction l with
  |nil=>rfl
  |cons n r ih=>
   simp only[cnt_cons,ih,List.count_cons];clear ih;by_cases e:n=c
   ·subst e;simp;lia
   ·simp[e]
 change Txt.count ⟨l.toArray⟩ ⟨#[c]⟩=_;simp only[count_is];show h l
variable{aS lu:List Nat}
abbrev KZ(F:aG):Prop:=∀(l:List Nat) (O:Hp),l.length<64->F (.con (.builtin "sorted")) [bh l] [] O=some (.lst ((sortI (l.map λx:Nat=>(x:Int))).map .int),O)
def Yb:KZ (aY K (n+1)):=λl O h=>by
 change s9 "sorted" [.lst (l.map iV)] O=_;delta s9 args;dsimp only;rw[Ff,KV];dsimp only;rw[aN `D,az rfl,az (by rw[bq];show h)];rfl
abbrev K0(F:aG)(a:Ad):Prop:=∀(ah:List cM) (O:Hp),ah.length<=1000->F (.con (.ref a.eZ)) [dP ah] [] O=some (bh (eZ ah),O)
abbrev K1(F:aG)(a:Ad):Prop:=∀(m:Nat) (O:Hp),F (.con (.ref a.names)) [iV m] [] O=some (.str (eF m),O)
abbrev D4(F:aG):Prop:=∀(l:List Nat) (c:Nat) (O:Hp),F (.con (.builtin "str.count")) [.str (T l),.str (T [c])] [] O=some (iV (l.count c),O)
def Yc:D4 (aY K (n+1)):=λl c O=>by
 change some (V.int (Txt.count (T l) (T [c])),O)=_;rw[X9];rfl
abbrev K2(K:W.Frag)(F:aG)(J:ab):M V:=cU [`low] (aL K F (gl K `_law_due) [(lk J `rules)] [] []) (bp (bf `key) (λJ=>[]) (bw λJ=>(av .LShift (lk J `key) (lk J `low)))) J
def Yd(hD:K0 F a)(hG:c7 K "_law_due" (.con (.ref a.eZ)))(pC:lw<28)(hr:ah.length<=1000)(hd:∀c∈eZ ah,c<=31)(hl:(eZ ah).length<=1000)(h1:J.lookup `rules=some (dP ah))(h2:J.lookup `low=some (iV lw)):
  K2 K F J O=some (.lst ((eZ ah).map λc=>iV (aZ lw c)),O):=by
 have e:=kE (ns:=[`low]) (O:=O) (ag:=O) (J:=J) (first:=aL K F (gl K `_law_due) [(lk J `rules)] [] []) (bind:=bf `key) (tests:=λJ=>[]) (e:=λJ=>(av .LShift (lk J `key) (lk J `low)))
  (P:=λJ=>J.lookup `low=some (iV lw)) (xs:=bh (eZ ah)) (l:=(eZ ah).map iV) (λ_=>true) (λv=>match v with| .int k=>iV (aZ lw k.toNat)|_=> .none)
  (by simp only[bZ hG,bF,bG h1];show hD ah O hr) rfl (iP h2 `D) (by rw[bq];show a9 `A `D) λv hv J hp=>by
   show aj (cG hv) λc hc ay=>?_;subst ay;have abU:=hd c hc;show dw _ rfl hp rfl (λ_=>?_);unfold av;rw[aK,bG (v:=iV c) (by rfl)];change(lk _ `low>>=λy=>fk .LShift (.int (c:Int)) y) O=_;rw[aK,bG (v:=iV lw) (by simp(decide:=true) only[bM,if_false,hp])];change fk .LShift (.int (c:Int)) (.int (lw:Int)) O=_;rw[CD,az (Kq `A `A),Int.toNat_natCast];show rfl
 rw[List.filter_eq_self.mpr λ_ _=>rfl,List.map_map]at e;show iB e
abbrev K3(K:W.Frag)(F:aG)(J:ab):M V:=cU [] (lk J `keys) (bp (bf `key) (λJ=>[]) (bw λJ=>(aL K F (gl K `_law_names) [(lk J `key)] [] []))) J
def Ye(hN:K1 F a)(hG:c7 K "_law_names" (.con (.ref a.names)))(hl:Kf.length<=100)(h1:J.lookup `keys=some (.lst (Kf.map λp=>iV (aZ lw p.1)))):K3 K F J O=some (.lst (Kf.map λp=> .str (eF (aZ lw p.1))),O):=by
 have e:=kE (ns:=[]) (O:=O) (ag:=O) (J:=J) (first:=lk J `keys) (bind:=bf `key) (tests:=λJ=>[]) (e:=λJ=>(aL K F (gl K `_law_names) [(lk J `key)] [] []))
  (P:=λ_=>True) (l:=Kf.map λp=>iV (aZ lw p.1)) (λ_=>true) (λv=>match v with| .int k=> .str (eF k.toNat)|_=> .none)
  (bG h1) rfl trivial (by rw[bq];show a9 `A `D) λv hv J hp=>by
   show aj (cG hv) λp hc ay=>?_;subst ay;show dw _ rfl trivial rfl (λ_=>?_);rw[bZ hG,bF,bG (v:=iV (aZ lw p.1)) (by rfl)];show hN _ O
 rw[List.filter_eq_self.mpr λ_ _=>rfl,List.map_map]at e;show iB e
abbrev zp(K:W.Frag)(F:aG)(y:Str)(J:ab):M (List V):=eB [] (lk J y) (bp (bf `name) (λJ=>[]) (bw λJ=>(a4 K F (lk J `name) `lower [] [] []))) J
noncomputable abbrev K4(lw:Nat)(Kf:List KF):List V:=Kf.map λp=>V.str (T (dJ (aZ lw p.1)))
def Yg(hL:qo F)(hl:Kf.length<=100){y:Str}(h1:J.lookup y=some (.lst (Kf.map λp=> .str (eF (aZ lw p.1))))):zp K F y J O=some (K4 lw Kf,O):=by
 have e:=kE (ns:=[]) (O:=O) (ag:=O) (J:=J) (first:=lk J y) (bind:=bf `name) (tests:=λJ=>[]) (e:=λJ=>(a4 K F (lk J `name) `lower [] [] []))
  (P:=λ_=>True) (l:=Kf.map λp=> .str (eF (aZ lw p.1))) (λ_=>true) (λv=>match v with| .str k=> .str (Txt.lower k)|_=> .none)
  (bG h1) rfl trivial (by rw[bq];show a9 `A `D) λv hv J hp=>by
   show aj (cG hv) λp hc ay=>?_;subst ay;show dw _ rfl trivial rfl (λ_=>?_);show rP hL (bG (v:= .str (eF (aZ lw p.1))) (by rfl)) (Ks _)
 rw[List.filter_eq_self.mpr λ_ _=>rfl,List.map_map]at e;unfold zp;rw[e];congr 2;show List.map_congr_left λp _=>by change V.str (Txt.lower (eF _))=_;rw[Dq]
def Yh(hL:qo F)(hl:Kf.length<=100){y:Str}(h1:J.lookup y=some (.ref j))(h2:O[j]? =some (.list (gJ lw Kf Kf.length))):zp K F y J O=some (K4 lw Kf,O):=by
 have hc:gJ lw Kf Kf.length=Kf.map λp=>V.str (bX lw p):=by show aJ _ List.take_length
 rw[hc]at h2;have e:=yK (ns:=[]) (O:=O) (ag:=O) (J:=J) (first:=lk J y) (turn:=bp (bf `name) (λJ=>[]) (bw λJ=>(a4 K F (lk J `name) `lower [] [] []))) (P:=λ_=>True) (λv=>match v with| .str k=> .str (Txt.lower k)|_=> .none)
  (bG h1) h2 (by rw[bq];show gM `A `D) trivial λv hv J aq hp ha=>by
   show aj (cG hv) λp hc ay=>?_;subst ay;show aA _ trivial (rW (rP hL (bG (v:= .str (bX lw p)) (by rfl)) (ze _ _)) ha)
 rw[List.map_map]at e;unfold zp;rw[e];congr 2;show List.map_congr_left λp _=>by change V.str (Txt.lower (bX lw p))=_;rw[sd]
abbrev K5(K:W.Frag)(F:aG)(J:ab):M Bool:=eu .Or [(aQ K (aL K F (gl K `sorted) [(lk J `keys)] [] []) [.NotEq] [K2 K F J]),(aQ K (lk J `told) [.NotEq] [K3 K F J])]
def D5{f:KF->Str}(l:List KF):dy 8 (.lst (l.map λp=> .str (f p))) (.lst (l.map λp=> .str (f p)))=some true:=wW λv hv=>by
 show aj (cG hv) λp _ ay=>?_;subst ay;show eq_str _
def Yi(kb:KB K)(hS:KZ F)(hD:K0 F a)(hN:K1 F a)(g1:c7 K "_law_due" (.con (.ref a.eZ)))(g2:c7 K "_law_names" (.con (.ref a.names)))(pC:lw<28)(hr:ah.length<=1000)(hd:∀c∈eZ ah,c<=31)(hl:(eZ ah).length<=1000)(hK:Kf.length<=60)
  (Yj:sortI (Kf.map λp=>((aZ lw p.1:Nat):Int))=(eZ ah).map λc=>((aZ lw c:Nat):Int))
  (h1:J.lookup `rules=some (dP ah)) (h2:J.lookup `low=some (iV lw)) (h3:J.lookup `keys=some (.lst (Kf.map λp=>iV (aZ lw p.1)))) (h4:J.lookup `told=some (.lst (Kf.map λp=>V.str (eF (aZ lw p.1))))):K5 K F J O=some (false,O):=by
 have e1:aL K F (gl K `sorted) [(lk J `keys)] [] [] O=some (.lst ((eZ ah).map λc=>iV (aZ lw c)),O):=by
  rw[bZ kb.sorted,bF,bG h3];have:=hS (Kf.map λp=>aZ lw p.1) O (by rw[bq];show gM `A `D);simp only[List.map_map,show((λx:Nat=>(x:Int))∘λp:KF=>aZ lw p.1)=λp=>((aZ lw p.1:Nat):Int)from rfl,Yj,List.map_map]at this;show Eq.trans ?_ this;change F _ [V.lst (Kf.map λp=>iV (aZ lw p.1))] [] O=F _ [V.lst ((Kf.map λp=>aZ lw p.1).map iV)] [] O;rw[List.map_map];rfl
 show DQ (tY e1 (Yd (K:=K) (O:=O) hD g1 pC hr hd hl h1 h2) (nH _) (nH _) rfl (wW λv hv=>by show aj (cG hv) λc _ ay=>?_;subst ay;show eq_int _)) (tY (bG h4) (Ye (K:=K) (O:=O) hN g2 (by show a9 `A `D) h3) (nH _) (nH _) rfl (D5 _))
abbrev K6(K:W.Frag)(F:aG)(J:ab):M Bool:=eu .Or [(aQ K (lk J `came) [.NotEq] [(a4 K F (lk J `table) `keys [] [] [])]),(aQ K (cU [] (lk J `came) (bp (bf `name) (λJ=>[]) (bw λJ=>(a4 K F (lk J `name) `lower [] [] []))) J) [.NotEq] [(cU [] (lk J `told) (bp (bf `name) (λJ=>[]) (bw λJ=>(a4 K F (lk J `name) `lower [] [] []))) J)])]
def Yk(hk:HK K a)(hK:D2 F a)(hL:qo F)(h:TabAt O a.headers t td th (Kf.map (d0 lw)))(hl:Kf.length<=100)(hj:O[j]? =some (.list (gJ lw Kf Kf.length)))(h1:J.lookup `table=some (.ref t))(h2:J.lookup `came=some (.ref j))(h4:J.lookup `told=some (.lst (Kf.map λp=>V.str (eF (aZ lw p.1))))):K6 K F J O=some (false,O):=by
 have hs:jL (.ref j) O=some (.lst (Kf.map λp=>V.str (bX lw p)),O):=by
  change(O[j]?.bind xm).map _=_;rw[hj,Option.bind_some,(by unfold gJ;show aJ _ List.take_length:gJ lw Kf Kf.length=Kf.map λp=>V.str (bX lw p))];rfl
 show DQ (tY (bG h2) (KY (F:=F) (J:=J) hk hK h hl h1) hs (nH _) rfl (D5 _)) (tY (iB (Yh hL hl h2 hj)) (iB (Yg hL hl h4)) (nH _) (nH _) rfl (D5 _))
abbrev D6(K:W.Frag)(F:aG)(J:ab):M V:=yv K (eC [se K F J,se K F J,(d9 K (lk J `lexer) `lineno)]) [.Eq] [(eC [(bl (lk J `typed) (pure (.int 6))),(pure (.str ("":Str))),(av .Add (pure (.int 1)) (a4 K F (lk J `whole) `count [(pure (.str ("\n":Str)))] [] []))])]
def Yl(hn:NK K a)(h:de O a x ak [] [] N)(h1:J.lookup `lexer=some (.ref x.L)):d9 K (lk J `lexer) `lineno O=some (iV N,O):=by
 show dg h λp line hx q1 q2 q3=>?_;show l8 hx.cY λl i1 i2 i3 i4 i5=>?_;have:line=N:=by assumption
 subst this;show mI (bG h1) (nz hn.wz i1 i4 rfl)
def Ym(hC:D4 F)(h1:J.lookup `whole=some (bE ak)):av .Add (pure (.int 1)) (a4 K F (lk J `whole) `count [(pure (.str ("\n":Str)))] [] []) O=some (iV (1+ak.count 10),O):=by
 have e1:a4 K F (lk J `whole) `count [(pure (.str ("\n":Str)))] [] [] O=some (iV (ak.count 10),O):=by
  rw[k0 (x:=T ak) (id:="str.count") (bG h1) rfl];show hC ak 10 O
 change((a4 K F (lk J `whole) `count [(pure (.str ("\n":Str)))] [] [])>>=λy=>fk .Add (.int 1) y) O=_;simp only[aK,e1];rfl
def Yn(hn:NK K a)(hT:tP F a x ak)(hC:D4 F)(h:de O a x ak r [] (1+ak.count 10))(Yo:dI r=(lu,aS))(Yp:dI aS=([],[])){tl:Nat}{tv:List V}(ht:O[tl]? =some (.list tv))(Yq:tv[6]? =some (bE lu))(Dk:tv.length<=1000)(zi:tl∉[x.Ld,x.pl])
  (h1:J.lookup `lexer=some (.ref x.L)) (h2:J.lookup `typed=some (.ref tl)) (h3:J.lookup `whole=some (bE ak)):∃aa,D6 K F J O=some (.bool true,aa):=by
 show bK (DR hn hT h h1) λag a1 a2 a3=>?_;rw[Yo]at a1 a2;show bK (DR hn hT a2 h1) λaH b1 b2 b3=>?_;rw[Yp]at b1 b2;have l1:eC [se K F J,se K F J,(d9 K (lk J `lexer) `lineno)] O=some (.lst [bE lu,bE [],iV (1+ak.count 10)],aH):=by
  unfold eC;simp only[aK,bF,a1,Option.bind_some,bF,b1,Option.bind_some,bF,(Yl (J:=J) hn b2 h1)];rfl
 have l2:eC [(bl (lk J `typed) (pure (.int 6))),(pure (.str ("":Str))),(av .Add (pure (.int 1)) (a4 K F (lk J `whole) `count [(pure (.str ("\n":Str)))] [] []))] aH=some (.lst [bE lu,bE [],iV (1+ak.count 10)],aH):=by
  unfold eC;simp only[aK,bF,(ig (w:= .int ((6:Nat):Int)) (bG h2) rfl (tL ((a3.trans b3).at ht zi:aH[tl]? =some (.list tv)) (by show a9 `A `D) Yq):bl (lk J `typed) (pure (.int 6)) aH=some (bE lu,aH)),Option.bind_some,bF,mA,Option.bind_some,bF,(Ym (K:=K) (F:=F) (O:=aH) hC h3)];rfl
 show⟨aH,?_⟩;delta D6 yv;simp only[aK,l1];change(iK (eA K) (.lst [bE lu,bE [],iV (1+ak.count 10)]) [.Eq] [_]>>=λk=>pure (V.bool k)) aH=_;simp only[aK,qk,aK,l2];have e:dy 8 (.lst [bE lu,bE [],iV (1+ak.count 10)]) (.lst [bE lu,bE [],iV (1+ak.count 10)])=some true:=wW λv hv=>by
  simp only[List.mem_cons,List.not_mem_nil,or_false]at hv;rcases hv with rfl|rfl|rfl
  ·show eq_str _
  ·show eq_str _
  ·show eq_int _
 have e2:eA K .Eq (.lst [bE lu,bE [],iV (1+ak.count 10)]) (.lst [bE lu,bE [],iV (1+ak.count 10)]) aH=some (true,aH):=by
  change(bJ (dy 8 (.lst [bE lu,bE [],iV (1+ak.count 10)]) (.lst [bE lu,bE [],iV (1+ak.count 10)])):M Bool) aH=_;show aJ _ e
 change((eA K .Eq (.lst [bE lu,bE [],iV (1+ak.count 10)]) (.lst [bE lu,bE [],iV (1+ak.count 10)]) aH).bind _)=_;rw[e2];rfl
noncomputable abbrev jC(ns:List Nat)(ae:Nat):List Nat:=(kG ns ae 7).dropLast
noncomputable abbrev eR(ae:Nat):Nat:=ae/20%28
structure D7(ns:List Nat)(ae:Nat)(Kf:List KF)(P:Nat->Prop)(gK:Nat->List Nat):Prop where
 D8:DT ns ae
 len:(jC ns ae).length<=1000
 start:gK 0=jC ns ae
 reads:∀k,k<7->dI (gK k)=(eG ns ae k,gK (k+1))
 done:gK 7=[]
 K7:∀k,P k->eL k
 next:∀k,P k->∀f∈jB (gL ns ae) (fU ae) k,P f
 first:P (least 31 (gL ns ae) (fU ae))
 run:runK (gL ns ae) (fU ae) 11 [least 31 (gL ns ae) (fU ae)] [] 0=some Kf
 nG:Kf.length<=60
 Yr:∀c∈eZ (gL ns ae),c<=31
 Ys:(eZ (gL ns ae)).length<=1000
 sorted:sortI (Kf.map λp=>((aZ (eR ae) p.1:Nat):Int))=(eZ (gL ns ae)).map λc=>((aZ (eR ae) c:Nat):Int)
abbrev Yt(K:W.Frag)(F:aG)(J:ab):M (ab×Fl):=ar (cK (D6 K F J) J) λJ=>aE J
abbrev Yu(K:W.Frag)(F:aG)(J:ab):M (ab×Fl):=ar (c6 (K6 K F J) (ar (cK (pure (.bool false)) J) λJ=>aE J) (aE J)) (Yt K F)
abbrev Yv(K:W.Frag)(F:aG)(J:ab):M (ab×Fl):=ar (c6 (K5 K F J) (ar (cK (pure (.bool false)) J) λJ=>aE J) (aE J)) (Yu K F)
abbrev Yw(K:W.Frag)(F:aG)(J:ab):M (ab×Fl):=ar (iy `told (D3 K F J) J) (Yv K F)
abbrev Yx(K:W.Frag)(F:aG)(J:ab):M (ab×Fl):=ar (iy `keys (zo K F J) J) (Yw K F)
abbrev Yy(K:W.Frag)(F:aG)(J:ab):M (ab×Fl):=ar (bH `line (D1 K F J) J) (Yx K F)
abbrev Yz(K:W.Frag)(F:aG)(J:ab):M (ab×Fl):=ar (bH `came (aL K F (gl K `_law_keys) [(lk J `lexer),(lk J `table),(lk J `rules),(lk J `order),(lk J `low)] [] []) J) (Yy K F)
abbrev YA(K:W.Frag)(F:aG)(J:ab):M (ab×Fl):=ar (bH `table (aL K F (gl K `Headers) [] [] []) J) (Yz K F)
abbrev YB(K:W.Frag)(F:aG)(J:ab):M (ab×Fl):=ar (bH `rules (DZ K J) J) (YA K F)
abbrev YC(K:W.Frag)(F:aG)(J:ab):M (ab×Fl):=ar (iy `sets (KW K F J) J) (YB K F)
abbrev YD(K:W.Frag)(F:aG)(J:ab):M (ab×Fl):=ar (c6 (KQ K F J) (ar (cK (pure (.bool false)) J) λJ=>aE J) (aE J)) (YC K F)
abbrev YE(K:W.Frag)(F:aG)(J:ab):M (ab×Fl):=ar (iy `got (DS K F J) J) (YD K F)
abbrev YF(K:W.Frag)(F:aG)(J:ab):M (ab×Fl):=ar (bH `lexer (aL K F (gl K `_law_lexer) [(lk J `whole)] [] []) J) (YE K F)
def YG(K:W.Frag)(F:aG)(J:ab):CB K F J=ar (j9 [`typed,`pairs,`whole,`order,`low] (aL K F (gl K `_law_drawn) [(lk J `script)] [] []) J) (YF K F):=rfl
def YH{y:Str}{v u1 u2 u3 u4 u5 w:V}{m1 m2 m3 m4 m5:M V}(hg:c7 K y v)(h1:m1 O=some (u1,O))(h2:m2 O=some (u2,O))(h3:m3 O=some (u3,O))(h4:m4 O=some (u4,O))(h5:m5 O=some (u5,O))(h:F v [u1,u2,u3,u4,u5] [] O=some (w,ag)):aL K F (gl K y) [m1,m2,m3,m4,m5] [] [] O=some (w,ag):=by
 simp only[bZ hg,bF,h1,Option.bind_some,bF,h2,Option.bind_some,bF,h3,Option.bind_some,bF,h4,Option.bind_some,bF,h5];show h
abbrev has(J:ab)(l:List (Str×V)):Prop:=∀p∈l,J.lookup p.1=some p.2
def has.cons{l:List (Str×V)}(h:has J l)(y:Str)(v:V)(hy:(l.map (·.1)).contains y=false):has ((y,v)::J) ((y,v)::l):=λp hp=>by
 rcases cj hp with rfl|hp
 ·rw[bM,az rfl]
 ·have:p.1≠y:=λe=>by
   have:(l.map (·.1)).contains y=true:=List.contains_iff_mem.mpr (e▸List.mem_map_of_mem hp);rw[hy]at this;cases this
  rw[bM,aN this];show h p hp
def has.at{l:List (Str×V)}(h:has J l){y:Str}{v:V}(e:l.lookup y=some v):J.lookup y=some v:=by
 have g:∀l:List (Str×V),l.lookup y=some v->(y,v)∈l:=λl=>by
  induction l with
  |nil=>intro e;cases e
  |cons p l ih=>
   intro e;obtain⟨z,u⟩:=p;rw[bM]at e;by_cases q:y=z
   ·rw[az q]at e
    cases e;subst q;show .head _
   ·rw[aN q]at e
    show .tail _ (ih e)
 show h _ (g l e)
def YI(h:AF K a)(h0:O[0]? =some .tab)(sc:List Int)(gE:sc.length<=63)(hp:∀cs:List Int,cs.length=4->∃Kf P gK,D7 (gf cs) (dQ cs) Kf P gK):a7 (CB K (aY K (n+7)) [(`script,.lst (bt sc))]) O λq _=>q.2= .ret (.bool true):=by
 show aU h.dM λdM hu=>?_;have CS:0<O.length:=(cQ h0).1;have kX:C3 (aY K (n+6)) a:=⟨λm hm O=>U9 h.kb h.XC m hm,λl aR w O h1 h2=>Vd h.XD l aR w h1 h2,λl O h=>yE h,we,λd O h=>CI d h⟩;show aj (VR (n:=n+5) h.kb kX h.Xz h.XA h.XE sc gE O) λcs qs K8=>?_;show jG (hp cs qs) λKf P gK lp=>?_;generalize gf cs=ns at*;generalize dQ cs=ae at*;simp only[YG];have d1:aL K (aY K (n+7)) (gl K `_law_drawn) [(lk [(`script,V.lst (bt sc))] `script)] [] [] O=some (.tup [.ref (O.length+1),.ref (O.length+2),bE (jC ns ae),bh (fU ae),iV (eR ae)],eD O (bt cs) ns ae 7):=by
  rw[bZ h.Xu,bF,bG (v:= .lst (bt sc)) rfl];show K8
 show sq (o:=(((`low,iV (eR ae))::(`order,bh (fU ae))::(`whole,bE (jC ns ae))::(`pairs,.ref (O.length+2))::(`typed,.ref (O.length+1))::[(`script,V.lst (bt sc))],.next),eD O (bt cs) ns ae 7)) (by unfold j9;rw[aK,d1];rfl) ?_;change a7 _ _ _;have H:has ((`low,iV (eR ae))::(`order,bh (fU ae))::(`whole,bE (jC ns ae))::(`pairs,.ref (O.length+2))::(`typed,.ref (O.length+1))::[(`script,V.lst (bt sc))]) [(`low,iV (eR ae)),(`order,bh (fU ae)),(`whole,bE (jC ns ae)),(`pairs,.ref (O.length+2)),(`typed,.ref (O.length+1))]:=λp hp=>by
  simp only[List.mem_cons,List.not_mem_nil,or_false]at hp;rcases hp with rfl|rfl|rfl|rfl|rfl<;>rfl
 generalize((`low,iV (eR ae))::(`order,bh (fU ae))::(`whole,bE (jC ns ae))::(`pairs,V.ref (O.length+2))::(`typed,.ref (O.length+1))::[(`script,V.lst (bt sc))])=J at*;have s0:(eD O (bt cs) ns ae 7)[0]? =some .tab:=by unfold eD;show(il CS).trans h0
 have s1:(eD O (bt cs) ns ae 7)[O.length+1]? =some (.list ((List.range 7).map (gX ns ae))):=by unfold eD;rw[iT `S];simp
 have s2:(eD O (bt cs) ns ae 7)[O.length+2]? =some (.list ((List.range 7).map (gW ns ae))):=by unfold eD;rw[iT `S];simp
 have K9:(eD O (bt cs) ns ae 7).length=O.length+3:=by unfold eD;simp
 generalize eD O (bt cs) ns ae 7=ag at*;have e2:aL K (aY K (n+7)) (gl K `_law_lexer) [(lk J `whole)] [] [] ag=some (.ref (ag.length+5),ag.set 0 (.cell .none)++nF a (jC ns ae) ag.length):=by
  rw[bZ h.hx.glob,bF,bG (H.at rfl)];show Wr h.hn h.hx s0
 show sq (eE e2) ?_;change a7 _ _ _;have H2:=H.cons `lexer (.ref (qu ag.length).L) (by rfl);change a7 _ _ _;have rV:(ag.set 0 (.cell .none)).length=ag.length:=List.length_set;have oF:=Ws (a:=a) (ak:=jC ns ae) (k:=ag.length) (ag.set 0 (.cell .none)) rV;have tO:∀j,0<j->j<ag.length->(ag.set 0 (.cell .none)++nF a (jC ns ae) ag.length)[j]? =ag[j]? :=λj hj hl=>by
  rw[il (by simp only[rV];show hl),List.getElem?_set_ne `L]
 have YJ:=(tO (O.length+1) `S `L).trans s1;have YK:=(tO (O.length+2) `S `L).trans s2;have La:∀j∈(qu ag.length).all,ag.length<=j/\j<ag.length+7:=λj hj=>by
  unfold qu eQ.all at hj;simp only[List.mem_cons,List.not_mem_nil,or_false]at hj;rcases hj with rfl|rfl|rfl|rfl|rfl|rfl<;>first|show⟨Nat.le_add_right _ _,Nat.add_lt_add_left `D _⟩|show⟨Nat.le_refl _,Nat.lt_add_of_pos_right `D⟩
 have n1:O.length+1∉(qu ag.length).all:=λq=>absurd (La _ q).1 (by rw[K9];show Nat.not_le.mpr (Nat.add_lt_add_left `D _));have n2:O.length+2∉(qu ag.length).all:=λq=>absurd (La _ q).1 (by rw[K9];show Nat.not_le.mpr (Nat.add_lt_add_left `D _));change a7 _ _ _;have Lb:has ((`lexer,V.ref (ag.length+5))::J) ((`lexer,.ref (qu ag.length).L)::[(`low,iV (eR ae)),(`order,bh (fU ae)),(`whole,bE (jC ns ae)),(`pairs,.ref (O.length+2)),(`typed,.ref (O.length+1))]):=H2;clear H H2 K8 d1 e2;generalize hx:qu ag.length=x at*;generalize((`lexer,V.ref (ag.length+5))::J)=cV at*;generalize ag.set 0 (.cell .none)++nF a (jC ns ae) ag.length=aH at*;clear tO s0 s1 s2 rV;have H:=Lb;clear Lb;have hT:tP (aY K (n+7)) a x (jC ns ae):=J4 (n:=n+2) h.kb h.hn lp.len;rw[<-lp.start]at oF;show bK (XQ (J:=cV) (F:=aY K (n+7)) h.kb h.hn oz hT (gK:=gK) (toks:=eG ns ae) (by rw[lp.start]at oF|-;show oF) (λk hk=>lp.reads k `L) (H.at rfl)) λcI e3 Lc Le=>?_;show sq (mE e3) ?_;change a7 _ _ _;have lq:∀j,j∉x.all->j∉[x.Ld,x.pl]:=λj hj q=>hj (by unfold eQ.all;simp only[List.mem_cons,List.not_mem_nil,or_false]at q|-;rcases q with rfl|rfl<;>simp);have t1:=Le.at YJ (lq _ n1);have t2:=Le.at YK (lq _ n2);have H:=H.cons `got (.lst ((List.range 6).map λk=>bE (eG ns ae k))) (by rfl);generalize((`got,V.lst ((List.range 6).map λk=>bE (eG ns ae k)))::cV)=n8 at*;have e4:=XT (K:=K) (F:=aY K (n+7)) (a:=a) (λl O h1 h2=>U0 h.kb h.pp h.XB l h1 h2) h.Xv lp.D8 t1 t2 (H.at rfl) (H.at rfl) (H.at rfl);show sq (o:=((n8,.next),cI)) (gw e4) ?_;change a7 _ _ _;have e5:=X1 (K:=K) (F:=aY K (n+7)) (J:=n8) h.kb oz XY t2 (H.at rfl);show sq (mE e5) ?_;change a7 _ _ _;have H:=H.cons `sets (.lst ((List.range 7).map λk=>iV (setAt ns ae k))) (by rfl);generalize((`sets,V.lst ((List.range 7).map λk=>iV (setAt ns ae k)))::n8)=wU at*;have e6:=X2 (K:=K) (O:=cI) (J:=wU) (H.at rfl);show sq (eE e6) ?_;change a7 _ _ _;have H:=H.cons `rules (dP (gL ns ae)) (by rfl);generalize((`rules,dP (gL ns ae))::wU)=YL at*;have e7:aL K (aY K (n+7)) (gl K `Headers) [] [] [] cI=some (.ref (cI.length+1),cI++iG a cI.length):=by
  rw[bZ h.hi.glob];show Wt h.kb h.hi h.hk
 show sq (eE e7) ?_;change a7 _ _ _;have H:=H.cons `table (.ref (cI.length+1)) (by rfl);generalize((`table,V.ref (cI.length+1))::YL)=YM at*;have ot:=Wv (a:=a) (k:=cI.length) cI rfl;have Lf:=Lc.bound;have YN:O.length+1<cI.length:=(cQ t1).1;have YO:de (cI++iG a cI.length) a x (jC ns ae) (gK 6) [] (1+(jC ns ae).count 10):=Lc.same λj hj=>il (Lf j hj);have YQ:(cI++iG a cI.length)[O.length+1]? =some (.list ((List.range 7).map (gX ns ae))):=(il YN).trans t1;have d1:cI.length+2∉x.all:=λq=>by have:=Lf _ q;lia
 generalize hs4:cI++iG a cI.length=oX at*;show bK (XM (n:=n) (Kf:=Kf) (lw:=eR ae) (P:=P) h hu lp.len (by unfold eR;lia) (by unfold gL;simp) lp.K7 lp.next lp.first lp.run YO ot YQ d1 n1 `L) λp8 e8 wV YR=>?_;have YS:=YH (F:=aY K (n+7)) h.Xw (bG (O:=oX) (H.at (y:=`lexer) (v:= .ref x.L) rfl)) (bG (H.at (y:=`table) (v:= .ref (cI.length+1)) rfl)) (bG (H.at (y:=`rules) (v:=dP (gL ns ae)) rfl)) (bG (H.at (y:=`order) (v:=bh (fU ae)) rfl)) (bG (H.at (y:=`low) (v:=iV (eR ae)) rfl)) e8;show sq (eE YS) ?_;change a7 _ _ _;have H:=H.cons `came (.ref oX.length) (by rfl);generalize((`came,V.ref oX.length)::YM)=Lg at*;have Lh:∀p∈Kf,eL p.1:=λp hp=>lp.K7 _ (YR p hp);have FR:=lp.nG;have e9:=X4 (K:=K) (F:=aY K (n+7)) (J:=Lg) (lw:=eR ae) h.kb h.hk (λt td th L O h1 h2=>UD h.kb h.hk h1 h2) (λc O=>wm c) (λl O=>rfl) wV.tab `L (H.at rfl);show sq (eE e9) ?_;change a7 _ _ _;have H:=H.cons `line (.ref p8.length) (by rfl);generalize((`line,V.ref p8.length)::Lg)=Li at*;show aU (X6 (K:=K) (F:=aY K (n+7)) (O:=p8) (J:=Li) (lw:=eR ae) h.kb h.hk (λt td th L O h1 h2=>C0 h.kb h.hk h1 h2) (λj k val l aV O h1 h2 h3 h4=>IX h.kb h.KN h1 h2 h3 h4) h.ks.lR (by unfold eR;lia) Lh (wV.grow _).tab `L (H.at rfl) (H.at rfl)) λk xV=>?_;show sq (mE xV) ?_;change a7 _ _ _;have YT:=wV.grow [.cA (cL (fV (eR ae) Kf)) k];have H:=H.cons `keys (.lst (Kf.map λp=>iV (aZ (eR ae) p.1))) (by rfl);generalize((`keys,V.lst (Kf.map λp=>iV (aZ (eR ae) p.1)))::Li)=Lj at*;show aU (X8 (K:=K) (F:=aY K (n+7)) (O:=p8++[.cA (cL (fV (eR ae) Kf)) k]) (J:=Lj) (lw:=eR ae) (a:=a) (λm O h0 h1=>I9 h.kb h.fl h.KL m h0 h1) h.ks.pretty (by unfold eR;lia) Lh `L (H.at rfl)) λl YU=>?_;show sq (mE YU) ?_;change a7 _ _ _;have zq:=YT.grow l;have H:=H.cons `told (.lst (Kf.map λp=>V.str (eF (aZ (eR ae) p.1)))) (by rfl);generalize((`told,V.lst (Kf.map λp=>V.str (eF (aZ (eR ae) p.1))))::Lj)=wX at*;generalize p8++[bx.cA (cL (fV (eR ae) Kf)) k]++l=wY at*;have YV:=Yi (K:=K) (F:=aY K (n+7)) (O:=wY) (J:=wX) (a:=a) h.kb Yb (λah O hl=>Ua h.kb h.XH ah hl) (λm O=>Uk h.kb h.XI m) h.Xx h.Xy (lw:=eR ae) (by unfold eR;lia) (by unfold gL;simp) lp.Yr lp.Ys lp.nG lp.sorted (H.at rfl) (H.at rfl) (H.at rfl) (H.at rfl);show sq (o:=((wX,.next),wY)) (by rw[gw YV];rfl) ?_;change a7 _ _ _;have YW:=Yk (K:=K) (F:=aY K (n+7)) (O:=wY) (J:=wX) (lw:=eR ae) h.hk (λt td th L O h1 h2=>C0 h.kb h.hk h1 h2) wi zq.tab `L zq.ki (H.at rfl) (H.at rfl) (H.at rfl);show sq (o:=((wX,.next),wY)) (gw YW) ?_;change a7 _ _ _;have YX:dI (gK 7)=([],[]):=aJ _ lp.done;show aU (Yn (K:=K) (F:=aY K (n+7)) (O:=wY) (J:=wX) (a:=a) h.hn hT Yc zq.lex (lp.reads 6 `D) YX zq.keep (by rfl) `S (lq _ n1) (H.at rfl) (H.at rfl) (H.at rfl)) λabV YZ=>?_;show sq (je YZ) rfl
def Y0(h:AF K a)(h0:O[0]? =some .tab)(sc:List Int)(gE:sc.length<=63)(hp:∀cs:List Int,cs.length=4->∃Kf P gK,D7 (gf cs) (dQ cs) Kf P gK):∃aa,aY K (n+8) (.con (.ref a.v7)) [.lst (bt sc)] [] O=some (.bool true,aa):=by
 have main:a7 (aY K (n+8) (.con (.ref a.v7)) [.lst (bt sc)] []) O λv _=>v= .bool true:=by
  rw[gU h.KO];show gb h.KO S8 rfl (bT:=[("script",.lst (bt sc))]) rfl rfl ?_;show br (YI (n:=n) h h0 sc gE hp) λq aa e q1=>?_;show⟨q,aa,e,.bool true,by rw[q1];rfl,rfl⟩
 show br main λv aa e eW=>?_;subst eW;show⟨aa,e⟩
def wZ:∀c,c<69->jg (eg c).1=(eg c).2/\lg (eg c).1=true/\dZ.contains (eg c).1=false/\dE (eg c).1=false/\(eg c).1≠34/\(eg c).1≠92/\((eg c).2.any λd=>eP.contains d)=true:=by decide+kernel
def Lk:∀s∈kF,jg s=[s]/\lg s=true/\dZ.contains s=false:=by decide+kernel
def Y1:∀u∈dZ,dE u=false/\u≠34/\u≠92:=by decide+kernel
def D9:∀u∈yP,dE u=true:=by decide
def getD_mem{l:List Nat}{i d:Nat}(h:i<l.length):l.getD i d∈l:=by
 simp only[List.getD_eq_getElem?_getD,eH h];show List.getElem_mem h
def Ll(ae k:Nat):iR ae k∈kF:=getD_mem (by change _%7<7;lia)
def Ea(ae k:Nat):qr ae k∈yP:=getD_mem (by change _%4<4;lia)
def Y2{ns:List Nat}(h:ns.length=3){k:Nat}(hk:k<7):∃x r,rT ns k=x%69::r:=by
 show jG (BW h) λa b c hr=>?_;subst hr;show Hs (P:=λk=>∃x r,rT [a,b,c] k=x%69::r) (gk a _ rfl) (gk (a/69) _ rfl) (gk b _ rfl) (gk (b/69) _ rfl) (gk c _ rfl) (gk (c/69) _ rfl) (gk a _ rfl) k hk
def Lm{ns:List Nat}(h:ns.length=3){k:Nat}(hk:k<7):∃c r,gz ns k=c::r/\c<69:=by
 show fg (Y2 h hk) λx r e=>?_;show c8 (x%69) (r.filter (·<69)) (by unfold gz;rw[e,List.filter_cons,az (by simpa using(Nat.mod_lt _ `D:x%69<69))]) (Nat.mod_lt _ `D:x%69<69)
def Y3{ns:List Nat}{ae k c:Nat}(h:c∈gH ns ae k):(∃d,d<69/\c=(eg d).1)\/c∈kF:=by
 show aj (List.mem_flatMap.mp h) λd hd hc=>?_;simp only[List.mem_cons,List.not_mem_nil,or_false]at hc;rcases hc with rfl|rfl
 ·show .inl (aA d (by simpa using(List.mem_filter.mp hd).2:d<69) rfl)
 ·show .inr (Ll _ _)
def zr{ae k c:Nat}(h:c∈fH ae k):c∈dZ:=List.mem_of_mem_drop (List.mem_of_mem_take h)
def Y4{ns:List Nat}{ae k c:Nat}(h:c∈eG ns ae k):c∈dZ\/c∈gH ns ae k:=by
 unfold eG at h;split at h<;>show Or.elim (gN h) (λh=>?_) λh=>?_
 ·show .inl (zr h)
 ·show .inr h
 ·show .inr h
 ·show .inl (zr h)
def Ln{ns:List Nat}{ae k c:Nat}(h:c∈gH ns ae k):lg c=true/\dZ.contains c=false:=by
 rcases Y3 h with⟨d,hd,rfl⟩|h
 ·show⟨(wZ d hd).2.1,(wZ d hd).2.2.1⟩
 ·show(Lk c h).2
def Lo(ns:List Nat)(ae k:Nat):iQ (eG ns ae k)=gH ns ae k:=by
 have h1:iQ (fH ae k)=[]:=by
  show List.filter_eq_nil_iff.mpr λc hc=>?_;rw[List.contains_iff_mem.mpr (zr hc)];decide
 have h2:iQ (gH ns ae k)=gH ns ae k:=List.filter_eq_self.mpr λc hc=>by show aJ _ ((Ln hc).2)
 unfold eG iQ at*;split
 ·simp only[List.filter_append,h1,h2,List.nil_append]
 ·simp only[List.filter_append,h1,h2,List.append_nil]
def Y5(ns:List Nat)(ae k:Nat):oA (eG ns ae k)=lU ns ae k:=by
 unfold oA;rw[Lo];delta gH lU;have hm:∀c∈gz ns k,c<69:=λc hc=>by simpa using(List.mem_filter.mp hc).2
 generalize gz ns k=l at*;induction l with
 |nil=>rfl
 |cons c l ih=>
  simp only[List.flatMap_cons,List.flatMap_append,ih λd hd=>hm d (.tail _ hd),List.flatMap_cons];congr 1;simp only[(wZ c (hm c (.head _))).1,(Lk _ (Ll ae k)).1];rfl
def D8{ns:List Nat}(h:ns.length=3)(ae:Nat):DT ns ae:=by
 show⟨λk _ c hc=>?_,λk hk=>?_,λk _=>Lo ns ae k,λk _=>Y5 ns ae k⟩
 ·unfold mJ
  rcases Y4 hc with h|h
  ·rw[List.contains_iff_mem.mpr h];simp
  ·rw[(Ln h).1];rfl
 ·have:=C4 (ae:=ae) h hk
  show a9 `A `D
def Lq{ns:List Nat}(h:ns.length=3)(ae:Nat){k:Nat}(hk:k<7):∃c r,eG ns ae k=c::r/\dE c=false/\c≠34/\c≠92:=by
 show br (Lm h hk) λd r e hd=>?_;have hs:∃r',gH ns ae k=(eg d).1::r':=by
  unfold gH;simp only[e,List.flatMap_cons];show⟨_,rfl⟩
 show aU hs λr' hs=>?_;have hf:=wZ d hd;have Lr:∀t,∃c r,gH ns ae k++t=c::r/\dE c=false/\c≠34/\c≠92:=λt=>fC _ (r'++t) (by rw[hs];rfl) hf.2.2.2.1 hf.2.2.2.2.1 hf.2.2.2.2.2.1;unfold eG;split
 ·cases hb:fH ae k with
  |nil=>
   have:=Lr [];rw[List.append_nil]at this;show this
  |cons u t=>
   have hu:=Y1 u (zr (k:=k) (by rw[hb];show .head _));show c8 u (t++gH ns ae k) rfl hu
 ·show Lr _
def w0{stop:Nat->Bool}{aR:Nat}(hk:∀c,stop c=true\/c=92->aR<2\/(gy aR).contains c=true)(ll:stop 92=false){tail aV:List Nat}(ht:cP stop tail=([],aV)):∀l:List Nat,cP stop (ej aR l++tail)=(l,aV)
 |[]=>ht
 |c::l=>by
  have ih:=w0 hk ll ht l;unfold ej at ih|-;rw[List.flatMap_cons];by_cases hc:aR<2\/(gy aR).contains c=true
  ·rw[az hc]
   change cP stop (92::c::(List.flatMap (λc=>if aR<2\/(gy aR).contains c=true then [92,c]else [c]) l++tail))=_;show(oE.trans ((aN (by rw[ll];decide)).trans (az rfl))).trans ?_;change((c::(cP stop _).1,(cP stop _).2):List Nat×List Nat)=_;rw[ih]
  ·rw[aN hc]
   change cP stop (c::(List.flatMap (λc=>if aR<2\/(gy aR).contains c=true then [92,c]else [c]) l++tail))=_;show(oE.trans ((aN (λe=>hc (hk c (.inl e)):¬(stop c=true))).trans (aN (λe=>hc (hk c (.inr e)):¬c=92)))).trans ?_;rw[ih]
def Y6{aR c:Nat}(h:aR<2)(l:List Nat):ej aR (c::l)=92::c::ej aR l:=by
 unfold ej;rw[List.flatMap_cons,az (.inl h)];rfl
def Eb{w:Nat}(hw:dE w=true)(r:List Nat):dI (w::r)=dI r:=by
 unfold dI;rw[List.dropWhile_cons,az hw]
def Ls(r:List Nat):dI (34::r)=cP jh r:=by
 show rfl
def Y7(d:Nat)(r:List Nat):dI (92::d::r)=(d::(cP dE r).1,(cP dE r).2):=by
 unfold dI;show aN `D
def Y8{c:Nat}(h1:dE c=false)(h2:c≠34)(h3:c≠92)(r:List Nat):dI (c::r)=(c::(cP dE r).1,(cP dE r).2):=by
 unfold dI;rw[List.dropWhile_cons,aN (by rw[h1];decide)];change(if c=34 then _ else if c=92 then _ else _)=_;rw[aN h2,aN h3]
def Y9:∀c,dE c=true\/c=92->(gy 3).contains c=true:=λc h=>by
 rcases h with h|rfl
 ·unfold dE at h
  rw[List.contains_iff_mem]at h|-;simp only[List.mem_cons,List.not_mem_nil,or_false,gy]at h|-;lia
 ·rfl
def Za:∀c,jh c=true\/c=92->(gy 2).contains c=true:=λc h=>by
 rcases h with h|rfl
 ·have:c=34:=by simpa [jh]using h
  clear h;subst this;rfl
 ·rfl
abbrev t5(aR w:Nat):List Nat:=match aR with|0=>[w]|1=>[34]|2=>[w,34]|_=>[w]
abbrev sf(aR w:Nat):Nat:=match aR with|0=>w|1=>34|2=>34|_=>w
def Zb(l:List Nat)(aR w:Nat)(h:aR<4):oB l aR w=t5 aR w++ej aR l++[sf aR w]:=by
 show yh (P:=λaR=>oB l aR w=t5 aR w++ej aR l++[sf aR w]) rfl rfl rfl rfl aR h
def Lu{aR w c:Nat}{l:List Nat}(Ec:aR<4)(hw:dE w=true)(h1:dE c=false)(h2:c≠34)(h3:c≠92){tail aV:List Nat}(ht:(aR=0\/aR=3->cP dE tail=([],aV))/\(aR=1\/aR=2->cP jh tail=([],aV))):dI (t5 aR w++ej aR (c::l)++tail)=(c::l,aV):=by
 show yh (P:=λaR=>((aR=0\/aR=3->cP dE tail=([],aV))/\(aR=1\/aR=2->cP jh tail=([],aV)))->dI (t5 aR w++ej aR (c::l)++tail)=(c::l,aV)) ?_ ?_ ?_ ?_ aR Ec ht
 all_goals clear ht
 ·intro ht
  change dI (w::(ej 0 (c::l)++tail))=_;rw[Eb hw,Y6 `D];change dI (92::c::(ej 0 l++tail))=_;rw[Y7,w0 (stop:=dE) (aR:=0) (λ_ _=> .inl `D) `D (ht.1 (.inl rfl))]
 ·intro ht
  change dI (34::(ej 1 (c::l)++tail))=_;rw[Ls,w0 (stop:=jh) (aR:=1) (λ_ _=> .inl `D) `D (ht.2 (.inl rfl))]
 ·intro ht
  change dI (w::34::(ej 2 (c::l)++tail))=_;rw[Eb hw,Ls,w0 (stop:=jh) (aR:=2) (λc h=> .inr (Za c h)) `D (ht.2 (.inr rfl))]
 ·intro ht
  have hs:ej 3 (c::l)=c::ej 3 l:=by
   unfold ej;rw[List.flatMap_cons,aN]
   ·rfl
   ·rintro(h|h)
    ·lia
    ·rw[List.contains_iff_mem]at h
     have hb:¬(dE c=true):=by rw[h1];decide
     unfold dE at hb;rw[List.contains_iff_mem]at hb;simp only[List.mem_cons,List.not_mem_nil,or_false,gy]at h hb;lia
  change dI (w::(ej 3 (c::l)++tail))=_;rw[Eb hw,hs];change dI (c::(ej 3 l++tail))=_;rw[Y8 h1 h2 h3,w0 (stop:=dE) (aR:=3) (λc h=> .inr (Y9 c h)) `D (ht.1 (.inr rfl))]
def zt(ae k:Nat):nD ae k<4:=Nat.mod_lt _ `D
def Zc{aR w:Nat}(Ec:aR<4)(hw:dE w=true)(R:List Nat):(aR=0\/aR=3->cP dE (sf aR w::R)=([],R))/\(aR=1\/aR=2->cP jh (sf aR w::R)=([],R)):=by
 show yh (P:=λaR=>(aR=0\/aR=3->cP dE (sf aR w::R)=([],R))/\(aR=1\/aR=2->cP jh (sf aR w::R)=([],R))) ?_ ?_ ?_ ?_ aR Ec
 ·show⟨λ_=>oE.trans (az hw),λh=>by lia⟩
 ·show⟨λh=>by lia,λ_=>oE.trans rfl⟩
 ·show⟨λh=>by lia,λ_=>oE.trans rfl⟩
 ·show⟨λ_=>oE.trans (az hw),λh=>by lia⟩
end
section
variable{ns:List Nat}(hn:ns.length=3)(ae:Nat){k:Nat}
include hn
def Ed:gV ns ae k=t5 (nD ae k) (qr ae k)++ej (nD ae k) (eG ns ae k)++[sf (nD ae k) (qr ae k)]:=Zb _ _ _ (zt ae k)
def Zd(hk:k<7)(R:List Nat):dI (gV ns ae k++R)=(eG ns ae k,R):=by
 show dg (Lq hn ae hk) λc l e h1 h2 h3=>?_;rw[Ed hn,e,List.append_assoc];show Lu (zt ae k) (D9 _ (Ea ae k)) h1 h2 h3 (Zc (zt ae k) (D9 _ (Ea ae k)) R)
def Ze(hk:k<7):dI (gV ns ae k).dropLast=(eG ns ae k,[]):=by
 show dg (Lq hn ae hk) λc l e h1 h2 h3=>?_;rw[Ed hn,e,List.dropLast_concat,<-List.append_nil (t5 _ _++ej _ _)];show Lu (zt ae k) (D9 _ (Ea ae k)) h1 h2 h3 ⟨λ_=>rfl,λ_=>rfl⟩
def Zf:gV ns ae k≠[]:=by rw[Ed hn];simp
abbrev sg(ns:List Nat)(ae k:Nat):List Nat:=if k<7 then((List.range' k (6-k)).flatMap (gV ns ae))++(gV ns ae 6).dropLast else []
def Zg:sg ns ae 0=jC ns ae:=by
 change((List.range' 0 6).flatMap (gV ns ae))++(gV ns ae 6).dropLast=((List.range 7).flatMap (gV ns ae)).dropLast;have e:(List.range 7).flatMap (gV ns ae)=((List.range' 0 6).flatMap (gV ns ae))++gV ns ae 6:=by
  change([0,1,2,3,4,5,6].flatMap (gV ns ae))=([0,1,2,3,4,5].flatMap (gV ns ae))++gV ns ae 6;simp only[List.flatMap_cons,List.flatMap_nil,List.append_nil,List.append_assoc]
 simp only[e,List.dropLast_append_of_ne_nil (Zf hn ae)]
def Zh(hk:k<7):dI (sg ns ae k)=(eG ns ae k,sg ns ae (k+1)):=by
 by_cases h6:k=6
 ·subst h6
  show Ze hn ae hk
 ·have e:sg ns ae k=gV ns ae k++sg ns ae (k+1):=by
   unfold sg;rw[az hk,az (Nat.succ_lt_succ (Nat.lt_of_le_of_ne (Nat.le_of_lt_succ hk) h6)),show 6-k=(6-(k+1))+1 from(Nat.succ_pred_eq_of_pos (Nat.sub_pos_of_lt (Nat.lt_of_le_of_ne (Nat.le_of_lt_succ hk) h6))).symm,List.range'_succ,List.flatMap_cons,List.append_assoc]
  rw[e];show Zd hn ae hk _
def text_len:(jC ns ae).length<=1000:=by
 have:=yR (ae:=ae) hn 7 `S;rw[List.length_dropLast];omega
def Ee(hk:k<7):setAt ns ae k≠0:=by
 show br (Lm hn hk) λc r e hc=>?_;show aj (List.any_eq_true.mp ((wZ c hc).2.2.2.2.2.2)) λd hd hl=>?_;have hm:d∈lU ns ae k:=by
  unfold lU;simp only[e,List.flatMap_cons];show List.mem_append_left _ (List.mem_append_left _ hd)
 obtain⟨i,hi,he⟩:=List.getElem_of_mem (List.contains_iff_mem.mp hl);intro h0;unfold setAt setOf at h0;have yQ:2^i∈(((List.range 5).filter λk'=>(lU ns ae k).contains (eP.getD k' 0)).map λk=>2^k):=by
  show List.mem_map.mpr (aA i (List.mem_filter.mpr ⟨List.mem_range.mpr (hi:i<5),?_⟩) rfl);simp only[List.getD_eq_getElem?_getD,eH hi,he];show List.contains_iff_mem.mpr hm
 have hle:∀l:List Nat,∀x∈l,x<=l.sum:=λl x hx=>by
  induction l with
  |nil=>cases hx
  |cons y l ih=>
   simp only[List.sum_cons];rcases cj hx with rfl|hx
   ·simp
   ·have:=ih hx;clear hx;lia
 have:=hle _ _ yQ;simp only[h0]at this;have h2:0<2^i:=Nat.pow_pos `D;lia
end
noncomputable abbrev Sub(x y:Nat):Prop:=x&&&y=x
def jm{x y:Nat}:Sub x y↔∀i,x.testBit i=true->y.testBit i=true:=by
 constructor
 ·intro h i hi
  have:=aJ (λz=>z.testBit i) h;rw[Nat.testBit_and,hi,Bool.true_and]at this;show this
 ·intro h
  show Nat.eq_of_testBit_eq λi=>?_;rw[Nat.testBit_and];cases hx:x.testBit i
  ·rfl
  ·show h i hx
def Sub.refl(x:Nat):Sub x x:=Nat.and_self x
def Sub.trans{x y z:Nat}(h:Sub x y)(k:Sub y z):Sub x z:=jm.mpr λi hi=>jm.mp k i (jm.mp h i hi)
def Sub.antisymm{x y:Nat}(h:Sub x y)(k:Sub y x):x=y:=by
 have k:y&&&x=y:=k;rw[Nat.and_comm]at k;show h.symm.trans k
def Sub.le{x y:Nat}(h:Sub x y):x<=y:=by
 show(h)▸(Nat.and_le_right)
def t6(x y:Nat):Sub x (x|||y):=jm.mpr λi hi=>by rw[Nat.testBit_or,hi];rfl
def sub_right(x y:Nat):Sub y (x|||y):=jm.mpr λi hi=>by simp only[Nat.testBit_or,hi];simp
def t7{x y z:Nat}(h:Sub x z)(k:Sub y z):Sub (x|||y) z:=jm.mpr λi hi=>by
 rw[Nat.testBit_or,Bool.or_eq_true]at hi;show Or.elim (hi) (λhi=>?_) λhi=>?_
 ·show jm.mp h i hi
 ·show jm.mp k i hi
def Lv{x y:Nat}(h:Sub y x):x|||y=x:=(Sub.antisymm (t7 (Sub.refl x) h) (t6 x y))
def mL{x:Nat}:Sub x 31↔x<=31:=by
 unfold Sub;rw[show(31:Nat)=2^5-1 from rfl,Nat.and_two_pow_sub_one_eq_mod];show⟨λh=>Nat.le_of_lt_succ (h▸Nat.mod_lt _ `D),λh=>Nat.mod_eq_of_lt (Nat.lt_succ_of_le h)⟩
def zu{x:Nat}(h:Sub 31 x)(hx:x<=31):x=31:=Sub.antisymm (mL.mpr hx) h
section
variable{ah:List cM}{m d:Nat}
abbrev si(ah:List cM)(d:Nat):Prop:=∀r∈ah,Sub r.1 d->Sub r.2 d
def Lw(m:Nat)(r:cM):Sub m (iC m r):=by
 unfold iC;split
 ·show t6 _ _
 ·show Sub.refl _
def Zi{r:cM}(h:Sub r.1 d->Sub r.2 d)(k:Sub m d):Sub (iC m r) d:=by
 unfold iC;split
 ·rename_i e
  rw[Nat.and_comm]at e;show t7 k (h (Sub.trans e k))
 ·show k
def sj:∀(l:List cM) (m:Nat),Sub m (fR l m)
 |[],m=>Sub.refl m
 |r::l,m=>(Lw m r).trans (sj l (iC m r))
def zv:∀{l:List cM} {m:Nat},si l d->Sub m d->Sub (fR l m) d
 |[],m,_,k=>k
 |r::l,m,h,k=>zv (l:=l) (m:=iC m r) (λs hs=>h s (.tail _ hs)) (Zi (h r (.head _)) k)
def Lx:∀(l:List cM) (m:Nat),fR l m=m\/∃r∈l,¬Sub r.2 m/\Sub r.2 (fR l m)
 |[],m=> .inl rfl
 |r::l,m=>by
  change fR l (iC m r)=m\/_;by_cases e:iC m r=m
  ·rw[e]
   symm
   rcases Lx l m with h|⟨s,hs,h1,h2⟩
   ·left
    show .inl h
   ·left
    show .inr (bj s (.tail _ hs) h1 (by change Sub s.2 (fR l (iC m r));rw[e];show h2))
  ·show .inr (bj r (.head _) (λq=>?_) ?_)
   ·unfold iC at e
    split at e
    ·show e (Lv q)
    ·show e rfl
   ·change Sub r.2 (fR l (iC m r))
    show Sub.trans ?_ (sj l _);unfold iC at e|-;split
    ·show sub_right _ _
    ·rename_i q;rw[aN q]at e;show absurd rfl e
def zw:∀{l:List cM} {m:Nat},fR l m=m->si l m
 |[],m,_=>λr hr=>(List.not_mem_nil hr).elim
 |r::l,m,h=>by
  have h:fR l (iC m r)=m:=h;have e:=Sub.antisymm (by have:=sj l (iC m r);simp only[h]at this;show this) (Lw m r);rw[e]at h;intro s hs q;rcases Or.imp_left Eq.symm (cj hs)with rfl|hs
  ·unfold iC at e
   rw[az (by rw[Nat.and_comm];show q)]at e;show(e)▸(sub_right _ _)
  ·show zw h s hs q
abbrev sat(l:List cM)(m:Nat):Nat:=l.countP λr=>decide (Sub r.2 m)
def zx(r:cM)(l:List cM)(m:Nat):sat (r::l) m=sat l m+if Sub r.2 m then 1 else 0:=by
 unfold sat
 simp only[List.countP_cons];congr 1;by_cases k:Sub r.2 m
 ·rw[az k,az (decide_eq_true k)]
 ·rw[aN k,aN (λq=>k (of_decide_eq_true q))]
def Ly:∀(l:List cM) {m m':Nat},Sub m m'->sat l m<=sat l m'
 |[],_,_,_=>Nat.le_refl _
 |r::l,m,m',h=>by
  have ih:=Ly l h;simp only[zx,zx];by_cases k:Sub r.2 m
  ·rw[az k,az (Sub.trans k h)]
   lia
  ·rw[aN k]
   lia
def Lz:∀(l:List cM) {m m':Nat},Sub m m'->(∃r∈l,¬Sub r.2 m/\Sub r.2 m')->sat l m<sat l m'
 |[],_,_,_,h=>by show aj h λr hr _=>?_;cases hr
 |r::l,m,m',h,⟨s,hs,h1,h2⟩=>by
  have ih:=Ly l h;simp only[zx,zx];by_cases LA:s=r
  ·subst LA
   rw[aN h1,az h2];lia
  ·clear ih
   have jO:s∈l:=by
    rcases cj hs with q|q
    ·show absurd q LA
    ·show q
   have ih2:=Lz l h (bj s jO h1 h2);by_cases k:Sub r.2 m
   ·rw[az k,az (Sub.trans k h)]
    lia
   ·rw[aN k]
    lia
def Ef(l:List cM)(m:Nat):fR l m=m\/sat l m<sat l (fR l m):=by
 show Or.elim (Lx l m) (λh=>?_) λh=>?_
 ·show .inl h
 ·show .inr (Lz l (sj l m) h)
def zy(h3:ah.length<=3)(m:Nat):si ah (iO ah m):=by
 unfold iO;rcases Ef ah m with h|h
 ·simp only[h,h,h];show zw h
 ·rcases Ef ah (fR ah m)with k|k
  ·simp only[k,k];show zw k
  ·rcases Ef ah (fR ah (fR ah m))with j|j
   ·simp only[j];show zw j
   ·have hc:sat ah (fR ah (fR ah (fR ah m)))=ah.length:=by
     have:sat ah (fR ah (fR ah (fR ah m)))<=ah.length:=List.countP_le_length;lia
    have:=List.countP_eq_length.mp hc;intro r hr _;have:=this r hr;simpa using this
def xa(m:Nat):Sub m (iO ah m):=((sj ah m).trans (sj ah _)).trans (sj ah _)
def t8(h:si ah d)(k:Sub m d):Sub (iO ah m) d:=zv h (zv h (zv h k))
def Zj(h3:ah.length<=3){m m':Nat}(h:Sub m m'):Sub (iO ah m) (iO ah m'):=t8 (zy h3 m') (h.trans (xa m'))
structure jn(ah:List cM):Prop where
 nG:ah.length<=3
 lo:∀r∈ah,r.1<=31
 hi:∀r∈ah,r.2<=31
def zz(h:jn ah){m:Nat}(hm:m<=31):iO ah m<=31:=mL.mp (t8 (λr hr _=>mL.mpr (h.hi r hr)) (mL.mpr hm))
abbrev SK(ah:List cM)(k:Nat):Prop:=iO ah k=31
def SK.mono(h:jn ah){k k':Nat}(hs:Sub k k')(hk:k'<=31)(e:SK ah k):SK ah k':=by
 have:=Zj h.nG hs;rw[e]at this;show zu this (zz h hk)
abbrev kn(ah:List cM)(c:Nat):Prop:=c<=31/\SK ah c/\∀d,d<=31->SK ah d->Sub d c->d=c
def LB:∀h,h<32->∀c,c<32->dD h c<32/\∀i,i<5->(dD h c).testBit i=(h.testBit i&& !c.testBit i):=by decide+kernel
def Eg{x i:Nat}(h:x<32)(hi:5<=i):x.testBit i=false:=Nat.testBit_lt_two_pow (Nat.lt_of_lt_of_le h (show 2^5<=2^i from Nat.pow_le_pow_right `D hi))
def pG{h c:Nat}(hh:h<=31)(hc:c<=31)(i:Nat):(dD h c).testBit i=(h.testBit i&& !c.testBit i):=by
 show aI (LB h `L c `L) λh1 h2=>?_;rcases Nat.lt_or_ge i 5 with hi|hi
 ·show h2 i hi
 ·simp only[Eg h1 hi,Eg (show h<32 by lia) hi];rfl
def zA{h c:Nat}(hh:h<=31)(hc:c<=31):dD h c<=31:=by have:=(LB h `L c `L).1;lia
def Zk{h c:Nat}(hh:h<=31)(hc:c<=31):Sub (dD h c) h:=jm.mpr λi hi=>by
 rw[pG hh hc,Bool.and_eq_true]at hi;show hi.1
def Zl{h h' c:Nat}(hh:h<=31)(Zm:h'<=31)(hc:c<=31)(k:Sub h' h):Sub (dD h' c) (dD h c):=jm.mpr λi hi=>by
 simp only[pG Zm hc,Bool.and_eq_true]at hi;simp only[pG hh hc,jm.mp k i hi.1,hi.2];rfl
def Zn{h r c:Nat}(hh:h<=31)(hr:r<=31)(hc:c<=31)(k:Sub r (dD h c)):dD r c=r:=Nat.eq_of_testBit_eq λi=>by
 rw[pG hr hc];cases hx:r.testBit i
 ·rfl
 ·have:=jm.mp k i hx
  rw[pG hh hc,Bool.and_eq_true]at this;show this.2
def Zo{k y:Nat}(hk:k<=31)(hy:y<=31):Sub k (y|||dD k y):=jm.mpr λi hi=>by
 simp only[Nat.testBit_or,pG hk hy,hi];cases y.testBit i<;>rfl
def Eh(h:jn ah){k c:Nat}(hk:k<=31)(hc:c<=31):jy ah k c<=31/\Sub (jy ah k c) k/\(SK ah k->SK ah (jy ah k c)):=by
 unfold jy;split
 ·rename_i e
  show⟨zA hk hc,Zk hk hc,λ_=>e⟩
 ·show⟨hk,Sub.refl _,id⟩
def least_le(h:jn ah):∀{aM:List Nat} {k:Nat},(∀c∈aM,c<=31)->k<=31->least k ah aM<=31/\Sub (least k ah aM) k/\(SK ah k->SK ah (least k ah aM))
 |[],k,_,hk=>cW hk (Sub.refl k) id
 |c::aM,k,ho,hk=>by
  show iS (Eh h hk (ho c (.head _))) λh1 h2 h3=>?_;show iS (least_le h (aM:=aM) (k:=jy ah k c) (λd hd=>ho d (.tail _ hd)) h1) λh4 h5 h6=>?_;show cW h4 (h5.trans h2) (λq=>h6 (h3 q))
def LC(h:jn ah):∀{aM:List Nat} {k:Nat},(∀c∈aM,c<=31)->k<=31->∀c∈aM,SK ah (dD (least k ah aM) c)->dD (least k ah aM) c=least k ah aM
 |[],k,_,hk,c,hc=>(List.not_mem_nil hc).elim
 |c'::aM,k,ho,hk,c,hc=>by
  intro hs;have g6:=ho c' (.head _);show iS (least_le h (aM:=aM) (k:=jy ah k c') (λd hd=>ho d (.tail _ hd)) (Eh h hk g6).1) λh4 h5 h6=>?_;clear h6;rcases cj hc with rfl|hc
  ·change dD (least (jy ah k c) ah aM) c=least (jy ah k c) ah aM
   have hs:SK ah (dD (least (jy ah k c) ah aM) c):=hs;by_cases e:iO ah (dD k c)=31
   ·have e2:jy ah k c=dD k c:=by show az e
    rw[e2]at h5 h4|-;show Zn hk h4 g6 h5
   ·have e2:jy ah k c=k:=by show(aN e).trans rfl
    rw[e2]at hs h5 h4;show absurd (hs.mono h (Zl hk h4 g6 h5) (zA hk g6)) e
  ·show LC h (λd hd=>ho d (.tail _ hd)) (Eh h hk g6).1 c hc hs
abbrev Full(aM:List Nat):Prop:=(∀c∈aM,c<=31)/\∀i,i<5->2^i∈aM
def zB(h:jn ah){aM:List Nat}(ho:Full aM){k:Nat}(hk:k<=31)(e:SK ah k):kn ah (least k ah aM)/\Sub (least k ah aM) k:=by
 show iS (least_le h (aM:=aM) ho.1 hk) λh1 h2 h3=>?_;show⟨(cW h1 (h3 e) (λd hd hs zC=>zC.antisymm (jm.mpr λi hi=>?_))),h2⟩;have LD:i<5:=by
  show Or.elim (Nat.lt_or_ge i 5) (λq=>?_) λq=>?_
  ·show q
  ·rw[Eg (show least k ah aM<32 by show gM `A `D) q]at hi;cases hi
 cases Zp:d.testBit i with
 |true=>rfl
 |false=>
  exfalso;have hp:=ho.1 _ (ho.2 i LD);have Zq:Sub d (dD (least k ah aM) (2^i)):=jm.mpr λj hj=>by
   simp only[pG h1 hp,jm.mp zC j hj,Nat.testBit_two_pow];by_cases q:i=j
   ·subst q;rw[Zp]at hj;cases hj
   ·simp[q]
  have:=LC h ho.1 hk _ (ho.2 i LD) (hs.mono h Zq (zA h1 hp));have h4:=pG h1 hp i;simp only[this,hi,Nat.testBit_two_pow]at h4;simp at h4
def zD(h:jn ah){k:Nat}(hk:k<=31)(e:SK ah k){r:cM}(hr:r∈ah):r.1|||dD k r.2<=31/\SK ah (r.1|||dD k r.2):=by
 have hle:=mL.mp (t7 (mL.mpr (h.lo r hr)) (mL.mpr (zA hk (h.hi r hr))));show⟨hle,?_⟩;have q3:=t8 (zy h.nG (r.1|||dD k r.2)) ((Zo hk (h.hi r hr)).trans (t7 ((zy h.nG (r.1|||dD k r.2)) r hr ((t6 _ _).trans (xa (ah:=ah) (r.1|||dD k r.2)))) ((sub_right _ _).trans (xa (ah:=ah) (r.1|||dD k r.2)))):Sub k (iO ah (r.1|||dD k r.2)));have e:iO ah k=31:=e;simp only[e]at q3;show zu q3 (zz h hle)
def Zr(h:jn ah){aM:List Nat}(ho:Full aM){S:List Nat}{mM:Nat}(h0:mM∈S)(hS:∀k∈S,kn ah k)(hn:∀k∈S,∀r∈ah,least (r.1|||dD k r.2) ah aM∈S):∀(n z:Nat),31-z<=n->z<=31->SK ah z->∃k∈S,Sub k z:=by
 intro n;induction n with
 |zero=>
  intro z qC hz _;have:z=31:=Nat.le_antisymm hz (Nat.le_of_sub_eq_zero (Nat.le_zero.mp qC));show(this)▸(aA mM h0 (mL.mpr (hS mM h0).1))
 |succ n ih=>
  intro z qC hz e;by_cases Ei:z=31
  ·show aA mM h0 (by simp only[Ei];show mL.mpr (hS mM h0).1)
  ·have Zs:¬si ah z:=λq=>by
    have:=t8 q (Sub.refl z);rw[e]at this;show Ei (zu this hz)
   obtain⟨r,hr,q1,q2⟩:∃r∈ah,Sub r.1 z/\¬Sub r.2 z:=by
    show Classical.byContradiction λq=>Zs λr hr h1=>Classical.byContradiction λh2=>q (bj r hr h1 h2)
   have hle:=mL.mp (t7 (mL.mpr hz) (mL.mpr (h.hi r hr)));have bR:z<z|||r.2:=by
    show Or.elim (Nat.lt_or_eq_of_le (t6 z r.2).le) (λq=>?_) λq=>?_
    ·show q
    ·show absurd ((q).symm▸sub_right _ _) q2
   show aj (ih (z|||r.2) (Nat.le_of_lt_succ (Nat.lt_of_lt_of_le (Nat.sub_lt_sub_left (Nat.lt_of_le_of_ne hz Ei) bR) qC)) hle (e.mono h (t6 _ _) hle)) λk hk sk=>?_;show iS (hS k hk) λEj LF _=>?_;show aA _ (hn k hk r hr) ((zB h ho (zD h Ej LF hr).1 (zD h Ej LF hr).2).2.trans (t7 q1 (jm.mpr λi hi=>?_)));rw[pG Ej (h.hi r hr),Bool.and_eq_true]at hi;have:=jm.mp sk i hi.1;rw[Nat.testBit_or]at this;cases Bs:z.testBit i with
   |true=>rfl
   |false=>
    rw[Bs,Bool.false_or]at this;rw[this]at hi;show absurd hi.2 `D
def Zt(h:jn ah){aM:List Nat}(ho:Full aM){S:List Nat}{mM:Nat}(h0:mM∈S)(hS:∀k∈S,kn ah k)(hn:∀k∈S,∀r∈ah,least (r.1|||dD k r.2) ah aM∈S){z:Nat}(hz:kn ah z):z∈S:=by
 show aj (Zr h ho h0 hS hn 31 z (by omega) hz.1 hz.2.1) λk hk hs=>?_;have:=hz.2.2 k (hS k hk).1 (hS k hk).2.1 hs;simp only[<-this];show hk
def LG{d:Nat}:d∈jz ah↔d<31/\si ah d:=by
 unfold jz;rw[List.mem_filter,List.mem_range,List.isEmpty_iff,List.filter_eq_nil_iff];show and_congr_right λ_=>⟨λh r hr q=>?_,λh r hr q=>?_⟩
 ·have:=h r hr
  unfold brk at this;rw[beq_iff_eq.mpr (by rw[Nat.and_comm];show q),Bool.true_and]at this;have:d&&&r.2=r.2:=by simpa using this
  change r.2&&&d=r.2;rw[Nat.and_comm];show this
 ·unfold brk at q
  rw[Bool.and_eq_true,beq_iff_eq,bne_iff_ne]at q;show q.2 (by rw[Nat.and_comm];show h r hr (by change r.1&&&d=r.1;rw[Nat.and_comm];show q.1))
def LH{c d:Nat}:c|||d=d↔Sub c d:=by
 constructor
 ·intro h;show(h)▸(t6 _ _)
 ·intro h;rw[Nat.or_comm];show Lv h
def Ek(h:jn ah){c:Nat}:c∈nv (jz ah)↔c<=31/\SK ah c:=by
 unfold nv;rw[List.mem_filter,List.mem_range,List.isEmpty_iff,List.filter_eq_nil_iff];constructor
 ·rintro⟨hc,hd⟩
  have hc:c<=31:=by lia
  show⟨hc,Classical.byContradiction λq=>?_⟩;have lH:=zz h hc;have:iO ah c≠31:=q;show hd (iO ah c) (LG.mpr ⟨by lia,zy h.nG c⟩) ?_;rw[beq_iff_eq];show LH.mpr (xa c)
 ·rintro⟨hc,e⟩
  show⟨by lia,λd hd q=>?_⟩;rw[beq_iff_eq,LH]at q;show aI (LG.mp hd) λh1 h2=>?_;have:=t8 h2 q;rw[e]at this;have:=this.le;lia
def LI(h:jn ah){c:Nat}:c∈eZ ah↔kn ah c:=by
 delta eZ I0;rw[List.mem_filter,List.isEmpty_iff,List.filter_eq_nil_iff,Ek h];constructor
 ·rintro⟨⟨h1,h2⟩,h3⟩
  show cW h1 h2 (λd hd hs zC=>Classical.byContradiction λq=>?_);show h3 d ((Ek h).mpr ⟨hd,hs⟩) ?_;rw[Bool.and_eq_true,bne_iff_ne,beq_iff_eq];show⟨q,by rw[Nat.and_comm];show zC⟩
 ·rintro⟨h1,h2,h3⟩
  show⟨⟨h1,h2⟩,λd hd q=>?_⟩;rw[Bool.and_eq_true,bne_iff_ne,beq_iff_eq,Nat.and_comm]at q;show aI ((Ek h).mp hd) λzE hd2=>?_;show q.1 (h3 d zE hd2 q.2)
def LJ(ah:List cM):(eZ ah).Pairwise (·<·):=by
 show(List.pairwise_lt_range.filter _).filter _
abbrev xb(x:Nat):Nat:=([0,0,1,0,2,2,1,0,3,3,4,3,5,2,1,0,6,6,7,6,8,8,7,6,9,9,4,3,5,2,1,0]:List Nat).getD x 0
def LK:∀x,x<32->xb x<10/\∀y,y<32->xb x=xb y->x&&&y=x\/x&&&y=y:=by decide+kernel
variable{aM:List Nat}
def LL(h:jn ah){l:List Nat}(hd:l.Nodup)(hk:∀k∈l,kn ah k):l.length<=10:=by
 have h1:(l.map xb).Nodup:=by
  show List.pairwise_map.mpr (List.Pairwise.imp_of_mem (λ{x y} hx hy eI e=>?_) hd);show iS (hk x hx) λx1 x2 x3=>?_;show iS (hk y hy) λy1 y2 y3=>?_;rcases(LK x `L).2 y `L e with q|q
  ·show eI (y3 x x1 x2 q)
  ·rw[Nat.and_comm]at q
   show eI (x3 y y1 y2 q).symm
 have h2:l.map xb⊆List.range 10:=λc hc=>by
  show aj (cG hc) λx hx ay=>?_;subst ay;have:=(hk x hx).1;show List.mem_range.mpr (LK x `L).1
 have:=h1.length_le_of_subset h2;simp only[bq,List.length_range]at this;show this
def Zu(kf:List KF)(k f:Nat):f∈(gI kf k f).map (·.1)/\(∀x∈kf.map (·.1),x∈(gI kf k f).map (·.1))/\((kf.map (·.1)).Nodup->((gI kf k f).map (·.1)).Nodup):=by
 unfold gI;split
 ·rename_i h
  show cW (List.contains_iff_mem.mp h) (λx hx=>hx) id
 ·rename_i h
  show cW `S (λx hx=>by simp only[List.map_append];show List.mem_append_left _ hx) (λhn=>?_);simp only[List.map_append];show List.nodup_append.mpr (cW hn `S (λx hx y hy e=>?_));have:y=f:=by simpa using hy
  clear hy;subst this;obtain rfl:=Eq.symm e;show(λq=>h (List.contains_iff_mem.mpr q)) hx
def t9:∀(l:List Nat) (kf:List KF) (k:Nat),(∀f∈l,f∈(cD kf k l).map (·.1))/\(∀x∈kf.map (·.1),x∈(cD kf k l).map (·.1))/\((kf.map (·.1)).Nodup->((cD kf k l).map (·.1)).Nodup)
 |[],kf,k=>cW (λf hf=>(List.not_mem_nil hf).elim) (λx hx=>hx) id
 |g::l,kf,k=>by
  show iS (Zu kf k g) λh1 h2 h3=>?_;show iS (t9 l (gI kf k g) (k+1)) λh4 h5 h6=>?_;show cW (λf hf=>?_) (λx hx=>h5 x (h2 x hx)) (λhn=>h6 (h3 hn));rcases Or.imp_left Eq.symm (cj hf)with rfl|hf
  ·show h5 _ h1
  ·show h4 f hf
structure Zv(ah:List cM)(aM:List Nat)(mM:Nat)(fd:List Nat)(kf:List KF)(t:Nat):Prop where
 nodup:(kf.map (·.1)).Nodup
 keys:∀p∈kf,kn ah p.1
 rM:∀f∈fd,kn ah f
 le:t<=kf.length
 done:∀i,(hi:i<kf.length)->i<t->∀f∈jB ah aM kf[i].1,f∈(cD kf 0 fd).map (·.1)
 first:mM∈(cD kf 0 fd).map (·.1)
def LM(h:jn ah)(ho:Full aM){k:Nat}(hk:kn ah k):∀f∈jB ah aM k,kn ah f:=λf hf=>by
 show aj (cG hf) λr hr ay=>?_;subst ay;show(zB h ho (zD h hk.1 hk.2.1 hr).1 (zD h hk.1 hk.2.1 hr).2).1
def Zw(h:jn ah)(ho:Full aM)(mM:Nat):∀(n:Nat) (fd:List Nat) (kf:List KF) (t:Nat),n+t=11->Zv ah aM mM fd kf t->∃Kf,runK ah aM n fd kf t=some Kf/\(Kf.map (·.1)).Nodup/\(∀p∈Kf,kn ah p.1)/\mM∈Kf.map (·.1)/\∀p∈Kf,∀f∈jB ah aM p.1,f∈Kf.map (·.1):=by
 intro n;induction n with
 |zero=>
  intro fd kf t ht hI;have:=LL h hI.nodup (λk hk=>by show aj (cG hk) λp hp ay=>?_;subst ay;show hI.keys p hp);rw[bq]at this;have:=hI.le;omega
 |succ n ih=>
  intro fd kf t ht hI;show bK (wO fd kf 0) λe p1 p2 p3=>?_;have sk:∀p∈cD kf 0 fd,kn ah p.1:=λp hp=>by
   rw[p1]at hp;rcases gN hp with hp|hp
   ·show hI.keys p hp
   ·show hI.rM _ (p3 p hp)
  have bV:kf.length<=(cD kf 0 fd).length:=by simp only[p1,List.length_append];simp
  have rz:∀i (hi:i<kf.length),∃nR:i<(cD kf 0 fd).length,(cD kf 0 fd)[i]=kf[i]:=λi hi=>by
   show⟨by lia,?_⟩;have:(cD kf 0 fd)[i]? =kf[i]? :=by rw[p1,il hi]
   rw[eH `L,eH hi]at this;show bN this
  have hle:=hI.le;unfold runK;by_cases hq:(cD kf 0 fd).length=t
  ·rw[az hq]
   show sC _ rfl ((t9 fd kf 0).2.2 hI.nodup) sk hI.first (λp hp f hf=>?_)
   obtain⟨i,hi,he⟩:=List.getElem_of_mem hp;have sm:i<kf.length:=by clear hf bV ht;lia
   show hI.done i sm (by clear ih sm bV sk p3 p2 ht;lia) f ?_;rw[<-(rz i sm).2,he];show hf
  ·rw[aN hq]
   have bR:t<(cD kf 0 fd).length:=by clear p3 p2 p1 ht;lia
   simp only[eH bR];show ih _ _ _ `L ⟨((t9 fd kf 0).2.2 hI.nodup),sk,LM h ho (sk _ (List.getElem_mem bR)),bR,λi hi eV f hf=>?_,?_⟩
   ·show iS (t9 (jB ah aM (cD kf 0 fd)[t].1) (cD kf 0 fd) 0) λb1 b2 b3=>?_
    by_cases Zx:i=t
    ·obtain rfl:=Eq.symm Zx
     show b1 f hf
    ·have sm:i<kf.length:=by clear b3 b2 b1 hf p3 p2 p1 ht;lia
     show b2 f (hI.done i sm (by clear hq b3 b2 b1 bR sm hf hle hi rz bV sk p3 p2 p1 hI ht;lia) f ?_);show((rz i sm).2)▸(hf)
   ·show(t9 (jB ah aM (cD kf 0 fd)[t].1) (cD kf 0 fd) 0).2.1 _ hI.first
def LN(h:jn ah):SK ah 31:=zu (xa 31) (zz h (Nat.le_refl _))
def Zy(h:jn ah)(hz:∀r∈ah,r.1≠0){k:Nat}(hk:kn ah k):eL k:=by
 show⟨?_,hk.1⟩;rcases Nat.eq_zero_or_pos k with rfl|q
 ·exfalso
  have hc:si ah 0:=λr hr q=>by
   have:=q.le;show absurd `L (hz r hr)
  have:=t8 hc (Sub.refl 0);rw[(hk.2.1:iO ah 0=31)]at this;lia
 ·show q
def Zz(h:jn ah)(ho:Full aM):∃Kf,runK ah aM 11 [least 31 ah aM] [] 0=some Kf/\(∀p∈Kf,kn ah p.1)/\Kf.length<=10/\(Kf.map (·.1)).Perm (eZ ah):=by
 show l8 (Zw h ho (least 31 ah aM) 11 [least 31 ah aM] [] 0 rfl ⟨by simp,λp hp=>(List.not_mem_nil hp).elim,λf hf=>by simp only[fW hf];show((zB h ho (Nat.le_refl 31) (LN h)).1),by simp,λi hi=>(Nat.not_lt_zero i hi).elim,(t9 [least 31 ah aM] [] 0).1 _ (.head _)⟩) λKf e h1 h2 h3 h4=>?_;have El:∀k∈Kf.map (·.1),kn ah k:=λk hk=>by
  show aj (cG hk) λp hp ay=>?_;subst ay;show h2 p hp
 have bV:=LL h h1 El;rw[bq]at bV;show dw Kf e h2 bV ((List.perm_ext_iff_of_nodup h1 ((LJ ah).imp λq=>by lia)).mpr λz=>?_);rw[LI h];show⟨λhz=>El z hz,λhz=>Zt h ho h3 El (λk hk r hr=>?_) hz⟩;show aj (cG hk) λp hp ay=>?_;subst ay;show h4 p hp _ (List.mem_map.mpr (aA r hr rfl))
def ZA:∀a,a<5->∀b,b<4->(∀c∈((List.range 5).map λk=>2^((a+(1+b)*k)%5)),c<=31)/\∀i,i<5->2^i∈((List.range 5).map λk=>2^((a+(1+b)*k)%5)):=by decide+kernel
def ZC(ae:Nat):Full (fU ae):=by
 have:=ZA (ae%5) (Nat.mod_lt _ `D) (ae/5%4) (Nat.mod_lt _ `D);have e:fU ae=(List.range 5).map λk=>2^((ae%5+(1+ae/5%4)*k)%5):=by
  show List.map_congr_left λk _=>?_;congr 1;generalize(1+ae/5%4)*k=q;simp
 simp only[e];show this
def ZD(ns:List Nat)(ae:Nat):jn (gL ns ae):=by
 have h:∀r∈gL ns ae,r.1<=31/\r.2<=31:=λr hr=>by
  unfold gL at hr;simp only[List.mem_cons,List.not_mem_nil,or_false]at hr;rcases hr with rfl|rfl|rfl<;>show⟨DV _,DV _⟩
 show⟨by unfold gL;simp,λr hr=>(h r hr).1,λr hr=>(h r hr).2⟩
def ZE{ns:List Nat}(hn:ns.length=3)(ae:Nat):∀r∈gL ns ae,r.1≠0:=λr hr=>by
 unfold gL at hr;simp only[List.mem_cons,List.not_mem_nil,or_false]at hr;rcases hr with rfl|rfl|rfl
 ·show Ee hn ae `D
 ·show Ee hn ae `D
 ·show Ee hn ae `D
def ZF{ns:List Nat}(hn:ns.length=3)(ae:Nat):∃Kf P gK,D7 ns ae Kf P gK:=by
 have h:=ZD ns ae;have ho:=ZC ae;show ku (Zz h ho) λKf e hk bV LO=>?_;have Bx:(eZ (gL ns ae)).length<=1000:=by
  simp only[<-LO.length_eq,bq];show a9 `A `D
 show ET Kf (kn (gL ns ae)) (sg ns ae) ⟨D8 hn ae,text_len hn ae,Zg hn ae,λk hk=>Zh hn ae hk,rfl,λk hk=>Zy h (ZE hn ae) hk,λk hk=>LM h ho hk,(zB h ho (Nat.le_refl 31) (LN h)).1,e,by show a9 `A `D,(λc hc=>((LI h).mp hc).1:∀c∈eZ (gL ns ae),c<=31),Bx,?_⟩;have C6:(Kf.map λp=>((aZ (eR ae) p.1:Nat):Int)).Perm ((eZ (gL ns ae)).map λc=>((aZ (eR ae) c:Nat):Int)):=by
  have:=LO.map λc=>((aZ (eR ae) c:Nat):Int);rw[List.map_map]at this;show this
 show BC (BB _) (List.pairwise_map.mpr ((LJ _).imp λ{x y} q=>?_)) ((sortI_perm _).trans C6);have:aZ (eR ae) x<=aZ (eR ae) y:=Nat.mul_le_mul_right _ (Nat.le_of_lt q);lia
def ZG{cs:List Int}(h:cs.length=4):(gf cs).length=3:=by unfold gf;simp only[bq,List.length_take,h];rfl
variable{K:W.Frag}{a:Ad}{n:Nat}{O:Hp}
def ZH(h:AF K a)(h0:O[0]? =some .tab)(sc:List Int)(gE:sc.length<=63):∃aa,aY K (n+8) (.con (.ref a.v7)) [.lst (bt sc)] [] O=some (.bool true,aa):=Y0 h h0 sc gE λcs qs=>ZF (ZG qs) (dQ cs)
end
end Mine
namespace Mine
open PySem PySem.Calls PyProof.Rows PySem.W
noncomputable abbrev PW:Program:=PySem.Challenge.pw_uc0060_01
noncomputable abbrev eS:Option Value:=some (.ref 6)
noncomputable abbrev pH(w:World)(n:Nat)(s:Shared)(t:Thread):Option (Shared×Thread):=segGo treeTable PW w 28 eS 1 n s t
section
variable{w:World}{α β:Type}{code:Code}{st:List Frame}{s aw a8:Shared}{p dz sR:Pos}
def LP:∀{n m:Nat} {s aw:Shared} {t pQ:Thread} {r:Shared×Thread},pH w n s t=some (aw,pQ)->pH w m aw pQ=some r->pH w (n+m) s t=some r
 |0,m,s,aw,t,pQ,r,h,k=>by
  obtain⟨rfl,rfl⟩:s=aw/\t=pQ:=by simpa [pH,segGo]using h
  rw[Nat.zero_add];show k
 |n+1,m,s,aw,t,pQ,r,h,k=>by
  rw[Nat.succ_add];unfold pH segGo at h|-;cases he:endAt 1 t with
  |some f=>rw[he]at h;cases h
  |none=>
   rw[he]at h;cases hk:stepOk 28 eS t with
   |false=>rw[hk]at h;cases h
   |true=>
    rw[hk]at h;cases hs:step (denote treeTable) PW w s t with
    |halt o s'=>rw[hs]at h;cases h
    |go s' t'=>rw[hs]at h;show LP h k
abbrev Runs(w:World)(code:Code)(st:List Frame)(t:Sem α)(s:Shared)(p:Pos)(a:α)(s':Shared)(p':Pos)(c:Nat):Prop:=
 ∀(K:α->Sem Fin) (H:Value->Sem Fin) (gd:Bool->Bool) (lv:List Value->List Value),∃n,n<=c/\pH w n s ⟨t.wrap K H gd lv,code,p,st⟩=some (s',⟨K a,code,p',st⟩)
def Runs.le{t:Sem α}{a:α}{c c':Nat}(h:Runs w code st t s p a aw dz c)(hc:c<=c':=by lia):Runs w code st t s p a aw dz c':=λK H gd lv=>let⟨n,h1,h2⟩:=h K H gd lv;(aA n (a9 h1 hc) h2)
def Runs.pure(a:α){c:Nat}:Runs w code st (Pure.pure a) s p a s p c:=λ_ _ _ _=>⟨0,Nat.zero_le _,rfl⟩
def Runs.bind{t:Sem α}{f:α->Sem β}{a:α}{b:β}{c1 c:Nat}(h:Runs w code st t s p a aw dz c1)(k:Runs w code st (f a) aw dz b a8 sR (c-c1))(hc:c1<=c:=by lia):Runs w code st (t>>=f) s p b a8 sR c:=λK H gd lv=>by
 show aj (h (λa=>(f a).wrap K H gd lv) (λe=>(Sem.raise e:Sem β).wrap K H gd lv) (λg=>gd (id g)) (λl=>lv (id l))) λn pq hn=>?_;show aj (k K H gd lv) λm hd hm=>?_;show aA (n+m) (a9 (Nat.add_le_add pq hd) (Nat.le_of_eq (Nat.add_sub_cancel' hc))) ?_;rw[Sem.bind_eq_wrap',Sem.wrap_wrap];show LP hn hm
def keep_eq_wrap(vs:List Value)(t:Sem α):t.keep vs=t.wrap .pure .raise id (vs++·):=by
 induction t<;>simp only[Sem.keep,Sem.wrap,id, *]
set_option tactic.hygienic true in
def Runs.holding{vs:List Value}{t:Sem α}{a:α}{c:Nat}(h:Runs w code st t s p a aw dz c):Runs w code st (PySem.holding vs t) s p a aw dz c:=λK H gd lv=>by
 unfold PySem.holding;split
 ·show h K H gd lv
 ·rename_i refs _
  rw[keep_eq_wrap,Sem.wrap_wrap];show h K _ _ _
def so{n:Nat}{s':Shared}{t t':Thread}(he:endAt 1 t=none)(hk:stepOk 28 eS t=true)(hs:step (denote treeTable) PW w s t= .go s' t'):pH w (n+1) s t=pH w n s' t':=by
 change(match endAt 1 t with
  |some _=>none
  |none=>match stepOk 28 eS t with
   |false=>none
   |true=>match step (denote treeTable) PW w s t with
    | .go s' t'=>pH w n s' t'
    | .halt _ _=>none)=_
 rw[he,hk,hs]
def Runs.rule{tg:String}{k:Unit->Sem α}{a:α}{c:Nat}(h:Runs w code st (k ()) s p a aw dz (c-1))(hc:1<=c:=by lia):Runs w code st (.rule tg k) s p a aw dz c:=λK H gd lv=>by
 show aj (h K H gd lv) λn pq hn=>?_;show aA (n+1) `L ((so (by unfold endAt;cases st.length==1<;>rfl) rfl rfl).trans hn)
def Runs.at{q:Pos}{k:Unit->Sem α}{a:α}{c:Nat}(h:Runs w code st (k ()) s q a aw dz (c-1))(hc:1<=c:=by lia):Runs w code st (.at q k) s p a aw dz c:=λK H gd lv=>by
 show aj (h K H gd lv) λn pq hn=>?_;show aA (n+1) `L ((so (by unfold endAt;cases st.length==1<;>rfl) rfl rfl).trans hn)
def Runs.fresh{k:Tok->Sem α}{a:α}{c:Nat}(h:Runs w code st (k s.toks) {s with toks:=s.toks+1} p a aw dz (c-1))(hc:1<=c:=by lia):Runs w code st (.fresh k) s p a aw dz c:=λK H gd lv=>by
 show aj (h K H gd lv) λn pq hn=>?_;show aA (n+1) `L ((so (by unfold endAt;cases st.length==1<;>rfl) rfl rfl).trans hn)
def Runs.ask{k:Setting->Sem α}{a:α}{c:Nat}(h:Runs w code st (k ⟨PW,w.params⟩) s p a aw dz (c-1))(hc:1<=c:=by lia):Runs w code st (.ask k) s p a aw dz c:=λK H gd lv=>by
 show aj (h K H gd lv) λn pq hn=>?_;show aA (n+1) `L ((so (by unfold endAt;cases st.length==1<;>rfl) rfl rfl).trans hn)
def Runs.load{d:Addr}{pt:Option Value}{k:Obj->Sem α}{a:α}{o:Obj}{c:Nat}(ho:s.heap.get? d=some o)(h:Runs w code st (k o) s p a aw dz (c-1))(hc:1<=c:=by lia):Runs w code st (.load d pt k) s p a aw dz c:=λK H gd lv=>by
 show aj (h K H gd lv) λn pq hn=>?_;show aA (n+1) `L ((so (by unfold endAt;cases st.length==1<;>rfl) rfl (by simp only[Sem.wrap,step,ho])).trans hn)
def Runs.update{d:Addr}{pt:Option Value}{f:Obj->Obj}{k:Unit->Sem α}{a:α}{o:Obj}{c:Nat}(hd:28<=d)(ho:s.heap.get? d=some o)(h:Runs w code st (k ()) {s with heap:=s.heap.update d f} p a aw dz (c-1))(hc:1<=c:=by lia):Runs w code st (.update d pt f k) s p a aw dz c:=λK H gd lv=>by
 show aj (h K H gd lv) λn pq hn=>?_;show aA (n+1) `L ((so (by unfold endAt;cases st.length==1<;>rfl) (by simp only[Sem.wrap,stepOk,Thread.calm,Thread.atCollectorCode,Thread.atExit,Thread.yieldsInsideHandler,(Nat.ble_eq_true_of_le hd)];rfl) (by simp only[Sem.wrap,step,ho];rfl)).trans hn)
def Runs.alloc{o:Obj}{k:Addr->Sem α}{a:α}{c:Nat}(h:Runs w code st (k s.heap.objs.size) {s with heap:=s.heap.push o} p a aw dz (c-1))(hc:1<=c:=by lia):Runs w code st (.alloc o k) s p a aw dz c:=λK H gd lv=>by
 show aj (h K H gd lv) λn pq hn=>?_;show aA (n+1) `L ((so (by unfold endAt;cases st.length==1<;>rfl) rfl rfl).trans hn)
variable{b:List Stmt}{E:Env}{q:Pos}
def ZI(i:Int)(t:Tok):Runs w (.body b E) [topFrame q] (PySem.call (.builtin "int.__hash__") [.int i t]) s p (.int (rawHash i) s.toks) {s with toks:=s.toks+1} p 4:=λK H gd lv=>by
 show aA 4 (Nat.le_refl _) ?_;kernel_rfl
def LQ(i:Int)(t:Tok):specialOf (.int i t) "__hash__"=pure (some (.builtin "int.__hash__")):=slot_int_hash.lookup
def ZJ(i:Int)(t:Tok):Runs w (.body b E) [topFrame q] (bindSpecialIfBound? (.int i t) "__hash__") s p (some (.builtin "int.__hash__",[.int i t])) s p 5:=by
 unfold bindSpecialIfBound?;rw[LQ,pure_bind];dsimp only;rw[slot_int_hash.bind];show Runs.ask ?_;change Runs w _ _ (if w.params.followText "special-get-raises"=true then _ else _) s p _ s p _;split
 ·show Runs.pure _
 ·show Runs.pure _
def ZK(i:Int)(t:Tok):Runs w (.body b E) [topFrame q] (pyHash (.int i t)) s p (hashInt i) {s with toks:=s.toks+1} p 20:=by
 change Runs w _ _ (pyHashByItsType (.int i t)) s p _ _ p _;unfold pyHashByItsType;rw[cRoomFor,aN (by rw[(rfl:[Value.int i t].any Value.onHeap=false)];show g0)];show Runs.bind (c1:=0) (a:=()) (Runs.pure _) ?_;rw[LQ,pure_bind];rw[aN (by rw[beq_builtin_none];show g0)];rw[pure_bind];show Runs.bind (a:=some (.int (rawHash i) s.toks)) (aw:={s with toks:=s.toks+1}) (c1:=10) (dz:=p) ?_ ?_
 ·unfold callSpecialIfBoundUnlessNone?
  show Runs.holding (Runs.bind (ZJ i t) ?_);show Runs.bind (ZI i t) (Runs.pure _)
 ·change Runs w _ _ (if(decide (-(2:Int)^63<=rawHash i)&&decide (rawHash i<2^63))=true then _ else _) _ p _ _ p _
  rw[az (by simp only[decide_eq_true (rawHash_range i).1,decide_eq_true (rawHash_range i).2];rfl)];show Runs.pure _
abbrev jE(h:Heap)(l:List Obj):Heap:=⟨(h.objs.toList++l).toArray,h.life⟩
def LR(h:Heap):jE h []=h:=by unfold jE;simp
def ZL(h:Heap)(l:List Obj):(jE h l).objs.size=h.objs.size+l.length:=by unfold jE;simp
def ZM(h:Heap)(l:List Obj)(o:Obj):(jE h l).push o=jE h (l++[o]):=by
 delta jE Heap.push;simp
def ZN(h:Heap)(l:List Obj)(i:Nat):(jE h l).objs[h.objs.size+i]? =l[i]? :=by
 unfold jE;rw[List.getElem?_toArray,iT `S];simp
def pI{h:Heap}{l:List Obj}{i:Nat}{o:Obj}(e:l[i]? =some o)(hf:alive o=some o):(jE h l).get? (h.objs.size+i)=some o:=by
 unfold Heap.get?;rw[ZN,e];clear e;obtain⟨c,d,dt,sl⟩:=o;induction dt<;>first|rfl|cases hf
def ZO(h:Heap)(l:List Obj)(i:Nat)(f:Obj->Obj):(jE h l).update (h.objs.size+i) f=jE h (l.modify i f):=by
 have e:((h.objs.toList++l).toArray.modify (h.objs.size+i) f)=(h.objs.toList++l.modify i f).toArray:=by
  apply Array.ext_getElem?;intro j;simp only[Array.getElem?_modify,List.getElem?_toArray,List.getElem?_toArray];show Or.elim (Nat.lt_or_ge j h.objs.size) (λhj=>?_) λhj=>?_
  ·rw[il (by simpa using hj),il (by simpa using hj),aN `L]
  ·show aU (Nat.exists_eq_add_of_le hj) λm aF=>?_;subst aF
   rw[iT `S,iT `S];by_cases hi:i=m<;>simp[hi]
 show aJ (Heap.mk · h.life) e
def ZP{l:List Obj}{i:Nat}{o:Obj}{f:Obj->Obj}(e:l[i]? =some o):l.modify i f=l.set i (f o):=by
 apply List.ext_getElem?;intro j;by_cases hi:i=j
 ·subst hi
  have:i<l.length:=(cQ e).1;simp[this,((cQ e).2:l[i]=o)]
 ·simp[hi]
abbrev bU(es:List DictEntry):Obj:={cls:= .type "dict",data:= .dict es.toArray es.length}
def pJ(es:List DictEntry):alive (bU es)=some (bU es):=rfl
def ZQ(es:List DictEntry)(e:DictEntry):Obj.mapDictKeys (·.push e) (bU es)=bU (es++[e]):=by
 delta bU Obj.mapDictKeys;simp
abbrev sx(s:Shared)(l:List Obj)(k:Nat):Shared:={s with heap:=jE s.heap l,toks:=s.toks+k}
variable{l:List Obj}{k i:Nat}{es:List DictEntry}
def zF{d:Addr}{pt:Option Value}{o:Obj}{ea:Array DictEntry}{n:Nat}(ho:s.heap.get? d=some o)(hd:o.data= .dict ea n):Runs w (.body b E) [topFrame q] (dictEntries d pt) s p ea s p 2:=by
 show Runs.bind (c1:=1) (a:=o) (Runs.load ho (Runs.pure _)) ?_;show(hd)▸(Runs.pure _)
def LS{d:Addr}{pt:Option Value}{o:Obj}{ea:Array DictEntry}{n:Nat}(ho:s.heap.get? d=some o)(hd:o.data= .dict ea n):Runs w (.body b E) [topFrame q] (dictEpoch d pt) s p n s p 2:=by
 show Runs.bind (c1:=1) (a:=o) (Runs.load ho (Runs.pure _)) ?_;show(hd)▸(Runs.pure _)
def ZR(h:Int)(hm:∀e∈es,e.hash≠h):placesWithHash es.toArray.size (λi=>es.toArray[i]?.map (·.hash)) h=[]:=by
 unfold placesWithHash;rw[List.filter_eq_nil_iff];intro j _;simp only[List.getElem?_toArray];cases e:es[j]?with
 |none=>simp
 |some x=>
  have:=hm x (gZ e);simpa using this
def LU{d:Addr}{h j:Int}{t:Tok}(ho:s.heap.get? d=some (bU es))(hm:∀e∈es,e.hash≠h):Runs w (.body b E) [topFrame q] (dictFind d (.int j t) h) s p none s p 4:=by
 show Runs.holding (Runs.bind (zF ho rfl) ?_);rw[ZR h hm];rw[az (by rfl)];show Runs.bind (c1:=0) (a:=none) (Runs.pure _) (Runs.pure _)
def LV{pt:Option Value}(e:DictEntry)(dS:28<=s.heap.objs.size)(hl:l[i]? =some (bU es))(hn:es.length<=100000):
  Runs w (.body b E) [topFrame q] (updateDictKeys (s.heap.objs.size+i) (·.push e) pt) (sx s l k) p () (sx s (l.set i (bU (es++[e]))) k) p 6:=by
 show Runs.bind (c1:=1) (a:=bU es) (Runs.load (pI hl (pJ es):(sx s l k).heap.get? (s.heap.objs.size+i)=some (bU es)) (Runs.pure _)) ?_;show Runs.bind (c1:=1) (a:=()) (aw:=sx s (l.set i (bU (es++[e]))) k) (dz:=p) (Runs.update (d:=s.heap.objs.size+i) (a9 dS (Nat.le_add_right _ _)) (pI hl (pJ es):(sx s l k).heap.get? (s.heap.objs.size+i)=some (bU es)) ?_) ?_
 ·have:({sx s l k with heap:=(sx s l k).heap.update (s.heap.objs.size+i) (Obj.mapDictKeys (·.push e))}:Shared)=sx s (l.set i (bU (es++[e]))) k:=by
   unfold sx;dsimp only;rw[ZO,ZP hl,ZQ]
  rw[this];show Runs.pure _
 ·delta lookBehind loadPart
  show Runs.bind (c1:=1) (a:=bU (es++[e])) (Runs.load (pI (List.getElem?_set_self ((cQ hl).1:i<l.length):(l.set i (bU (es++[e])))[i]? =some (bU (es++[e]))) (pJ _):(sx s (l.set i (bU (es++[e]))) k).heap.get? (s.heap.objs.size+i)=some (bU (es++[e]))) (Runs.pure _)) ?_;have:(bU (es++[e])).data.pastItsLine=none:=by
   change(if(es++[e]).toArray.size>sizeLine+1 then _ else _)=_;rw[aN (by rw[sizeLine_eq];simp;show a9 `A `D)]
  rw[this];show Runs.pure _
def LW(j:Int)(t:Tok)(x:Str)(u:Tok)(dS:28<=s.heap.objs.size)(hl:l[i]? =some (bU es))(hn:es.length<=100000)(hm:∀e∈es,e.hash≠hashInt j):
  Runs w (.body b E) [topFrame q] (dictSet (s.heap.objs.size+i) (.int j t) (.str x u)) (sx s l k) p () (sx s (l.set i (bU (es++[⟨hashInt j,.int j t,.str x u⟩]))) (k+1)) p 40:=by
 show Runs.holding (Runs.bind (ZK j t) ?_);show Runs.holding (Runs.bind (a:=none) (aw:=sx s l (k+1)) (dz:=p) (LU (pI hl (pJ es)) hm) ?_);show Runs.bind (c1:=1) (a:=()) (Runs.rule (Runs.pure _)) ?_;show(LV _ dS hl hn).le
def ZS(e:DictEntry){j:Int}{t:Tok}(he:e.key= .int j t)(dS:28<=s.heap.objs.size)(hl:l[i]? =some (bU es))(hn:es.length<=100000)(hm:∀e'∈es,e'.hash≠e.hash):
  Runs w (.body b E) [topFrame q] (dictPut (s.heap.objs.size+i) e.hash e.key e.val) (sx s l k) p () (sx s (l.set i (bU (es++[e]))) k) p 20:=by
 show Runs.bind (a:=none) (aw:=sx s l k) (c1:=4) (dz:=p) (by rw[he];show LU (pI hl (pJ es)) hm) ?_;show(LV _ dS hl hn).le
noncomputable abbrev Pr:=Int×Str
abbrev item(E:Env)(pz:Pos)(pr:Pr):Sem Value×Sem Value:=(constValue E (.int pr.1),do let x<-constValue E (.str pr.2);standAt pz;pure x)
noncomputable abbrev lX(j:Int)(t:Tok)(x:Str)(u:Tok):DictEntry:=⟨hashInt j,.int j t,.str x u⟩
abbrev lx:List Pr->Nat->List DictEntry
 |[],_=>[]
 |r::l,k=>lX r.1 k r.2 (k+1)::lx l (k+3)
abbrev kI:List Pr->Nat->List DictEntry
 |[],_=>[]
 |r::l,k=>lX r.1 k r.2 (k+1)::kI l (k+2)
def LY:∀l k,(lx l k).length=l.length
 |[],_=>rfl
 |r::l,k=>by simp[lx,LY l]
def zG:∀l k,(kI l k).length=l.length
 |[],_=>rfl
 |r::l,k=>by simp[kI,zG l]
abbrev hs(l:List Pr):List Int:=l.map λr=>hashInt r.1
def LZ:∀l k,(lx l k).map (·.hash)=hs l
 |[],_=>rfl
 |r::l,k=>by simp[lx,hs,LZ l]
def Em:∀l k,(kI l k).map (·.hash)=hs l
 |[],_=>rfl
 |r::l,k=>by simp[kI,hs,Em l]
def ZT(l:List Pr):∀k,∀e∈lx l k,∃j t,e.key= .int j t:=by
 induction l with
 |nil=>intro k e h;cases h
 |cons r l ih=>
  intro k e h;rcases cj h with rfl|h
  ·show gk _ _ rfl
  ·show ih _ e h
def ZU(l:List Pr):∀k,∀e∈kI l k,∃j t,e.key= .int j t:=by
 induction l with
 |nil=>intro k e h;cases h
 |cons r l ih=>
  intro k e h;rcases cj h with rfl|h
  ·show gk _ _ rfl
  ·show ih _ e h
def En{es:List DictEntry}{h:Int}(hn:(es.map (·.hash)++[h]).Nodup):∀e∈es,e.hash≠h:=λe he q=>by
 rw[List.nodup_append]at hn;show hn.2.2 e.hash (List.mem_map_of_mem he) h `S q
variable{pz:Pos}
def Eo(pr:Pr):Runs w (.body b E) [topFrame q] (item E pz pr).1 (sx s l k) p (.int pr.1 (s.toks+k)) (sx s l (k+1)) p 1:=Runs.fresh (Runs.pure _)
def Ep(pr:Pr):Runs w (.body b E) [topFrame q] (item E pz pr).2 (sx s l k) p (.str pr.2 (s.toks+k)) (sx s l (k+1)) pz 2:=
 Runs.bind (c1:=1) (Runs.fresh (Runs.pure _)) (Runs.bind (c1:=1) (a:=()) (Runs.at (Runs.pure _)) (Runs.pure _))
def L0{l:List Obj}{i:Nat}{a c:Obj}:(l.set i a).set i c=l.set i c:=by simp
def set_same{l:List Obj}{i:Nat}{a:Obj}(h:l[i]? =some a):l.set i a=l:=by
 obtain⟨h1,h2⟩:=cQ h;subst h2;simp
def L1(dS:28<=s.heap.objs.size):∀(bQ:List Pr) (es:List DictEntry) (l:List Obj) (k:Nat),l[i]? =some (bU es)->es.length+bQ.length<=100000->(es.map (·.hash)++hs bQ).Nodup->
  Runs w (.body b E) [topFrame q] (forIn (bQ.map (item E pz)) PUnit.unit λ(x:Sem Value×Sem Value) (_:PUnit)=>(do
    let kv<-x.1
    let vv<-holding [kv] x.2
    holding [kv,vv] (dictSet (s.heap.objs.size+i) kv vv)
    pure (ForInStep.yield PUnit.unit):Sem (ForInStep PUnit))) (sx s l k) pz PUnit.unit (sx s (l.set i (bU (es++lx bQ (s.toks+k)))) (k+3*bQ.length)) pz (60*bQ.length)
 |[],es,l,k,hl,_,_=>by
  simp only[List.map_nil,List.forIn_nil,show lx [] (s.toks+k)=[]from rfl,List.append_nil,set_same hl];show Runs.pure _
 |r::bQ,es,l,k,hl,hn,hd=>by
  rw[List.map_cons,List.forIn_cons];have ky:((es++[lX r.1 (s.toks+k) r.2 (s.toks+(k+1))]).map (·.hash)++hs bQ).Nodup:=by
   simp only[List.map_append,List.append_assoc];show hd
  have hm:=En (by
   have:(es.map (·.hash)++[hashInt r.1]).Sublist (es.map (·.hash)++hs (r::bQ)):=List.Sublist.append (List.Sublist.refl _) (by show List.Sublist.cons_cons _ (List.nil_sublist _));show this.nodup hd)
  have bR:=(cQ hl).1;simp only[List.length_cons]at hn;show Runs.le (c:=50+60*bQ.length) ?_ (by simp only[List.length_cons];lia);show Runs.bind (c1:=50) (a:=ForInStep.yield PUnit.unit) (aw:=sx s (l.set i (bU (es++[lX r.1 (s.toks+k) r.2 (s.toks+(k+1))]))) (k+1+1+1)) (dz:=pz) ?_ ?_
  ·show Runs.bind (Eo r) (Runs.bind (Runs.holding (Ep r)) (Runs.bind (Runs.holding (LW _ _ _ _ dS hl `L hm)) (Runs.pure _)))
  ·have:=L1 dS bQ _ _ (k+1+1+1) (List.getElem?_set_self (a:=bU (es++[lX r.1 (s.toks+k) r.2 (s.toks+(k+1))])) bR) (by simp;lia) ky
   simp only[L0,List.append_assoc]at this;simp only[show k+3*(r::bQ).length=k+1+1+1+3*bQ.length from by simp;lia];show this.le
abbrev L2(bQ:List Pr)(k:Nat):List (Value×Value):=(kI bQ k).map λe=>(e.key,e.val)
def L3:∀(bQ:List Pr) (k:Nat),bQ≠[]->Runs w (.body b E) [topFrame q] (evalPairs (bQ.map (item E pz))) (sx s l k) pz (L2 bQ (s.toks+k)) (sx s l (k+2*bQ.length)) pz (10*bQ.length)
 |[],k,h=>absurd rfl h
 |[r],k,_=>by
  simp only[List.map_cons,List.map_nil];unfold evalPairs;show Runs.le (c:=10) ?_ `S;show Runs.bind (Eo r) (Runs.bind (Runs.holding (Ep r)) ?_);show Runs.bind (c1:=0) (a:=[]) (Runs.holding (Runs.pure _)) (Runs.pure _)
 |r::r'::bQ,k,_=>by
  rw[List.map_cons];unfold evalPairs;show Runs.le (c:=5+10*(r'::bQ).length) ?_ (by simp only[List.length_cons];lia);show Runs.bind (Eo r) (Runs.bind (Runs.holding (Ep r)) ?_);show Runs.bind (a:=L2 (r'::bQ) (s.toks+(k+1+1))) (Runs.holding (L3 (r'::bQ) (k+1+1) `S)) ?_;simp only[show k+2*(r::r'::bQ).length=k+1+1+2*(r'::bQ).length from by simp;lia];show Runs.pure _
def L4(dS:28<=s.heap.objs.size):∀(vs:List DictEntry) (es:List DictEntry) (l:List Obj) (k:Nat),(∀e∈vs,∃j t x u,e=lX j t x u)->l[i]? =some (bU es)->es.length+vs.length<=100000->(es.map (·.hash)++vs.map (·.hash)).Nodup->
  Runs w (.body b E) [topFrame q] (forIn (vs.map λe=>(e.key,e.val)) PUnit.unit λ(x:Value×Value) (_:PUnit)=>(do
    dictSet (s.heap.objs.size+i) x.1 x.2
    pure (ForInStep.yield PUnit.unit):Sem (ForInStep PUnit))) (sx s l k) p PUnit.unit (sx s (l.set i (bU (es++vs))) (k+vs.length)) p (50*vs.length)
 |[],es,l,k,_,hl,_,_=>by
  simp only[List.map_nil,List.forIn_nil,List.append_nil,set_same hl];show Runs.pure _
 |e::vs,es,l,k,hv,hl,hn,hd=>by
  rw[List.map_cons,List.forIn_cons];show sE (hv _ (.head _)) λj t x u dW=>?_;subst dW;have ky:((es++[lX j t x u]).map (·.hash)++vs.map (·.hash)).Nodup:=by
   rw[List.map_append,List.append_assoc];show hd
  have hm:=En (by
   have:(es.map (·.hash)++[hashInt j]).Sublist (es.map (·.hash)++(lX j t x u::vs).map (·.hash)):=List.Sublist.append (List.Sublist.refl _) (by show List.Sublist.cons_cons _ (List.nil_sublist _));show this.nodup hd)
  simp only[List.length_cons]at hn;show Runs.le (c:=45+50*vs.length) ?_ (by simp only[List.length_cons];lia);show Runs.bind (c1:=45) (a:=ForInStep.yield PUnit.unit) (aw:=sx s (l.set i (bU (es++[lX j t x u]))) (k+1)) (dz:=p) ?_ ?_
  ·show Runs.bind (LW _ _ _ _ dS hl `L hm) (Runs.pure _)
  ·have:=L4 dS vs _ _ (k+1) (λe he=>hv e (.tail _ he)) (List.getElem?_set_self (a:=bU (es++[lX j t x u])) ((cQ hl).1:i<l.length)) (by simp;lia) ky
   simp only[L0,List.append_assoc]at this;simp only[show k+(lX j t x u::vs).length=k+1+vs.length from by simp;lia];show this.le
def ZV(l:List Pr):∀k,∀e∈kI l k,∃j t x u,e=lX j t x u:=by
 induction l with
 |nil=>intro k e h;cases h
 |cons r l ih=>
  intro k e h;rcases cj h with rfl|h
  ·show EX _ _ _ _ rfl
  ·show ih _ e h
abbrev fJ(bQ:List Pr)(k:Nat):List DictEntry:=if bQ.length<=15 then kI bQ k else lx bQ k
def zH(bQ:List Pr)(k:Nat):(fJ bQ k).length=bQ.length:=by unfold fJ;split;show zG _ _;show LY _ _
def L5(bQ:List Pr)(k:Nat):(fJ bQ k).map (·.hash)=hs bQ:=by unfold fJ;split;show Em _ _;show LZ _ _
def ZW(bQ:List Pr)(k:Nat):∀e∈fJ bQ k,∃j t,e.key= .int j t:=by unfold fJ;split;show ZU _ _;show ZT _ _
def L6(dS:28<=s.heap.objs.size)(bQ:List Pr)(eI:bQ≠[])(hn:bQ.length<=1000)(hd:(hs bQ).Nodup):
  Runs w (.body b E) [topFrame q] (subDict (bQ.map (item E pz))) (sx s l k) pz (s.heap.objs.size+l.length) (sx s (l++[bU (fJ bQ (s.toks+k))]) (k+3*bQ.length)) pz (100*bQ.length+10):=by
 have uG:(sx s l k).heap.objs.size=s.heap.objs.size+l.length:=ZL _ _;have hp:({sx s l k with heap:=(sx s l k).heap.push {cls:= .type "dict",data:= .dict #[]}}:Shared)=sx s (l++[bU []]) k:=by
  unfold sx;rw[ZM];rfl
 show Runs.bind (c1:=1) (a:=s.heap.objs.size+l.length) (aw:=sx s (l++[bU []]) k) (dz:=pz) (Runs.alloc ?_) ?_
 ·simp only[uG,hp];show Runs.pure _
 show Runs.bind (c1:=100*bQ.length+5) (a:=()) (aw:=sx s (l++[bU (fJ bQ (s.toks+k))]) (k+3*bQ.length)) (dz:=pz) (Runs.holding ?_) (Runs.pure _);rw[bq];by_cases zI:bQ.length<=15
 ·rw[az zI]
  have he:fJ bQ (s.toks+k)=kI bQ (s.toks+k):=by unfold fJ;rw[az zI]
  rw[he];show Runs.bind (L3 bQ k eI) (Runs.holding ?_);have:=L4 (w:=w) (b:=b) (E:=E) (q:=q) (p:=pz) (s:=s) (i:=l.length) dS (kI bQ (s.toks+k)) [] (l++[bU []]) (k+2*bQ.length) (ZV _ _) `S (by rw[zG];simp;show a9 `A `D) (by rw[Em];simpa using hd);simp only[(λo=>by simp:∀o:Obj,(l++[bU []]).set l.length o=l++[o]),List.nil_append,zG]at this;simp only[show k+3*bQ.length=k+2*bQ.length+bQ.length from by rw[Nat.add_assoc,<-Nat.succ_mul]];show Runs.bind (a:=PUnit.unit) this (Runs.pure _)
 ·rw[aN zI]
  have he:fJ bQ (s.toks+k)=lx bQ (s.toks+k):=by unfold fJ;rw[aN zI]
  rw[he];show Runs.bind (c1:=1) (a:=()) (Runs.rule (Runs.pure _)) ?_;have:=L1 (w:=w) (b:=b) (E:=E) (q:=q) (pz:=pz) (s:=s) (i:=l.length) dS bQ [] (l++[bU []]) k `S (by simp;show a9 `A `D) (by simpa using hd);simp only[(λo=>by simp:∀o:Obj,(l++[bU []]).set l.length o=l++[o]),List.nil_append]at this;show Runs.bind (a:=PUnit.unit) this (Runs.pure _)
variable{df:List DictEntry}
def ZX{F:Nat->PUnit->Sem (ForInStep PUnit)}(st:Nat->Shared)(n:Nat)(h:∀j,j<n->Runs w (.body b E) [topFrame q] (F j PUnit.unit) (st j) pz (ForInStep.yield PUnit.unit) (st (j+1)) pz 40):
  Runs w (.body b E) [topFrame q] (forIn (List.range n) PUnit.unit F) (st 0) pz PUnit.unit (st n) pz (40*n):=by
 have key:∀m j,j+m=n->Runs w (.body b E) [topFrame q] (forIn (List.range' j m) PUnit.unit F) (st j) pz PUnit.unit (st n) pz (40*m):=by
  intro m;induction m with
  |zero=>
   intro j hj;have:j=n:=hj;obtain rfl:=Eq.symm this;show Runs.pure _
  |succ m ih=>
   intro j hj;rw[List.range'_succ,List.forIn_cons];show Runs.bind (h j `L) (ih (j+1) `L).le
 rw[List.range_eq_range'];show key n 0 (Nat.zero_add n)
def ZY(dS:28<=s.heap.objs.size)(ua:l[0]? =some (bU es))(L7:l[i]? =some (bU df))(hi:i≠0)(eI:es≠[])(hn:es.length+df.length<=100000)(hd:(es.map (·.hash)++df.map (·.hash)).Nodup)(hk:∀e∈df,∃j t,e.key= .int j t):
  Runs w (.body b E) [topFrame q] (mergeMapping (s.heap.objs.size+0) (.ref (s.heap.objs.size+i)) false) (sx s l k) pz () (sx s (l.set 0 (bU (es++df))) k) pz (100+40*df.length):=by
 have gi:(sx s l k).heap.get? (s.heap.objs.size+i)=some (bU df):=pI L7 (pJ df);show Runs.bind (c1:=5) (a:=true) (aw:=sx s l k) (dz:=pz) ?_ ?_
 ·delta isInstance typeOf
  show Runs.bind (c1:=3) (a:=Value.type "dict") (Runs.bind (c1:=1) ((λpt=>Runs.load gi (Runs.pure _)) _) (Runs.pure _)) (by show Runs.pure _)
 rw[az rfl];show Runs.bind (c1:=5) (a:=some (.builtin "dict.__iter__")) (aw:=sx s l k) (dz:=pz) ?_ ?_
 ·delta specialOf typeOf
  show Runs.bind (c1:=3) (a:=Value.type "dict") (Runs.bind (c1:=1) ((λpt=>Runs.load gi (Runs.pure _)) _) (Runs.pure _)) (by show Runs.pure _)
 have eV:((some (Value.builtin "dict.__iter__"))==some (.builtin "dict.__iter__"))=true:=by simp
 show Runs.bind (c1:=0) (a:=true) (aw:=sx s l k) (dz:=pz) (by rw[eV];show Runs.pure _) ?_;dsimp only;have ro:(s.heap.objs.size+i==sysModules)=false:=by
  rw[beq_eq_false_iff_ne];intro h4;show Nat.not_lt.mpr (a9 dS (Nat.le_add_right _ i)) (gM (Nat.le_of_eq h4) (Nat.le_of_ble_eq_true `D:(sysModules:Nat)<28))
 have ZZ:es.toArray.isEmpty=false:=by induction es with|nil=>show absurd rfl eI|cons _ _=>rfl
 rw[ro];show Runs.bind (a:=es.toArray) (zF (pI ua (pJ es)) rfl) ?_;rw[ZZ];show Runs.bind (a:=df.toArray) (zF gi rfl) (Runs.bind (a:=df.length) (LS gi rfl) ?_);rw[(by simp:df.toArray.size=df.length)];show Runs.bind (c1:=40*df.length) (a:=PUnit.unit) (aw:=sx s (l.set 0 (bU (es++df))) k) (dz:=pz) ?_ (Runs.pure _);have main:=ZX (w:=w) (b:=b) (E:=E) (q:=q) (pz:=pz) (F:=λj _=>(do
   let some e:=(<-dictEntries (s.heap.objs.size+i))[j]? |unsupported "dict.changed-during-merge"
   holding [e.key,e.val] do
    dictPut (s.heap.objs.size+0) e.hash e.key e.val
   if(<-dictEpoch (s.heap.objs.size+i)) !=df.length then unsupported "dict.changed-during-merge"
   pure (ForInStep.yield PUnit.unit))) (λj=>sx s (l.set 0 (bU (es++df.take j))) k) df.length (λj hj=>by
  have L8:∀o,(l.set 0 o)[i]? =some (bU df):=λo=>by rw[List.getElem?_set_ne (Ne.symm hi)];show L7
  have he:df.toArray[j]? =some df[j]:=by simp only[List.getElem?_toArray,eH hj]
  show fg (hk df[j] (List.getElem_mem hj)) λjj t vC=>?_;have ym:∀e'∈es++df.take j,e'.hash≠df[j].hash:=En (by
   have:((es++df.take j).map (·.hash)++[df[j].hash]).Sublist (es.map (·.hash)++df.map (·.hash)):=by
    rw[List.map_append,List.append_assoc];show List.Sublist.append (List.Sublist.refl _) ?_
    conv=>rhs;rw[(by simp only[<-List.drop_eq_getElem_cons hj,List.take_append_drop]:df=df.take j++df[j]::df.drop (j+1))]
    simp only[List.map_append,List.map_cons];show List.Sublist.append (List.Sublist.refl _) (List.Sublist.cons_cons _ (List.nil_sublist _))
   show this.nodup hd)
  show Runs.bind (a:=df.toArray) (zF ((λo=>pI (L8 o) (pJ df):∀o,(sx s (l.set 0 o) k).heap.get? (s.heap.objs.size+i)=some (bU df)) _) rfl) ?_;rw[he];show Runs.bind (c1:=20) (a:=()) (aw:=sx s (l.set 0 (bU (es++df.take (j+1)))) k) (dz:=pz) (Runs.holding ?_) ?_
  ·have:=ZS (w:=w) (b:=b) (E:=E) (q:=q) (p:=pz) (s:=s) (k:=k) (i:=0) (l:=l.set 0 (bU (es++df.take j))) df[j] vC dS (List.getElem?_set_self ((cQ ua).1:0<l.length):(l.set 0 (bU (es++df.take j)))[0]? =some (bU (es++df.take j))) (by simp;lia) ym
   simp only[List.set_set,List.append_assoc,<-(by simp only[List.take_add_one,eH hj];rfl:df.take (j+1)=df.take j++[df[j]])]at this;show this
  ·show Runs.bind (a:=df.length) (LS ((λo=>pI (L8 o) (pJ df):∀o,(sx s (l.set 0 o) k).heap.get? (s.heap.objs.size+i)=some (bU df)) _) rfl) ?_
   simp only[bne_self_eq_false,Bool.false_eq_true,if_false];show Runs.pure _)
 rw[List.take_length,List.take_zero,List.append_nil,set_same ua]at main;show main
noncomputable abbrev ly:=List DictEntry×List Obj×Nat
abbrev dB(T:Nat)(st:ly)(c:List Pr):ly:=(st.1++fJ c (T+st.2.2),if st.1.isEmpty then []else st.2.1++[bU (fJ c (T+st.2.2))],st.2.2+3*c.length)
abbrev gj(st:ly):List Obj:=if st.1.isEmpty then []else bU st.1::st.2.1
abbrev lz(s:Shared)(st:ly):Option Addr:=if st.1.isEmpty then none else some (s.heap.objs.size+0)
abbrev zJ(run:List (Sem Value×Sem Value))(main:Option Addr):Sem (Option Addr):=do
  if run.isEmpty then return main
  match main with
  |none=>return some (<-subDict run)
  |some d=>
   let sub<-holding [.ref d] (subDict run)
   (holding [.ref d,.ref sub] (mergeMapping d (.ref sub) false)).onRaise λx=>do let _<-holding [.ref d,x] (runValue (.builtin "proto.let_go" {}))
   return some d
def Runs.onRaise{code:Code}{st:List Frame}{t:Sem α}{h:Value->Sem Unit}{a:α}{c:Nat}(r:Runs w code st t s p a aw dz c):Runs w code st (t.onRaise h) s p a aw dz c:=λK H gd lv=>by
 simp only[Sem.onRaise_eq_wrap,Sem.wrap_wrap];show r K _ _ _
def L9(dS:28<=s.heap.objs.size)(st:ly)(c:List Pr)(eI:c≠[])(hn:st.1.length+c.length<=90000)(hc:c.length<=1000)(hd:(st.1.map (·.hash)++hs c).Nodup):
  Runs w (.body b E) [topFrame q] (zJ (c.map (item E pz)) (lz s st)) (sx s (gj st) st.2.2) pz (lz s (dB s.toks st c)) (sx s (gj (dB s.toks st c)) (dB s.toks st c).2.2) pz (200*c.length+200):=by
 obtain⟨es,jS,k⟩:=st;have Ma:=(List.nodup_append.mp hd).2.1;have Z0:(c.map (item E pz)).isEmpty=false:=by induction c with|nil=>show absurd rfl eI|cons _ _=>rfl
 have Mb:(fJ c (s.toks+k)).isEmpty=false:=by
  rw[List.isEmpty_eq_false_iff];intro q;have:=zH c (s.toks+k);rw[q]at this;show eI (List.length_eq_zero_iff.mp this.symm)
 unfold zJ;rw[Z0];cases he:es.isEmpty with
 |true=>
  have:es=[]:=List.isEmpty_iff.mp he;subst this;rw[(rfl:lz s (([]:List DictEntry),jS,k)=none),(rfl:gj (([]:List DictEntry),jS,k)=[]),(by delta lz dB;simp only[List.nil_append,Mb,Bool.false_eq_true,if_false]:lz s (dB s.toks ([],jS,k) c)=some (s.heap.objs.size+0)),(by delta gj dB;simp only[List.nil_append,Mb,Bool.false_eq_true,if_false,List.isEmpty_nil,if_true]:gj (dB s.toks ([],jS,k) c)=[bU (fJ c (s.toks+k))])];show Runs.bind (L6 (l:=[]) dS c eI hc Ma) (Runs.pure _)
 |false=>
  rw[(by unfold lz;simp only[he,Bool.false_eq_true,if_false]:lz s (es,jS,k)=some (s.heap.objs.size+0)),(by unfold gj;simp only[he,Bool.false_eq_true,if_false]:gj (es,jS,k)=bU es::jS),(by delta lz dB;simp only[(by induction es with|nil=>cases he|cons _ _=>rfl:(es++fJ c (s.toks+k)).isEmpty=false),Bool.false_eq_true,if_false]:lz s (dB s.toks (es,jS,k) c)=some (s.heap.objs.size+0)),(by delta gj dB;simp only[(by induction es with|nil=>cases he|cons _ _=>rfl:(es++fJ c (s.toks+k)).isEmpty=false),he,Bool.false_eq_true,if_false]:gj (dB s.toks (es,jS,k) c)=bU (es++fJ c (s.toks+k))::(jS++[bU (fJ c (s.toks+k))]))];dsimp only;show Runs.bind (Runs.holding (L6 (l:=bU es::jS) dS c eI hc Ma)) ?_;have hm:=ZY (w:=w) (b:=b) (E:=E) (q:=q) (pz:=pz) (s:=s) (k:=k+3*c.length) (l:=(bU es::jS)++[bU (fJ c (s.toks+k))]) (i:=(bU es::jS).length) (es:=es) (df:=fJ c (s.toks+k)) dS rfl (by rw[iT (Nat.le_refl _)];simp) `S (by intro q;rw[q]at he;cases he)
   (by rw[zH];show a9 `A `D) (by rw[L5];show hd) (ZW _ _)
  simp only[zH]at hm;show Runs.bind (Runs.onRaise (Runs.holding hm)) (Runs.pure _)
noncomputable abbrev sr(E:Env)(pz:Pos)(r:Pr):Option (Sem Value)×Sem Value:=(some (item E pz r).1,(item E pz r).2)
noncomputable abbrev xc:=(Option (Sem Value)×Sem Value)->(Option Addr×List (Sem Value×Sem Value))->Sem (ForInStep (Option Addr×List (Sem Value×Sem Value)))
structure zK(f:xc):Prop where
 more:∀(p:Sem Value×Sem Value) main run,run.length+1≠17->f (some p.1,p.2) (main,run)=pure (.yield (main,run++[p]))
 full:∀(p:Sem Value×Sem Value) main run,run.length+1=17->f (some p.1,p.2) (main,run)=(do let m<-zJ (run++[p]) main;pure (.yield (m,[])))
def Mc{f:xc}(hf:zK f)(aV:List Pr)(main:Option Addr):∀(c:List Pr) (rn:List (Sem Value×Sem Value)),c≠[]->rn.length+c.length=17->
  forIn (((c++aV).map (sr E pz))) (main,rn) f=(do let m<-zJ (rn++c.map (item E pz)) main;forIn (aV.map (sr E pz)) (m,[]) f)
 |[],_,h,_=>absurd rfl h
 |[x],rn,_,hl=>by
  simp only[List.cons_append,List.nil_append,List.map_cons,List.forIn_cons];simp only[hf.full (item E pz x) main rn (by show hl)];simp only[bind_assoc];rfl
 |x::y::c,rn,_,hl=>by
  rw[List.cons_append,List.map_cons,List.forIn_cons];simp only[hf.more (item E pz x) main rn (by simp at hl;lia),pure_bind];have:=Mc hf aV main (y::c) (rn++[item E pz x]) `S (by simp at hl|-;lia);simp only[this];simp
def Md{f:xc}(hf:zK f)(main:Option Addr):∀(c:List Pr) (rn:List (Sem Value×Sem Value)),rn.length+c.length<17->forIn ((c.map (sr E pz))) (main,rn) f=pure (main,rn++c.map (item E pz))
 |[],rn,_=>by simp
 |x::c,rn,hl=>by
  simp only[List.map_cons,List.forIn_cons];simp only[hf.more (item E pz x) main rn (by simp at hl;lia),pure_bind];have:=Md hf main c (rn++[item E pz x]) (by simp at hl|-;lia);simp only[this];simp
def Mf(T:Nat)(st:ly)(c:List Pr):(dB T st c).1.map (·.hash)=st.1.map (·.hash)++hs c:=by
 unfold dB;simp only[List.map_append,L5]
def Er(T:Nat)(st:ly)(c:List Pr):(dB T st c).1.length=st.1.length+c.length:=by
 unfold dB;simp only[List.length_append,zH]
def Mg{f:xc}(hf:zK f)(dS:28<=s.heap.objs.size)(ae:List Pr)(rL:ae.length<17):∀(full:List (List Pr)) (st:ly),(∀c∈full,c.length=17)->st.1.length+full.flatten.length<=90000->(st.1.map (·.hash)++hs full.flatten).Nodup->
  Runs w (.body b E) [topFrame q] (forIn ((full.flatten++ae).map (sr E pz)) (lz s st,[]) f) (sx s (gj st) st.2.2) pz (lz s (full.foldl (dB s.toks) st),ae.map (item E pz)) (sx s (gj (full.foldl (dB s.toks) st)) (full.foldl (dB s.toks) st).2.2) pz (3600*full.length)
 |[],st,_,_,_=>by
  simp only[List.flatten_nil,List.nil_append,Md hf _ ae [] (by simpa using rL),List.nil_append];show Runs.pure _
 |c::full,st,ub,hn,hd=>by
  have hc:=ub c (.head _);have eI:c≠[]:=by intro q;rw[q]at hc;cases hc
  simp only[List.flatten_cons,List.append_assoc,Mc hf _ _ c [] eI (by simpa using hc),List.nil_append];simp only[List.flatten_cons,List.length_append]at hn;have zE:(st.1.map (·.hash)++hs c++hs full.flatten).Nodup:=by
   simp only[List.append_assoc];have:hs (c++full.flatten)=hs c++hs full.flatten:=List.map_append;rw[<-this,<-List.flatten_cons];show hd
  show Runs.le (c:=3600+3600*full.length) ?_ (by simp only[List.length_cons];lia);show Runs.bind (c1:=3600) ((L9 dS st c eI (by clear hc;lia) `L (List.nodup_append.mp zE).1).le) ?_;show Runs.le<|Mg hf dS ae rL full (dB s.toks st c) (λc' h=>ub c' (.tail _ h)) (by rw[Er];clear hc;lia) (by rw[Mf];show zE)
def Z1{f:xc}(hf:zK f)(dS:28<=s.heap.objs.size)(full:List (List Pr))(ae:List Pr)(ub:∀c∈full,c.length=17)(rL:ae.length<17)(hn:full.flatten.length<=80000)(hd:(hs full.flatten++hs ae).Nodup):
  Runs w (.body b E) [topFrame q] (forIn ((full.flatten++ae).map (sr E pz)) (none,[]) f) s pz (lz s (full.foldl (dB s.toks) ([],[],0)),ae.map (item E pz)) (sx s (gj (full.foldl (dB s.toks) ([],[],0))) (full.foldl (dB s.toks) ([],[],0)).2.2) pz (3600*full.length):=by
 have Z2:sx s (gj ([],[],0)) (([],[],0):ly).2.2=s:=by
  delta sx gj;simp only[List.isEmpty_nil,if_true,LR,Nat.add_zero]
 have:=Mg (w:=w) (b:=b) (E:=E) (q:=q) (pz:=pz) (s:=s) hf dS ae rL full ([],[],0) ub (by simpa using a9 hn `D) (by show(List.nodup_append.mp hd).1);simp only[Z2]at this;show this
def Mh(T:Nat):∀(full:List (List Pr)) (st:ly),(full.foldl (dB T) st).1.map (·.hash)=st.1.map (·.hash)++hs full.flatten
 |[],st=>by simp[hs]
 |c::full,st=>by
  simp only[List.foldl_cons,Mh T full,Mf,List.append_assoc,List.flatten_cons];congr 1;show(List.map_append).symm
def Mi(T:Nat):∀(full:List (List Pr)) (st:ly),(full.foldl (dB T) st).1.length=st.1.length+full.flatten.length
 |[],st=>by simp
 |c::full,st=>by
  simp only[List.foldl_cons,Mi T full,Er,List.flatten_cons,List.length_append];lia
def Z3(dS:28<=s.heap.objs.size)(full:List (List Pr))(ae:List Pr)(ub:∀c∈full,c.length=17)(rL:ae.length<17)(ua:ae≠[])(hn:full.flatten.length<=80000)(hd:(hs full.flatten++hs ae).Nodup):
  Runs w (.body b E) [topFrame q] (dictDisplay ((full.flatten++ae).map (sr E pz))) s pz (.ref s.heap.objs.size) (sx s (gj (dB s.toks (full.foldl (dB s.toks) ([],[],0)) ae)) (dB s.toks (full.foldl (dB s.toks) ([],[],0)) ae).2.2) pz (3600*full.length+4000):=by
 show Runs.bind (Z1 ⟨λp main run h=>?_,λp main run h=>?_⟩ dS full ae ub rL hn hd) ?_
 ·have:((run++[(p.1,p.2)]).length==17)=false:=by rw[beq_eq_false_iff_ne];simpa using h
  simp only[this,Bool.false_eq_true,if_false]
 ·have:((run++[(p.1,p.2)]).length==17)=true:=by rw[beq_iff_eq];simpa using h
  simp only[this,if_true];rfl
 ·dsimp only
  have kH:=L9 (w:=w) (b:=b) (E:=E) (q:=q) (pz:=pz) (s:=s) dS (full.foldl (dB s.toks) ([],[],0)) ae ua (by rw[Mi];change 0+full.flatten.length+ae.length<=90000;lia) `L (by rw[Mh];show hd);have Z4:lz s (dB s.toks (full.foldl (dB s.toks) ([],[],0)) ae)=some s.heap.objs.size:=by
   unfold lz;have:(dB s.toks (full.foldl (dB s.toks) ([],[],0)) ae).1.isEmpty=false:=by
    rw[List.isEmpty_eq_false_iff];intro q;have h1:=Er s.toks (full.foldl (dB s.toks) ([],[],0)) ae;simp only[q]at h1;have:ae.length≠0:=λz=>ua (List.length_eq_zero_iff.mp z);simp at h1;lia
   rw[this];rfl
  simp only[Z4]at kH;show Runs.bind kH ?_;show Runs.pure _
abbrev kJ:List Stmt:=behindTheImports PW
abbrev fB:Env:={scope:=PW.main.scope,locals:=mainNs,globals:=mainNs,cells:=[],code:= .ref 30,frame:=some 31}
noncomputable abbrev kq:Pos:={line:=0,col:=0,endLine:=0,endCol:=0}
noncomputable abbrev cE:Code:= .body kJ fB
noncomputable abbrev B0:List Frame:=[topFrame kq]
abbrev lY:Stmt:=match(kJ[13]? :Option Stmt)with|some s=>s|none=> .Pass kq
abbrev qy:List Expr:=if h:lY.ctorIdx=5 then Stmt.Assign.elim (motive_2:=λ_=>List Expr) lY h λt _ _=>t else []
abbrev uc:Expr:=if h:lY.ctorIdx=5 then Stmt.Assign.elim (motive_2:=λ_=>Expr) lY h λ_ v _=>v else .Name "" kq
abbrev lZ:List (Option Expr):=if h:uc.ctorIdx=6 then Expr.Dict.elim (motive_1:=λ_=>List (Option Expr)) uc h λk _ _=>k else []
abbrev l5:List Expr:=if h:uc.ctorIdx=6 then Expr.Dict.elim (motive_1:=λ_=>List Expr) uc h λ_ v _=>v else []
abbrev lA:Pos:=if h:uc.ctorIdx=6 then Expr.Dict.elim (motive_1:=λ_=>Pos) uc h λ_ _ p=>p else kq
abbrev xd:Pos:=if h:lY.ctorIdx=5 then Stmt.Assign.elim (motive_2:=λ_=>Pos) lY h λ_ _ p=>p else kq
def Z5:lY= .Assign qy (.Dict lZ l5 lA) xd:=by kernel_rfl
def Z6:swapsWithSole qy (.Dict lZ l5 lA) xd.line fB=pure false:=by kernel_rfl
abbrev cInt:Const->Option Int
 | .int i=>some i
 |_=>none
abbrev cStr:Const->Option Str
 | .str i=>some i
 |_=>none
def Mj{e:Expr}(h:e.ctorIdx=19):∃v k p,e= .Constant v k p:=Expr.Constant.elim (motive_1:=λe=>∃v k p,e= .Constant v k p) e h λv k p=>⟨v,k,p,rfl⟩
abbrev zL(e:Expr):Option Int:=if h:e.ctorIdx=19 then Expr.Constant.elim (motive_1:=λ_=>Option Int) e h λv _ _=>cInt v else none
abbrev zM(e:Expr):Option Str:=if h:e.ctorIdx=19 then Expr.Constant.elim (motive_1:=λ_=>Option Str) e h λv _ _=>cStr v else none
def Z7{e:Expr}{i:Int}(h:zL e=some i):∃k p,e= .Constant (.int i) k p:=by
 unfold zL at h;by_cases q:e.ctorIdx=19
 ·show jG (Mj q) λv k p hr=>?_
  subst hr;induction v<;>first|show gk k p (aJ (λi=>Expr.Constant (.int i) k p) (bN h))|show fD (h)
 ·rw[dif_neg q]at h;cases h
def Z8{e:Expr}{x:Str}(h:zM e=some x):∃k p,e= .Constant (.str x) k p:=by
 unfold zM at h;by_cases q:e.ctorIdx=19
 ·show jG (Mj q) λv k p hr=>?_
  subst hr;induction v<;>first|show gk k p (aJ (λi=>Expr.Constant (.str i) k p) (bN h))|show fD (h)
 ·rw[dif_neg q]at h;cases h
abbrev ud:List (Option Expr)->List Expr->Option (List Pr)
 |[],[]=>some []
 |k::ks,v::vs=>k.bind λk=>(zL k).bind λi=>(zM v).bind λx=>(ud ks vs).map ((i,x)::·)
 |_,_=>none
def Z9{E:Env}{pz:Pos}(ks:List (Option Expr)):∀{vs:List Expr} {bQ:List Pr},ud ks vs=some bQ->
  (evalEachOpt ks E).zip ((evalEach vs E).map λv=>do let x<-v;standAt pz;pure x)=bQ.map (sr E pz):=by
 induction ks with
 |nil=>
  intro vs bQ h;induction vs with
  |nil=>cases h;rfl
  |cons v vs=>cases h
 |cons k ks ih=>
  intro vs bQ h;cases vs with
  |nil=>cases h
  |cons v vs=>
   symm
   show aj (jH (show(k.bind λk=>(zL k).bind λi=>(zM v).bind λx=>(ud ks vs).map ((i,x)::·))=some bQ from h)) λe he g1=>?_;show aj (jH g1) λi h1 g2=>?_;show aj (jH g2) λx h2 g3=>?_;clear g2 g1;show aj (eo g3) λr h3 ay=>?_;subst ay;subst he;show fg (Z7 h1) λk1 p1 ay=>?_;subst ay;show fg (Z8 h2) λk2 p2 ay=>?_;subst ay;left;have:=ih h3;simp only[arm_evalEachOpt_cons,arm_evalEach_cons,List.map_cons,List.zip_cons_cons,this];rfl
abbrev lB:List Pr:=(ud lZ l5).getD []
abbrev l6:List (List Pr):=(List.range 38).map λi=>(lB.drop (17*i)).take 17
abbrev oG:List Pr:=lB.drop 646
abbrev ue:List Int->Bool
 |a::b::r=>decide (a<b)&&ue (b::r)
 |_=>true
def Mk:∀{l:List Int} {a:Int},ue (a::l)=true->∀x∈l,a<x
 |[],_,_,_,h=>by cases h
 |b::r,a,h,x,hx=>by
  obtain⟨h1,h2⟩:=fb (show(decide (a<b)&&ue (b::r))=true from h)
  symm
  rcases Or.imp_left Eq.symm (cj hx)with rfl|hx
  ·left
   show(of_decide_eq_true h1)
  ·have:=Mk h2 x hx;lia
def Es:∀{l:List Int},ue l=true->l.Nodup
 |[],_=>List.nodup_nil
 |[a],_=>by simp
 |a::b::r,h=>by
  show List.nodup_cons.mpr ⟨λq=>?_,?_⟩
  ·have:=Mk h a q;lia
  ·show Es (fb (show(decide (a<b)&&ue (b::r))=true from h)).2
def aaa:ud lZ l5=some lB:=by
 obtain⟨r,hr⟩:=Option.isSome_iff_exists.mp (by kernel_rfl:(ud lZ l5).isSome=true);rfl
def Ml:lB.length=650:=by kernel_rfl
def drops:∀(n:Nat) (l:List Pr),((List.range n).map λi=>(l.drop (17*i)).take 17).flatten++l.drop (17*n)=l
 |0,l=>by simp
 |n+1,l=>by
  simp only[List.range_succ,List.map_append,List.flatten_append,List.append_assoc];have h2:([n].map λi=>(l.drop (17*i)).take 17).flatten++l.drop (17*(n+1))=l.drop (17*n):=by
   simp only[List.map_cons,List.map_nil,List.flatten_cons,List.flatten_nil,List.append_nil];rw[show 17*(n+1)=17*n+17 from by rfl,<-List.drop_drop,List.take_append_drop]
  simp only[h2];show drops n l
def aab:l6.flatten++oG=lB:=drops 38 lB
def aac:∀c∈l6,c.length=17:=λc hc=>by
 show aj (cG hc) λi hi ay=>?_;subst ay;have:=List.mem_range.mp hi;simp only[List.length_take,List.length_drop,Ml];show Nat.min_eq_left (Nat.le_sub_of_add_le (a9 (Nat.add_le_add_left (Nat.mul_le_mul_left 17 (Nat.le_of_lt_succ this)) 17) `D))
def aad:oG.length=4:=by unfold oG;rw[List.length_drop,Ml]
def Mm:ue (hs lB)=true:=by kernel_rfl
noncomputable abbrev jF(T:Nat):ly:=dB T (l6.foldl (dB T) ([],[],0)) oG
def aae(dS:28<=s.heap.objs.size):Runs w cE B0 (do standAt xd;eval (.Dict lZ l5 lA) fB) s p (.ref s.heap.objs.size) (sx s (gj (jF s.toks)) (jF s.toks).2.2) lA 200000:=by
 rw[arm_eval_Dict,Z9 _ aaa,<-aab];show Runs.bind (c1:=1) (a:=()) (Runs.at (Runs.pure _)) (Runs.bind (c1:=1) (a:=()) (Runs.at (Runs.pure _)) ?_);have kH:l6.flatten.length<=80000:=by
  decide
 show Runs.le (c:=3600*l6.length+4000) ?_ (by rw[show l6.length=38 from by unfold l6;simp];decide);show Z3 dS l6 oG aac `D (by intro q;have:=aad;cases this) kH ?_;show Es Mm
abbrev zN(v:Value):Sem Flow:=do assignStores fB v (<-swappedStores qy (.Dict lZ l5 lA) fB) ((assignEach qy fB).map (·.2))
def aaf:exec lY fB=((do standAt xd;eval (.Dict lZ l5 lA) fB)>>=zN):=by
 rw[Z5,arm_exec_Assign,Z6];rfl
abbrev Et(v:Value):Sem Fin:=(zN v).wrap (λf=>match f with| .next=>(execs [] fB).wrap doneF deadEnd id id|f=>doneF f) deadEnd id id
def aag{s':Shared}{p':Pos}{N:Nat}(dS:28<=s.heap.objs.size)
  (h:segRun treeTable PW w 28 eS 1 N (sx s (gj (jF s.toks)) (jF s.toks).2.2) ⟨Et (.ref s.heap.objs.size),cE,lA,B0⟩=some (.next,s',cE,p')):
  ∃n,n<=200000+N/\segRun treeTable PW w 28 eS 1 n s (piecesOf [lY] fB cE p B0)=some (.next,s',cE,p'):=by
 symm
 show aj (aae (w:=w) (p:=p) dS (λv=>(zN v).wrap (λf=>match f with| .next=>(execs [] fB).wrap doneF deadEnd id id|f=>doneF f) deadEnd id id) (λe=>(Sem.raise e:Sem Flow).wrap (λf=>match f with| .next=>(execs [] fB).wrap doneF deadEnd id id|f=>doneF f) deadEnd id id) (λg=>id (id g)) (λl=>id (id l))) λn hle hn=>?_;left;show aA (n+N) (by omega) ?_;have e:(execs [lY] fB).wrap doneF deadEnd id id=(do standAt xd;eval (.Dict lZ l5 lA) fB:Sem Value).wrap (λv=>(zN v).wrap (λf=>match f with| .next=>(execs [] fB).wrap doneF deadEnd id id|f=>doneF f) deadEnd id id) (λe=>(Sem.raise e:Sem Flow).wrap (λf=>match f with| .next=>(execs [] fB).wrap doneF deadEnd id id|f=>doneF f) deadEnd id id) (λg=>id (id g)) (λl=>id (id l)):=by
  rw[execs_cons_wrap,aaf,Sem.bind_eq_wrap',Sem.wrap_wrap];rfl
 unfold piecesOf;show(Eq.symm (e))▸(seg_go hn h)
end
end Mine
namespace Mine
open PySem PySem.Spec PySem.Calls PyProof.Rows PySem.Builtin.Re
abbrev Eu:List Addr:=[3,4,39,45,46,63,69,75,76,82,83,96,97,103,104,110,111,117,118,120,121,133,142,143,144,188,189,193,194,198,199,207,213,214,220,221,262,268,269,273,274,278,279,311,312,321,322,332,333,337,338,342,343,347,348,352,353,359,360,364,365,369,370,374,375,379,380,384,385]
abbrev fragOf(h:Heap):W.Frag:=Eu.filterMap λa=>(h.get? a).map (a,·)
abbrev l7:Addr:=328
abbrev su:Ad where
 pretty:=46
 info:=76
 lR:=83
 rD:=143
 v5:=189
 ql:=338
 sign:=343
 written:=348
 drawn:=353
 least:=360
 octets:=365
 keys:=370
 eZ:=375
 names:=380
 v7:=385
 lS:=333
 da:=121
 headers:=322
 yC:=97
 jw:=104
 tx:=111
 v8:=118
 yD:=214
 v9:=221
 rE:=269
 tA:=274
 wa:=279
 qm:=312
 flags:=39
 b1:=133
 b3:=144
 pj:=194
 pn:=199
 dM:= .ref 69
def Mn(h:Heap):(fragOf h).In h:=by
 intro a o e;have key:∀l:List Addr,(l.filterMap λa=>(h.get? a).map (a,·)).lookup a=some o->h.get? a=some o:=by
  intro l;induction l with
  |nil=>intro e;cases e
  |cons b r ih=>
   intro e;rw[List.filterMap_cons]at e;cases hb:h.get? b with
   |none=>rw[hb]at e;show ih e
   |some p=>
    rw[hb]at e;rw[Option.map_some,di]at e;by_cases xe:a=b
    ·subst xe
     rw[beq_self_eq_true]at e;show hb.trans e
    ·rw[gm xe]at e
     show ih e
 show key _ e
def aah(h:Heap){a:Addr}{o:Obj}(e:(fragOf h).lookup a=some o):a∈Eu:=by
 have key:∀l:List Addr,(l.filterMap λa=>(h.get? a).map (a,·)).lookup a=some o->a∈l:=by
  intro l;induction l with
  |nil=>intro e;cases e
  |cons b r ih=>
   intro e;rw[List.filterMap_cons]at e;cases hb:h.get? b with
   |none=>rw[hb]at e;show .tail _ (ih e)
   |some p=>
    rw[hb]at e;rw[Option.map_some,di]at e;by_cases xe:a=b
    ·subst xe;show .head _
    ·rw[gm xe]at e
     show .tail _ (ih e)
 show key _ e
abbrev Ew(K:W.Frag)(g:Addr):=(fM K g).bind λfd=>(defsIn K fd.defaults).map λds=>(kY K fd,fd.params,fd.body,fd.scope,ds.map toV)
abbrev fT:List (Addr×Stmt×List V):=[(46,bC 4,[]),(83,bC 8,[]),(97,dG 10 0,[]),(104,dG 10 1,[]),(111,dG 10 2,[]),(118,dG 10 3,[]),(143,bC 13,[]),(189,bC 15,[]),
 (214,dG 19 0,[.none]),(221,dG 19 1,[]),(269,dG 19 8,[.none]),(274,dG 19 9,[]),(279,dG 19 10,[]),(312,dG 19 15,[]),
 (338,bC 22,[]),(343,bC 23,[]),(348,bC 24,[]),(353,bC 25,[]),(360,bC 26,[]),(365,bC 27,[]),(370,bC 28,[]),(375,bC 29,[]),(380,bC 30,[]),(385,bC 31,[])]
abbrev fA:List Addr:=[46,83,97,104,111,118,143,189,214,221,269,274,279,312,338,343,348,353,360,365,370,375,380,385]
abbrev Ey(r:Addr×Stmt×List V):Option (Bool×Arguments×FuncBody×Scope×List V):=some (true,gS r.2.1,.stmts (dY r.2.1),dC r.2.1,r.2.2)
abbrev aai(K:W.Frag):=(fM K 76).map λfd=>(kY K fd&&fd.defaults== .none,fd.params,fd.body,fd.scope)
abbrev aaj:Option (Bool×Arguments×FuncBody×Scope):=some (true,gS (bC 7),.stmts (dY (bC 7)),dC (bC 7))
abbrev aak(K:W.Frag):=(fM K 333).map λfd=>(kY K fd&&fd.defaults== .none&&vM K fd&&vN K,fd.params,fd.body,fd.scope)
abbrev aal:Option (Bool×Arguments×FuncBody×Scope):=some (true,gS (bC 21),.stmts jY,ia)
abbrev gT:List (Str×V):=[("range",.con (.type "range")),("list",.con (.type "list")),("type",.con (.type "type")),("str",.con (.type "str")),("len",.con (.builtin "len")),("ord",.con (.builtin "ord")),("chr",.con (.builtin "chr")),("hex",.con (.builtin "hex")),
 ("iter",.con (.builtin "iter")),("next",.con (.builtin "next")),("sum",.con (.builtin "sum")),("sorted",.con (.builtin "sorted")),
 ("_netrclex",.con (.ref 121)),("Headers",.con (.ref 322)),("in_table_b1",.con (.ref 143)),("map_table_b3",.con (.ref 189)),("_law_lexer",.con (.ref 333)),("pretty_flags",.con (.ref 46)),("_law_octets",.con (.ref 365)),("_law_least",.con (.ref 360)),
 ("_get_name_info",.con (.ref 76)),("_parse_varint",.con (.ref 83)),("_law_drawn",.con (.ref 353)),("_law_prepared",.con (.ref 338)),("_law_keys",.con (.ref 370)),("_law_due",.con (.ref 375)),("_law_names",.con (.ref 380)),("_law_sign",.con (.ref 343)),("_law_written",.con (.ref 348))]
abbrev nT:List (Str×Addr):=[("COMPILER_FLAG_NAMES",39),("b1_set",133),("b3_exceptions",144),("_name_disallowed_re",194),("_value_disallowed_re",199),("UNKNOWN",69)]
abbrev mT:List (Addr×Str×Addr):=[(121,"_read_char",104),(121,"get_token",111),(121,"push_token",118),(322,"_convert_string_type",221),(322,"get",269),(322,"keys",274),(322,"values",279),(322,"setdefault",312)]
abbrev Ez(K:W.Frag)(r:Addr×Str×Addr):=(W.plainGet K r.1 r.2.1,fnOf K r.1 r.2.1,vq K r.1 r.2.1,W.hasDictIn K r.1,W.keepIn K (.ref r.2.2),W.fnIn K r.2.2)
abbrev EA(r:Addr×Str×Addr):Bool×Option Addr×Option Addr×Bool×Bool×Bool:=(true,some r.2.2,some r.2.2,true,true,true)
abbrev aT:List (Addr×Str):=[(121,"lineno"),(121,"instream"),(121,"whitespace"),(121,"pushback"),(121,"read"),(322,"_headers")]
abbrev zO(K:W.Frag)(r:Addr×Str):=(W.plainGet K r.1 r.2,s6 K r.1 r.2,W.hasDictIn K r.1,s7 K r.1 r.2)
abbrev zP(K:W.Frag)(r:Addr×Addr):=(W.findIn K (.ref r.1) "__init__",W.makesIn K r.1,W.typeIn K (.ref r.2),(fM K r.1).isNone)
abbrev zQ(r:Addr×Addr):Option (Option Value)×Bool×Option Value×Bool:=(some (some (.ref r.2)),true,some (.type "function"),true)
abbrev cT:List (Addr×Addr):=[(121,97),(322,214)]
abbrev xf(K:W.Frag)(p:Addr):Option (List Nat):=(B9 K p).map λitems=>items.toList.map λv=>(reRawOf v).toNat
abbrev intOf(v:Value):Option Int:=tb v
abbrev nI(e:DictEntry):Option Int×Option V:=(intOf e.key,oZ e.val)
abbrev uf(r:Pr):Option Int×Option V:=(some r.1,some (.str r.2))
abbrev EB(K:W.Frag)(d:Addr):Option (List (Option Int×Option V)):=(p9 K d).bind λq=>if q.2.1.all intKeyed=true/\q.1.slots.size=0 then some (q.2.1.toList.map nI)else none
abbrev EC(K:W.Frag)(d:Addr):Option (List (Option Int)):=(setIn K d).bind λq=>if q.2.1.all BF=true/\q.1.slots.size=0/\q.2.1.size<scanBound/\q.2.2.2.fits q.2.1.size=true then some (q.2.1.toList.map λe=>intOf e.2)else none
abbrev sy:List Nat:=kF++wj.map (·.1)
abbrev ug:List Int:=[65024,65025,65026,65027,65028,65029,6150,65030,65031,65032,65033,6155,6156,6157,8203,8204,8205,65034,65035,65036,65037,65038,65039,173,847,8288,65279]
abbrev zR:List (Option Int×Option V):=(List.range 10).map λk=>(some (Int.ofNat (2^k)),some (.str (jf k)))
abbrev zS(c:Nat):Option Str:=if(qq c||kF.contains c)=true then none else some (T (jg c))
abbrev Mp(K:W.Frag):=((fA.map (Ew K),aai K,aak K),(gT.map λr=>(mP K r.1,gq K r.2),nT.map λr=>mP K r.1),(mT.map (Ez K),aT.map (zO K),cT.map (zP K),W.findIn K (.ref 121) "read"),(iI K,qE K,W.nsIn K mainGlobals "law"),
 (xf K 194,xf K 199),EB K 39,K.lookup 144,EC K 133)
abbrev Mq:(List (Option (Bool×Arguments×FuncBody×Scope×List V))×Option (Bool×Arguments×FuncBody×Scope)×Option (Bool×Arguments×FuncBody×Scope))×(List (Option V×Bool)×List (Option V))×(List (Bool×Option Addr×Option Addr×Bool×Bool×Bool)×List (Bool×Bool×Bool×Bool)×List (Option (Option Value)×Bool×Option Value×Bool)×Option (Option Value))×(Option Addr×Option Addr×Option (Option Value))×
  (Option (List Nat)×Option (List Nat))×Option (List (Option Int×Option V))×Option Obj×Option (List (Option Int)):=
 ((fT.map Ey,aaj,aal),(gT.map λr=>(some r.2,true),nT.map λr=>some (.con (.ref r.2))),(mT.map EA,aT.map λ_=>(true,true,true,true),cT.map zQ,some none),(some 333,some l7,some (some (.ref 385))),
 (some nh.toList,some ni.toList),some zR,some (bU (jF 508).1),some (ug.map some))
abbrev oH(s:Shared):=((λK=>Mp K) (fragOf s.heap),s.heap.get? l7,(s.heap.get? sysModules).isSome)
abbrev oI:=(Mq,(some {cls:= .none,data:= .fields #[]}:Option Obj),true)
def uh{α β:Type}{f g:α->β}{l:List α}(h:l.map f=l.map g)(i:Nat){r:α}(e:l[i]? =some r):f r=g r:=(List.map_inj_left.mp h) r (gZ e)
section
variable{K:W.Frag}
def aam{r:Addr×Stmt×List V}(h:Ew K r.1=Ey r)(hl:iI K=some 333)(hn:r.1≠333):dH K r.1 r.2.1 r.2.2:=by
 symm
 show aj (jH h) λfd h1 h=>?_;show aj (eo h) λds h2 h=>?_;simp only[Prod.mk.injEq]at h;left;show⟨(zY fd ds h1 h.1 h.2.1 h.2.2.1 h.2.2.2.1 h2 h.2.2.2.2),by rw[hl];intro q;show hn (bN q).symm⟩
def aan{r:Str×V}(h:(mP K r.1,gq K r.2)=(some r.2,true)):c7 K r.1 r.2:=⟨aJ Prod.fst h,aJ Prod.snd h⟩
def aao{r:Addr×Str×Addr}(h:Ez K r=EA r):nr K r.1 r.2.1 r.2.2:=by
 unfold Ez EA at h;simp only[Prod.mk.injEq]at h;show⟨h.1,h.2.1,h.2.2.1,h.2.2.2.1,h.2.2.2.2.1,h.2.2.2.2.2⟩
def aap{r:Addr×Str}(h:zO K r=(true,true,true,true)):pw K r.1 r.2:=by
 unfold zO at h;simp only[Prod.mk.injEq]at h;show⟨h.1,h.2.1,h.2.2.1,h.2.2.2⟩
def aaq{r:Addr×Addr}(h:zP K r=zQ r):(W.findIn K (.ref r.1) "__init__"=some (some (.ref r.2))/\W.makesIn K r.1=true/\W.typeIn K (.ref r.2)=some (.type "function"))/\fM K r.1=none:=by
 unfold zP zQ at h;simp only[Prod.mk.injEq]at h;show⟨⟨h.1,h.2.1,h.2.2.1⟩,Option.isNone_iff_eq_none.mp h.2.2.2⟩
def Mr{p:Addr}{l:List Nat}(h:xf K p=some l)(hl:vP l.toArray):jZ K p=true:=by
 show aj (eo h) λitems h1 h2=>?_;subst h2;have key:vQ K p=some (items.toList.map λv=>(reRawOf v).toNat).toArray:=by
  unfold vQ;show(h1)▸(aJ some (Array.toList_inj.mp `S))
 unfold jZ;show(key)▸(decide_eq_true hl)
def int_is(k:Int)(v:Value):Value.isInt k v=(intOf v==some k):=by
 induction v<;>first|rfl|(rename_i i t;simp)
def ED(k:Int):∀es:List DictEntry,((es.find? λe=>Value.isInt k e.key).map λe=>oZ e.val)=((es.map nI).find? λp=>p.1==some k).map (·.2)
 |[]=>rfl
 |e::r=>by
  simp only[List.map_cons,List.find?_cons,List.find?_cons,show Value.isInt k e.key=((nI e).1==some k)from int_is k e.key];split
  ·rfl
  ·show ED k r
def aar{d:Addr}{rs:List (Option Int×Option V)}(h:EB K d=some rs):qa K d=true/\∃es,oh K d=some es/\∀k,(findBy Value.isInt es k).map oZ=(rs.find? λp=>p.1==some k).map (·.2):=by
 show aj (dj h) λq h1 h=>?_;show aI (nN h) λh2 h=>?_;show⟨by unfold qa;rw[h1];rfl,q.2.1,?_,λk=>?_⟩
 ·unfold oh
  show(h1)▸(az h2)
 ·rw[<-bN h,<-ED]
  unfold findBy;rw[<-Array.find?_toList,Option.map_map];rfl
def aas{d:Addr}{rs:List (Option Int)}(h:EC K d=some rs):∃es,rf K d=some es/\∀k,(es.toList.any λe=>Value.isInt k e.2)=rs.any (·==some k):=by
 show aj (dj h) λq h1 h=>?_;show aI (nN h) λh2 h=>?_;show aA q.2.1 ?_ (λk=>?_)
 ·unfold rf
  show(Eq.symm (h1))▸(az h2)
 ·simp only[<-bN h,List.any_map]
  show aJ (List.any q.2.1.toList) (funext λe=>int_is k e.2)
def Ms:∀l k,(lx l k).map nI=l.map uf
 |[],_=>rfl
 |r::l,k=>by simp only[lx,List.map_cons,Ms l];rfl
def Mt:∀l k,(kI l k).map nI=l.map uf
 |[],_=>rfl
 |r::l,k=>by simp only[kI,List.map_cons,Mt l];rfl
def aat(l:List Pr)(k:Nat):(fJ l k).map nI=l.map uf:=by unfold fJ;split;show Mt _ _;show Ms _ _
def Mu(j:Int)(t:Tok)(x:Str)(u:Tok):intKeyed (lX j t x u)=true:=beq_self_eq_true _
def Mv:∀l k,(lx l k).all intKeyed=true
 |[],_=>rfl
 |r::l,k=>by simp only[lx,List.all_cons,Mu,Mv l];rfl
def Mw:∀l k,(kI l k).all intKeyed=true
 |[],_=>rfl
 |r::l,k=>by simp only[kI,List.all_cons,Mu,Mw l];rfl
def aau(l:List Pr)(k:Nat):(fJ l k).all intKeyed=true:=by unfold fJ;split;show Mw _ _;show Mv _ _
def Mx(T:Nat):∀(cs:List (List Pr)) (st:ly),st.1.all intKeyed=true->(cs.foldl (dB T) st).1.map nI=st.1.map nI++cs.flatten.map uf/\(cs.foldl (dB T) st).1.all intKeyed=true
 |[],st,h=>⟨by simp,h⟩
 |c::cs,st,h=>by
  have e:(dB T st c).1=st.1++fJ c (T+st.2.2):=rfl;obtain⟨h1,h2⟩:=Mx T cs (dB T st c) (by simp only[e,List.all_append,h,aau];rfl);show⟨?_,h2⟩;simp only[List.foldl_cons,h1,e,List.map_append,aat,List.flatten_cons,List.map_append,List.append_assoc]
def My(T:Nat):(jF T).1.map nI=lB.map uf/\(jF T).1.all intKeyed=true:=by
 show aI (Mx T (l6++[oG]) ([],[],0) rfl) λh1 h2=>?_;show⟨h1,h2⟩
abbrev xg:List Nat:=[223,383]++(List.range 7).map (64256+·)++lT.flatMap λk=>eP.map λl=>119711+52*k+l
abbrev sz:List Nat->List Pr->List (Nat×Str)
 |c::cs,r::l=>match r.1==Int.ofNat c with
  |true=>(c,r.2)::sz cs l
  |false=>sz (c::cs) l
 |_,_=>[]
def EE:∀(l:List Pr) (cs:List Nat),∀p∈sz cs l,(Int.ofNat p.1,p.2)∈l
 |[],cs,p,h=>by induction cs<;>cases h
 |r::l,[],p,h=>by cases h
 |r::l,c::cs,p,h=>by
  replace h:p∈(match r.1==Int.ofNat c with|true=>(c,r.2)::sz cs l|false=>sz (c::cs) l):=h
  generalize e:(r.1==Int.ofNat c)=b at h;induction b with
  |true=>
   rcases cj h with rfl|h
   ·show(Eq.symm (eq_of_beq e))▸(.head _)
   ·show .tail _ (EE l cs p h)
  |false=>show .tail _ (EE l _ p h)
abbrev aav:Bool:=sz xg lB==xg.map λc=>(c,T (jg c))
def aaw:aav=true:=by kernel_rfl
def aax:sz xg lB=xg.map λc=>(c,T (jg c)):=eq_of_beq aaw
def aay:(lB.all λr=>decide (180<r.1))=true:=by kernel_rfl
def aaz:∀c∈sy,if(qq c||kF.contains c)=true then c<=180 else c∈xg:=by decide+kernel
def aaA{l:List Pr}(hn:(hs l).Nodup){r:Pr}(h:r∈l):(l.find? λq=>q.1==r.1)=some r:=by
 induction l with
 |nil=>cases h
 |cons q l ih=>
  unfold hs at hn;rw[List.map_cons,List.nodup_cons]at hn;simp only[List.find?_cons];by_cases e:q.1=r.1
  ·rw[show(q.1==r.1)=true from beq_iff_eq.mpr e]
   rcases cj h with rfl|h
   ·rfl
   ·show absurd (List.mem_map.mpr (aA r h (by rw[e]))) hn.1
  ·rw[show(q.1==r.1)=false from gm e]
   rcases cj h with rfl|h
   ·show absurd rfl e
   ·show ih hn.2 h
def aaB:∀c∈sy,(lB.find? λr=>r.1==Int.ofNat c).map (·.2)=zS c:=λc hc=>by
 have h:=aaz c hc;unfold zS;by_cases q:(qq c||kF.contains c)=true
 ·rw[az q]at h|-
  rw[Option.map_eq_none_iff,List.find?_eq_none];intro r hr e;have:=of_decide_eq_true (List.all_eq_true.mp aay r hr);lia
 ·rw[aN q]at h|-
  have:=aaA (Es Mm) (EE _ _ _ (by rw[aax];show List.mem_map.mpr (aA c h rfl)));simp only[this];rfl
def aaC{l:List DictEntry}(h:K.lookup 144=some (bU l))(h1:l.map nI=lB.map uf)(h2:l.all intKeyed=true):qa K 144=true/\∃es,oh K 144=some es/\∀c∈sy,(findBy Value.isInt es (c:Int)).map oZ=(zS c).map λx=>some (.str x):=by
 show⟨by unfold qa;rw[(by unfold p9;rw[h];rfl:p9 K 144=some (bU l,l.toArray,l.length))];rfl,l.toArray,?_,λc hc=>?_⟩
 ·unfold oh
  rw[(by unfold p9;rw[h];rfl:p9 K 144=some (bU l,l.toArray,l.length))];show az ⟨by rw[<-Array.all_toList];show h2,rfl⟩
 ·have e:(findBy Value.isInt l.toArray (c:Int)).map oZ=((l.map nI).find? λp=>p.1==some (c:Int)).map (·.2):=by
   rw[<-ED];unfold findBy;rw[<-Array.find?_toList,Option.map_map];rfl
  simp only[e,h1,<-aaB c hc,List.find?_map,Option.map_map,Option.map_map];show aJ (Option.map _) (aJ (List.find? · lB) (funext λr=>?_));rfl
def aaD:∀c∈sy++dZ,(ug.any λk=>k==Int.ofNat c)=dZ.contains c:=by decide+kernel
def aaE:∀k,k<32->((List.range 10).find? λj=>Int.ofNat (2^j)==Int.ofNat (2^k))=if k<10 then some k else none:=by decide+kernel
def aaF(k:Nat)(hk:k<32):(zR.find? λp=>p.1==some (Int.ofNat (2^k))).map (·.2)=if k<10 then some (some (.str (jf k)))else none:=by
 unfold zR;simp only[List.find?_map,Option.map_map];have e:((λp:Option Int×Option V=>p.1==some (Int.ofNat (2^k)))∘λk=>(some (Int.ofNat (2^k)),some (V.str (jf k))))=λj=>Int.ofNat (2^j)==Int.ofNat (2^k):=funext λj=>by
  rfl
 simp only[e,aaE k hk];split<;>rfl
def Mz{d:Addr}(h:qa K d=true)(O:Hp):gR K (.con (.ref d)) "get" O=some ((.con (.builtin "dict.get"),[.con (.ref d)]),O):=by
 unfold gR;dsimp only;rw[aN (λq=>absurd q.2 `D)];unfold og;dsimp only;rw[az h];rfl
def aaG(h:Mp K=Mq):AF K su/\qE K=some l7/\vS K/\W.nsIn K mainGlobals "law"=some (some (.ref 385)):=by
 have hn:(nT.map λr=>mP K r.1)=nT.map λr=>some (.con (.ref r.2)):=aJ (·.2.1.2) h;have hm:=aJ (·.2.2.1.1) h;have hc:cT.map (zP K)=cT.map zQ:=aJ (·.2.2.1.2.2.1) h;have l1:iI K=some 333:=aJ (·.2.2.2.1.1) h;have p1:xf K 194=some nh.toList:=aJ (·.2.2.2.2.1.1) h;have d2:=aJ (·.2.2.2.2.2.2.1) h;have F:=λ(i:Nat) {r} (e:fT[i]? =some r) (q:r.1≠333)=>aam (uh (show(fT.map λr=>Ew K r.1)=fT.map Ey from(aJ (·.1.1) h)) i e) l1 q;have G:=λ(i:Nat) {r} (e:gT[i]? =some r)=>aan (uh (aJ (·.2.1.1) h:(gT.map λr=>(mP K r.1,gq K r.2))=gT.map λr=>(some r.2,true)) i e);have N:=λ(i:Nat) {r} (e:nT[i]? =some r)=>(⟨uh hn i e⟩:mC K r.1 (.con (.ref r.2)));have Me:=λ(i:Nat) {r} (e:mT[i]? =some r)=>aao (uh hm i e);have At:=λ(i:Nat) {r} (e:aT[i]? =some r)=>aap (uh (aJ (·.2.2.1.2.1) h:aT.map (zO K)=aT.map λ_=>(true,true,true,true)) i e);have C:=λ(i:Nat) {r} (e:cT[i]? =some r)=>aaq (uh hc i e);have nl:∀g:Addr,g≠333->iI K≠some g:=λg q=>by rw[l1];intro e;show q (bN e).symm
 show aj (eo (aJ (·.1.2.2) h)) λlfd x1 x2=>?_;have x3:=aJ (·.2.1) x2;have hP:tG K su:=by
  obtain⟨q1,es,q2,q3⟩:=aaC d2 (My 508).1 (My 508).2;show aj (aas (aJ (·.2.2.2.2.2.2.2) h:EC K 133=some (ug.map some))) λss t1 t2=>?_;have mem:∀c,mJ c=true->c∈sy++dZ:=λc hc=>by
   unfold mJ lg at hc;simp only[Bool.or_eq_true,List.contains_iff_mem]at hc;unfold sy;simp only[List.mem_append];show hc
  show⟨N 1 rfl,N 2 rfl,λc hc O=>?_,λc hc O=>?_,Mz q1,G 14 rfl,F 6 rfl `D,G 15 rfl,F 7 rfl `D⟩
  ·have h2:=t2 (c:Int)
   simp only[List.any_map]at h2;unfold yb;rw[show rf K su.b1=some ss from t1];simp only[h2,<-(aJ (List.any ug) (funext λk=>by simp):(ug.any λk=>k==Int.ofNat c)=ug.any ((λx=>x==some (c:Int))∘some)),(aaD c (mem c hc))]
  ·have hm:c∈sy:=by
    unfold lg at hc;simp only[Bool.or_eq_true,List.contains_iff_mem]at hc;show List.mem_append.mpr hc
   have:=q3 c hm;delta tc args;dsimp only;delta ya nd;dsimp only;rw[Fc,az (⟨rfl,by decide⟩),show oh K su.b3=some es from q2];dsimp only;unfold zS at this;unfold wk;by_cases hq:qq c=true\/kF.contains c=true
   ·rw[az (by simpa using hq)]at this
    rw[az hq,Option.map_eq_none_iff.mp this];rfl
   ·rw[aN (by simpa using hq)]at this
    rw[aN hq];show aj (eo this) λv v1 v2=>?_;rw[v1];dsimp only;rw[v2];rfl
 have hFl:yI K su.flags:=by
  obtain⟨q1,es,q2,q3⟩:=aar (aJ (·.2.2.2.2.2.1) h:EB K 39=some zR);show⟨N 0 rfl,Mz q1,λk hk u O=>?_⟩;have:=(q3 (Int.ofNat (2^k))).trans (aaF k hk);delta tc args;dsimp only;delta ya nd;dsimp only;rw[Fc,az (⟨rfl,by decide⟩),show oh K su.flags=some es from q2];dsimp only;by_cases hq:k<10
  ·rw[az hq]at this|-
   show aj (eo this) λv v1 v2=>?_;rw[show findBy Value.isInt es ((2^k:Nat):Int)=some v from v1];dsimp only;rw[v2];rfl
  ·rw[aN hq]at this|-
   rw[show findBy Value.isInt es ((2^k:Nat):Int)=none from Option.map_eq_none_iff.mp this];rfl
 have aaH:tF K su.info (bC 7) "extrainfo":=by
  show aj (eo (aJ (·.1.2.1) h)) λfd y1 y2=>?_;show⟨(EN fd y1 (aJ (·.1) y2) (aJ (·.2.1) y2) (aJ (·.2.2.1) y2) (aJ (·.2.2.2) y2) (by kernel_rfl)),nl _ `D⟩
 show kr (⟨⟨G 0 rfl,G 1 rfl,G 2 rfl,G 3 rfl,G 4 rfl,G 5 rfl,G 6 rfl,G 7 rfl,G 8 rfl,G 9 rfl,G 10 rfl,G 11 rfl⟩,
  ⟨Me 3 rfl,F 9 rfl `D,Me 4 rfl,F 10 rfl `D,Me 5 rfl,F 11 rfl `D,Me 6 rfl,F 12 rfl `D,Me 7 rfl,F 13 rfl `D,At 5 rfl,N 3 rfl,N 4 rfl,Mr p1 (.inl rfl),Mr (aJ (·.2.2.2.2.1.2) h:xf K 199=some ni.toList) (.inr rfl)⟩,
  ⟨G 12 rfl,⟨nl _ `D,(C 0 rfl).2⟩,(C 0 rfl).1,F 2 rfl `D,Me 0 rfl,F 3 rfl `D,Me 1 rfl,F 4 rfl `D,Me 2 rfl,F 5 rfl `D,At 0 rfl,At 1 rfl,At 2 rfl,At 3 rfl,At 4 rfl,(aJ (·.2.2.1.2.2.2) h:W.findIn K (.ref 121) "read"=some none)⟩,
  ⟨G 16 rfl,l1,lfd,x1,(aJ (·.1) x2),x3,(aJ (·.2.2.2) x2)⟩,
  ⟨G 13 rfl,⟨nl _ `D,(C 1 rfl).2⟩,(C 1 rfl).1,F 8 rfl `D⟩,hFl,hP,
  ⟨G 17 rfl,G 18 rfl,G 19 rfl,G 20 rfl,G 21 rfl⟩,⟨_,N 5 rfl⟩,
  G 22 rfl,G 23 rfl,G 24 rfl,G 25 rfl,G 26 rfl,G 27 rfl,G 28 rfl,
  F 0 rfl `D,aaH,F 1 rfl `D,F 14 rfl `D,F 15 rfl `D,F 16 rfl `D,F 17 rfl `D,F 18 rfl `D,F 19 rfl `D,F 20 rfl `D,F 21 rfl `D,F 22 rfl `D,F 23 rfl `D⟩) (aJ (·.2.2.2.1.2.1) h) (λg fd e1 e2=>?_) (aJ (·.2.2.2.1.2.2) h)
 rw[l1]at e1;cases e1;rw[x1]at e2;cases e2;show⟨(aJ (·.2.2.1) x2),(aJ (·.2.2.2) x2)⟩
end
end Mine
set_option maxHeartbeats 0
namespace Mine
open PySem PySem.Calls PyProof.Rows PySem.W
abbrev oJ:BT->Nat->List Obj->Option BT
 |T,_,[]=>some T
 |T,n,o::r=>match((T.ins n o).get n).isSome with
  |true=>oJ (T.ins n o) (n+1) r
  |false=>none
def EF{life:Life}:∀{l:List Obj} {T T':BT} {n:Nat},oJ T n l=some T'->absHeap T' (n+l.length) life=jE (absHeap T n life) l
 |[],T,T',n,h=>by
  cases h;rw[LR];rfl
 |o::r,T,T',n,h=>by
  replace h:(match((T.ins n o).get n).isSome with|true=>oJ (T.ins n o) (n+1) r|false=>none)=some T':=h
  generalize g:((T.ins n o).get n).isSome=b at h;induction b with
  |true=>
   have:=EF (life:=life) h;rw[absHeap_ins g,aaI]at this;rw[show n+(o::r).length=n+1+r.length from by simp;omega];show this
  |false=>show fD h
where
 aaI {h:Heap} {o:Obj} {r:List Obj}:jE (h.push o) r=jE h (o::r):=by
  unfold jE Heap.push;simp
noncomputable abbrev sA:Pos:={line:=84,col:=0,endLine:=85,endCol:=30}
noncomputable abbrev oK:Pos:={line:=86,col:=0,endLine:=86,endCol:=13}
noncomputable abbrev qz:Pos:={line:=253,col:=0,endLine:=270,endCol:=104}
abbrev MA(w:World):Option Shared:=fencedOpening treeTable PW w 2000
abbrev qV:Program:={PW with main:={PW.main with body:=PW.main.body.take 1++kJ.drop 30}}
abbrev lC:List Str:=((PW.main.scope.names.filter λp=>p.2== .local).map (·.1)).filter λx=>!(x==("law":Str)||x==("_sre":Str)||x==("__name__":Str))
abbrev oL:List Str:=importedModules PW.main.body
abbrev aaJ(tg:List Expr)(ks:List (Option Expr))(vs:List Expr)(dp:Pos)(e0:Env)(v:Value):Sem Fin:=(do assignStores e0 v (<-swappedStores tg (.Dict ks vs dp) e0) ((assignEach tg e0).map (·.2)):Sem Flow).wrap (λf=>match f with| .next=>(execs [] e0).wrap doneF deadEnd id id|f=>doneF f) deadEnd id id
abbrev outF(fl:List (List Pr))(la:List Pr)(T:Nat):ly:=dB T (fl.foldl (dB T) ([],[],0)) la
abbrev wholeF{α:Type}(ob:Shared->α)(P:Program)(bd:List Stmt)(e0:Env)(cb:Code)(q:Program)(ls ms:List Str)(tg:List Expr)(ks:List (Option Expr))(vs:List Expr)(dp:Pos)(fl:List (List Pr))(la:List Pr)(w:World):=do
 let s0<-fencedOpening treeTable P w 2000
 let(sa,ta)<-topGo treeTable P w 28 eS 12 s0 (topStub P)
 let T<-oJ .nil 0 sa.heap.objs.toList
 let(f1,S1,c1,p1)<-segRunT treeTable P w 28 eS 1 3000 ⟨T,sa.heap.objs.size,sa.heap.life,sa.gens,sa.drawn,sa.toks,sa.os⟩ (piecesOf (bd.take 13) e0 cb kq B0)
 let T2<-oJ S1.tree S1.n (gj (outF fl la S1.toks))
 let(f2,S2,c2,p2)<-segRunT treeTable P w 28 eS 1 200 ⟨T2,S1.n+(gj (outF fl la S1.toks)).length,S1.life,S1.gens,S1.drawn,S1.toks+(outF fl la S1.toks).2.2,S1.os⟩ ⟨aaJ tg ks vs dp e0 (.ref S1.n),cb,dp,B0⟩
 let(f3,S3,c3,p3)<-segRunT treeTable P w 28 eS 1 3000 S2 (piecesOf (bd.drop 14) e0 cb oK B0)
 let s5<-topRun treeTable P w 28 eS 10 S3.abs ⟨doneF .next,cb,qz,B0⟩
 some ((s0.heap.isNs mainGlobals&&s0.gens.size==0,s0.heap.objs.size,s0.heap.nsMap mainGlobals "__annotations__"),ta,(f1,c1,p1),Nat.ble 28 S1.n,(f2,c2,p2),(f3,c3,p3),
  (staticsOk ms s0.heap s5.heap&&namesBound P s5.heap&&gensDone s5&&laidKept s0.heap s5.heap),openSeen q ls ms (λ_=>true) true s5,ob s5)
abbrev rhsF{α:Type}(cb:Code)(q:Program)(ls:List Str)(vf:α)(_:World):=some ((true,28,eS),(⟨denote treeTable cb,cb,kq,B0⟩:Thread),(Flow.next,cb,sA),true,(Flow.next,cb,oK),(Flow.next,cb,qz),true,openGood q ls,vf)
abbrev W8(s0:Shared)(ta:Thread)(x1 x2 x3:Flow×SharedT×Code×Pos)(s5:Shared):=some ((s0.heap.isNs mainGlobals&&s0.gens.size==0,s0.heap.objs.size,s0.heap.nsMap mainGlobals "__annotations__"),ta,(x1.1,x1.2.2.1,x1.2.2.2),Nat.ble 28 x1.2.1.n,(x2.1,x2.2.2.1,x2.2.2.2),(x3.1,x3.2.2.1,x3.2.2.2),
  (staticsOk oL s0.heap s5.heap&&namesBound PW s5.heap&&gensDone s5&&laidKept s0.heap s5.heap),openSeen qV lC oL (λ_=>true) true s5,oH s5)
abbrev W7(w:World)(s0:Shared)(ta:Thread)(x1 x2 x3:Flow×SharedT×Code×Pos):=(topRun treeTable PW w 28 eS 10 x3.2.1.abs ⟨doneF .next,cE,qz,B0⟩).bind (W8 s0 ta x1 x2 x3)
abbrev W6(w:World)(s0:Shared)(ta:Thread)(x1 x2:Flow×SharedT×Code×Pos):=(segRunT treeTable PW w 28 eS 1 3000 x2.2.1 (piecesOf (kJ.drop 14) fB cE oK B0)).bind (W7 w s0 ta x1 x2)
abbrev W5(w:World)(s0:Shared)(ta:Thread)(x1:Flow×SharedT×Code×Pos)(T2:BT):=(segRunT treeTable PW w 28 eS 1 200 ⟨T2,x1.2.1.n+(gj (jF x1.2.1.toks)).length,x1.2.1.life,x1.2.1.gens,x1.2.1.drawn,x1.2.1.toks+(jF x1.2.1.toks).2.2,x1.2.1.os⟩ ⟨Et (.ref x1.2.1.n),cE,lA,B0⟩).bind (W6 w s0 ta x1)
abbrev W4(w:World)(s0:Shared)(ta:Thread)(x1:Flow×SharedT×Code×Pos):=(oJ x1.2.1.tree x1.2.1.n (gj (jF x1.2.1.toks))).bind (W5 w s0 ta x1)
abbrev W3(w:World)(s0:Shared)(st:Shared×Thread)(T:BT):=(segRunT treeTable PW w 28 eS 1 3000 ⟨T,st.1.heap.objs.size,st.1.heap.life,st.1.gens,st.1.drawn,st.1.toks,st.1.os⟩ (piecesOf (kJ.take 13) fB cE kq B0)).bind (W4 w s0 st.2)
abbrev W2(w:World)(s0:Shared)(st:Shared×Thread):=(oJ .nil 0 st.1.heap.objs.toList).bind (W3 w s0 st)
abbrev W1(w:World)(s0:Shared):=(topGo treeTable PW w 28 eS 12 s0 (topStub PW)).bind (W2 w s0)
abbrev whole(w:World):=(MA w).bind (W1 w)
abbrev rhsW(_:World):=some ((true,28,eS),(⟨denote treeTable cE,cE,kq,B0⟩:Thread),(Flow.next,cE,sA),true,(Flow.next,cE,oK),(Flow.next,cE,qz),true,openGood qV lC,oI)
abbrev MB{α:Type}(_:α):Bool:=true
def abW:MB (@wholeF Nat)=true:=by k_qdec
def abX:MB (@rhsF Nat)=true:=by k_qdec
def aaK(w:World):PySem.W.Fast.tw17590626898342325914 oH PW kJ fB cE qV lC oL qy lZ l5 lA l6 oG (World.withFollow w "special-get-raises" false)=PySem.W.Fast.tw8568103433188807956 cE qV lC oI (World.withFollow w "special-get-raises" false):=by kernel_rfl
def aaL(w:World):PySem.W.Fast.tw17590626898342325914 oH PW kJ fB cE qV lC oL qy lZ l5 lA l6 oG (World.withFollow w "special-get-raises" true)=PySem.W.Fast.tw8568103433188807956 cE qV lC oI (World.withFollow w "special-get-raises" true):=by kernel_rfl
def aaM(w:World):wholeF oH PW kJ fB cE qV lC oL qy lZ l5 lA l6 oG w=rhsF cE qV lC oI w:=by
 rw[show @wholeF= @PySem.W.Fast.tw17590626898342325914 from PySem.W.Fast.te17590626898342325914,show @rhsF= @PySem.W.Fast.tw8568103433188807956 from PySem.W.Fast.te8568103433188807956];show byRow2 (P:=λw=>PySem.W.Fast.tw17590626898342325914 oH PW kJ fB cE qV lC oL qy lZ l5 lA l6 oG w=PySem.W.Fast.tw8568103433188807956 cE qV lC oI w) "special-get-raises" aaK aaL w
def aaN(w:World):whole w=rhsW w:=aaM w
def aaO:kJ=kJ.take 13++([lY]++(kJ.drop 14++[])):=by kernel_rfl
def aaP(w:World)(s:Shared):segRun treeTable PW w 28 eS 1 1 s (blockOf kJ fB cE kq [topFrame kq])=some (.next,s,cE,kq):=by kernel_rfl
def aaQ{l:List Obj}{T:BT}(h:oJ .nil 0 l=some T)(life:Life):absHeap T l.length life=⟨l.toArray,life⟩:=by
 have:=EF (life:=life) h;rw[Nat.zero_add]at this;rw[this];rfl
def EG{A B C D:Type}{x:A×B×C×D}{a:A}{c:C}{d:D}(h:(x.1,x.2.2.1,x.2.2.2)=(a,c,d)):x=(a,x.2.1,c,d):=by
 show aI (dh h) λh1 h=>?_;show Prod.ext h1 (Prod.ext rfl h)
def aaR{w:World}{s0:Shared}(e:MA w=some s0):fencedOpening treeTable PW w 300000=some s0:=by
 show aj (jH (show(importEnds treeTable (opening PW) w 2000 (start (opening PW)).1 (start (opening PW)).2).bind (fenceModules? PW)=some s0 from e)) λs00 q1 q2=>?_;unfold fencedOpening;rw[importEnds_mono 298000 _ _ _ _ q1];show q2
def aaS{w:World}{s0 s5:Shared}{ta:Thread}{x1 x2 x3:Flow×SharedT×Code×Pos}(e:W8 s0 ta x1 x2 x3 s5=rhsW w):
  ((s0.heap.isNs mainGlobals&&s0.gens.size==0)=true/\s0.heap.objs.size=28/\s0.heap.nsMap mainGlobals "__annotations__"=eS)/\ta=⟨denote treeTable cE,cE,kq,B0⟩/\x1=(.next,x1.2.1,cE,sA)/\Nat.ble 28 x1.2.1.n=true/\x2=(.next,x2.2.1,cE,oK)/\x3=(.next,x3.2.1,cE,qz)/\
   (staticsOk oL s0.heap s5.heap&&namesBound PW s5.heap&&gensDone s5&&laidKept s0.heap s5.heap)=true/\openSeen qV lC oL (λ_=>true) true s5=openGood qV lC/\oH s5=oI:=by
 have e:=bN e;have e1:=(dh e).2;have e2:=(dh e1).2;have e3:=(dh e2).2;have e4:=(dh e3).2;have e5:=(dh e4).2;have e6:=(dh e5).2;have e7:=(dh e6).2;have e0:=(dh e).1;show⟨⟨(dh e0).1,dh (dh e0).2⟩,(dh e1).1,EG (dh e2).1,(dh e3).1,EG (dh e4).1,EG (dh e5).1,(dh e6).1,dh e7⟩
def aaT{w:World}{s0 s5:Shared}(z:(s0.heap.isNs mainGlobals&&s0.gens.size==0)=true/\s0.heap.objs.size=28/\s0.heap.nsMap mainGlobals "__annotations__"=eS)(l1:(staticsOk oL s0.heap s5.heap&&namesBound PW s5.heap&&gensDone s5&&laidKept s0.heap s5.heap)=true)
  (rN:topRun treeTable PW w 28 eS 300000 s0 (topStub PW)=some s5):topFrom treeTable PW w 300000 s0=some s5:=by
 unfold topFrom;rw[z.1,z.2.1,z.2.2,rN];change(match staticsOk oL s0.heap s5.heap&&namesBound PW s5.heap&&gensDone s5&&laidKept s0.heap s5.heap with|true=>some s5|false=>none)=_;rw[l1]
def aaU{w:World}{x1:Flow×SharedT×Code×Pos}{S2:SharedT}{T2:BT}(dS:Nat.ble 28 x1.2.1.n=true)(EH:oJ x1.2.1.tree x1.2.1.n (gj (jF x1.2.1.toks))=some T2)
  (e2:segRunT treeTable PW w 28 eS 1 200 ⟨T2,x1.2.1.n+(gj (jF x1.2.1.toks)).length,x1.2.1.life,x1.2.1.gens,x1.2.1.drawn,x1.2.1.toks+(jF x1.2.1.toks).2.2,x1.2.1.os⟩ ⟨Et (.ref x1.2.1.n),cE,lA,B0⟩=some (.next,S2,cE,oK)):
  ∃n,n<=200200/\segRun treeTable PW w 28 eS 1 n x1.2.1.abs (piecesOf [lY] fB cE sA B0)=some (.next,S2.abs,cE,oK):=by
 generalize x1.2.1=S1 at*;have MC:S1.abs.heap.objs.size=S1.n:=absHeap_size _ _ _;have hsx:sx S1.abs (gj (jF S1.abs.toks)) (jF S1.abs.toks).2.2=(⟨T2,S1.n+(gj (jF S1.toks)).length,S1.life,S1.gens,S1.drawn,S1.toks+(jF S1.toks).2.2,S1.os⟩:SharedT).abs:=by
  delta sx SharedT.abs;dsimp only;rw[EF EH]
 show aag (w:=w) (s:=S1.abs) (p:=sA) (N:=200) (s':=S2.abs) (p':=oK) (by rw[MC];show Nat.le_of_ble_eq_true dS) (by rw[hsx,MC];show segRun_of e2)
def aaV{w:World}{s0 sa s5:Shared}{T:BT}{S1 S2 S3:SharedT}{n:Nat}(hn:n<=200200)(ea:topGo treeTable PW w 28 eS 12 s0 (topStub PW)=some (sa,⟨denote treeTable cE,cE,kq,B0⟩))(eT:oJ .nil 0 sa.heap.objs.toList=some T)
  (e1:segRunT treeTable PW w 28 eS 1 3000 ⟨T,sa.heap.objs.size,sa.heap.life,sa.gens,sa.drawn,sa.toks,sa.os⟩ (piecesOf (kJ.take 13) fB cE kq B0)=some (.next,S1,cE,sA))
  (r2:segRun treeTable PW w 28 eS 1 n S1.abs (piecesOf [lY] fB cE sA B0)=some (.next,S2.abs,cE,oK)) (e3:segRunT treeTable PW w 28 eS 1 3000 S2 (piecesOf (kJ.drop 14) fB cE oK B0)=some (.next,S3,cE,qz))
  (e5:topRun treeTable PW w 28 eS 10 S3.abs ⟨doneF .next,cE,qz,B0⟩=some s5):topRun treeTable PW w 28 eS 300000 s0 (topStub PW)=some s5:=by
 have hTa:(⟨T,sa.heap.objs.size,sa.heap.life,sa.gens,sa.drawn,sa.toks,sa.os⟩:SharedT).abs=sa:=by
  have:=aaQ eT sa.heap.life;rw[Array.length_toList]at this;unfold SharedT.abs;rw[this]
 have r1:=piece_app (segRun_of e1) (piece_app r2 (piece_app (segRun_of e3) (piece_nil e5:topRun treeTable PW w 28 eS 10 S3.abs (restOf [] fB cE qz [topFrame kq])=some s5)));rw[hTa,<-aaO]at r1;have rN:=topRun_mono (300000-(12+(1+(3000+(n+(3000+10)))))) _ _ _ _ (go_top ea (piece_block (aaP w sa) r1));rw[show 12+(1+(3000+(n+(3000+10))))+(300000-(12+(1+(3000+(n+(3000+10))))))=300000 from Nat.add_sub_cancel' (a9 (Nat.add_le_add_left (Nat.add_le_add_left (Nat.add_le_add_left (Nat.add_le_add_right hn _) _) _) _) `D)]at rN;show rN
def aaW:LeftO PW qV lC (λ_=>true) oH (λ_=>oI) 300000:=λw=>by
 have e:=aaN w;show aj (dj e) λs0 e0 e=>?_;show aj (dj e) λst ea e=>?_;show aj (dj e) λT eT e=>?_;show aj (dj e) λx1 e1 e=>?_;show aj (dj e) λT2 EH e=>?_;show aj (dj e) λx2 e2 e=>?_;show aj (dj e) λx3 e3 e=>?_;show aj (dj e) λs5 e5 e=>?_;show EL (aaS (w:=w) e) λz ht h1 dS h2 h3 l1 l2 l3=>?_;show aj (aaU dS EH (e2.trans (aJ some h2))) λn hn r2=>?_;have rN:=aaV hn (ea.trans (aJ some (Prod.ext rfl ht))) eT (e1.trans (aJ some h1)) r2 (e3.trans (aJ some h3)) e5;unfold openEnds;rw[aaR e0];change(topFrom treeTable PW w 300000 s0).map _=_;rw[aaT z l1 rN];show aJ some (Prod.ext l2 l3)
end Mine
namespace Mine
open PySem PySem.W PyProof.Rows PySem.Spec PySem.Calls
abbrev YP(_:World)(h:Heap):Prop:=∃s:Shared,oH s=oI/\∀b o,s.heap.get? b=some o->h.get? b=some o
def ints_rep{R:WRecords}{cl:Str->Option Addr}{h:Heap}{φ:Ph}:∀(ns:List Int) (vs:List Value) (as:List Addr),ReadsAllW R cl h vs (ns.map WData.int) as->aD h φ (bt ns) vs
 |[],vs,as,r=>(readsAllW_nil_inv r).1.symm▸nc
 |n::ns,vs,as,r=>by
  show z3 (readsAllW_cons_inv r) λv vs as1 as2 dW oC r1 r2=>?_;subst dW;show aj (readsW_int_inv r1) λt hr _=>?_;subst hr;show cF _ _ rfl fm (ints_rep ns _ _ r2)
def aaX{R:WRecords}(xs:List WData)(h:WShape.hasItems R xs .int=true):∃ns:List Int,xs=ns.map WData.int:=by
 induction xs with
 |nil=>show⟨[],rfl⟩
 |cons x r ih=>
  show aU (hasW_int (fb (h)).1) λn hr=>?_;show aU (ih (fb (h)).2) λns tB=>?_;subst hr tB;show⟨n::ns,rfl⟩
def aaY{args:List WData}(rx:PySem.Challenge.rw_uc0060_01.row.toRowW.claim.pre args=true):∃ns:List Int,args=[.list (ns.map .int)]/\ns.length<=63:=by
 show aI (pre_splitW rx) λh1 h2=>?_;show ck (hasAllW_cons (h1)) λd r ay h3 h4=>?_;subst ay;have:=hasAllW_nil h4;clear h4;subst this;show aj (hasW_list h3) λxs aF h5=>?_;subst aF;obtain⟨ns,rfl⟩:=aaX xs h5;show aA ns rfl ?_;have h2:WTm.holds [] (.and (.not (.lt (.lit (.int 63)) (.len (.arg 0)))) (.lit (.bool true))) {args:=[.list (ns.map .int)]}=true:=h2;have h3:WTm.value [] (.and (.not (.lt (.lit (.int 63)) (.len (.arg 0)))) (.lit (.bool true))) {args:=[.list (ns.map .int)]}=some (.bool (!decide ((63:Int)<(ns.length:Int)))):=by
  have hl:W.less? (.int 63) (.int ((ns.length:Nat):Int))=some (decide ((63:Int)<(ns.length:Int))):=by
   rfl
  simp only[WTm.value,List.getElem?_cons_zero,bq,hl,Option.map_some];cases decide ((63:Int)<(ns.length:Int))<;>rfl
 unfold WTm.holds at h2;rw[h3]at h2;cases hq:decide ((63:Int)<(ns.length:Int))with
 |true=>rw[hq]at h2;cases h2
 |false=>have:=of_decide_eq_false hq;omega
def aaZ{w:World}{aw:Shared}{mg mb:Str->Option Value}(hg:aw.heap.Ns mainGlobals mg)(hb:aw.heap.Ns builtinsNs mb)(uw:∀x:Str,x≠"__name__"->mb x=bootBuiltins x)(aa0:aw.heap.NoLimit)(Y:YP w aw.heap){fa:Addr}(o6:mg "law"=some (.ref fa))
  {sc:List Int} (gE:sc.length<=63) {l:Addr} {cs:List Value} (hl:aw.heap.IsList l cs.toArray) (hr:aD aw.heap ⟨[l7],[]⟩ (bt sc) cs):
  wpAny (Mo w) callerA (PySem.call (.ref fa) [.ref l]) (λv s'=>v= .bool true/\OldK aw.heap s'.heap/\s'.os=aw.os/\s'.gens=aw.gens) (λ_ _=>False) aw:=by
 symm
 show aj (Y) λs hs kk=>?_;unfold oH oI at hs;simp only[Prod.mk.injEq]at hs;show iS (hs) λo1 o2 o3=>?_;show nJ (aaG o1) λaf lt lo lw=>?_;have hfa:fa=385:=by
  have:=W.mg_of ((Mn s.heap).keeps kk) hg lw;rw[this]at o6;cases o6;rfl
 subst hfa;have ht:=kk _ _ o2;show aU (Option.isSome_iff_exists.mp o3) λos ho3=>?_;have ne:∀a,a≠l7->Ph.Out ⟨[l7],[]⟩ a:=λa h=>⟨λq=>h (fW q),λq=>nomatch q⟩;have r:aX w ⟨[l7],[]⟩ [.tab] aw.heap:=by
  show⟨rfl,by simp,λa ha=>?_,λa ha=>(nomatch ha),λa _ ha=>(nomatch ha),λi a ob e1 e2=>?_,(aA .tab rfl rfl)⟩
  ·show(Eq.symm (fW ha))▸(⟨_,ht⟩)
  ·match i,e1,e2 with
   |0,e1,e2=>cases e1;cases e2;show ht
   |n+1,e1,e2=>cases e2
 have b:cO (fragOf s.heap) ⟨[l7],[]⟩ aw.heap:=⟨((Mn s.heap).keeps kk),λa o e=>ne a (λq=>(by decide:l7∉Eu) (q▸aah _ e)),⟨mg,hg⟩,aa0,ne _ `D,(aA mb hb uw),ne _ `D,ne _ `D,⟨ne _ `D,os,kk _ _ ho3⟩,lt.symm,by simp⟩;show aU (ZH (n:=0) (O:=[.tab]) af rfl sc gE) λaa e=>?_;left;have aa1:=ne l (by
  rintro rfl;show bK (hl) λo h1 h2 _=>?_;rw[ht]at h1;cases h1;cases h2)
 have main:=(SN (w:=w) lo 8 callerA (cW rfl (by decide+kernel) (by decide+kernel):Ce 8 callerA)).calls (.con (.ref 385)) [.lst (bt sc)] [] (.ref 385) [.ref l] [] _ _ _ r b (by delta ao;rfl) (all1 (by show fC l cs rfl aa1 hl hr)) ⟨rfl,nc⟩ _ _ e;show bg main (λc s' yX=>bK yX λaB x r' p=>?_) λ_ _ h=>h.elim;show kr p ⟨λd o ed=>?_,x.old⟩ x.os x.gens;by_cases hd:d=l7
 ·subst hd
  rw[ht]at ed;cases ed;show aj (r'.zero) λob z1 z2=>?_;have q:=r'.objs 0 l7 ob (x.get 0 l7 rfl) z1;have o5:isCodeTable aw.heap l7:=by
   obtain⟨_,g1,fd,g2,g3,_,_⟩:=af.hx;simp only[Bool.and_eq_true]at g3;show bK (HJ b g3.1.2 (lt.symm.trans (by unfold qE;simp only[g1,Option.bind_some,g2,Option.bind_some]:qE (fragOf s.heap)=tabIn (fragOf s.heap) fd.code)) rfl ht) λc _ _ B5=>?_;show B5.isCodeTable
  induction ob with
  |tab=>show .inl q
  |cell v=>
   show aU (q) λvs q=>?_;show .inr (.inl ⟨o5,rfl,#[],vs,rfl,by rw[q];simp⟩)
  |_=>cases z2
 ·show .inl (x.keep d o ed (λq=>hd (fW q)) (λq=>nomatch q))
def aa2(args ds:List WData):PySem.Challenge.rw_uc0060_01.row.toRowW.claim.post args (.bool true) ds=true:=by kernel_rfl
set_option tactic.hygienic true in
def aa3{w:World}{dr aw:Shared}{mg mb:Str->Option Value}{q:Program}{loose:List Str}{XP:(Str->Option Value)->Heap->Prop}(G:Ground q loose [] XP w dr mg mb aw.heap)(Y:YP w aw.heap){fa:Addr}(o6:mg "law"=some (.ref fa))(BO:aw.gens= #[])
  {args:List WData} {vals:List Value} {as:List Addr} (rx:PySem.Challenge.rw_uc0060_01.row.toRowW.claim.pre args=true) (EI:ReadsAllW [] (classAt dr.heap) aw.heap vals args as):
  wpAny (Mo w) callerA (PySem.call (.ref fa) vals) (λv s'=>GoodWG PySem.Challenge.rw_uc0060_01.row.toRowW.claim (classAt dr.heap) (ExcName.means dr.heap) args aw (.ok (.ret v)) s')
   (λe s'=>GoodWG PySem.Challenge.rw_uc0060_01.row.toRowW.claim (classAt dr.heap) (ExcName.means dr.heap) args aw (.error e) s') aw:=by
 show aj (aaY rx) λsc aF gE=>?_;subst aF;show z3 (readsAllW_cons_inv EI) λv vs as1 as2 dW oC r1 r2=>?_;subst dW;subst oC;obtain⟨rfl,rfl⟩:=readsAllW_nil_inv r2;obtain⟨l,o,xs,n,ai,e0,h1,h2,h3,h4,_⟩:=readsW_list_open r1;subst e0
 ·show bg (aaZ (w:=w) G.T.g G.T.b G.T.builtins G.T.nolimit Y o6 gE (⟨o,h1,h2,n,by show h3⟩:aw.heap.IsList l xs.toList.toArray) (ints_rep sc _ _ h4)) (λv s' aa4=>nJ aa4 λe1 e2 e3 e4=>?_) λ_ _ h=>h.elim
  subst e1;show kr (.inl (EU (.bool true) (.bool true) ([]) rfl (λ_=>rfl) (.bool true) (aa2 _ _) (λ_=>⟨List.nodup_nil,λ_ h=>nomatch h⟩))) e2 e3 (.of_eq (e4.trans BO))
end Mine
open PySem PySem.W PyProof.Rows
theorem PySem.Challenge.cw_uc0060_01_holds : PySem.Challenge.rw_uc0060_01.Holds := by
 show holds_law (by decide+kernel) λabY=>?_;show holds_open (q:=Mine.qV) (loose:=Mine.lC) (Xt:=λ_=>true) (XP:=λ_ _=>True) (Yf:=Mine.oH) (Ya:=λ_=>Mine.oI) (YP:=Mine.YP) (N:=300000) Mine.aaW (λ_ s e=>⟨s,e,λ_ _ h=>h⟩) (λ_ _ _ ⟨s,e,k⟩ k'=>⟨s,e,λb o h=>k' b o (k b o h)⟩) (λ_ _=>trivial) (λ_ _ _ _ _=>trivial) (by rfl) (by rfl) (by rfl) (λs e=>recFacts_of (by rfl)) (by rfl) `A (by decide+kernel) ⟨rfl,rfl,rfl,rfl,rfl,by decide+kernel⟩ ?hw ?hc
 case hw=>w_witness2
 case hc=>
  intro w dr aw mg mb G Y fa o pm cd doc dV kV ho hd iW hD o6 hg args vals as rx abZ EI Vw hlo;show Mine.aa3 G Y o6 hg rx EI
